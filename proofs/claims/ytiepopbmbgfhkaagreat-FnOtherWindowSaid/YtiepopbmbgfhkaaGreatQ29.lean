/-
  FnExecutedAgain: the walk.
  FnExecutedAgain: the law's walk.
-/
import Derived.Test.YtiepopbmbgfhkaaGreatQ27
import Derived.Test.YtiepopbmbgfhkaaGreatQ28
namespace Go.Proofs.YtiepopbmbgfhkaaGreat
open Go.RowKit
set_option maxHeartbeats 4000000
set_option maxRecDepth 20000
set_option linter.unusedVariables false
set_option linter.unusedSimpArgs false

/-- A session without suggestions, history and a line. -/
def Raw.bare (S : Raw) : Raw := { S with offs := [], hist := [], begun := .empty, exit := .empty }
theorem Raw.sess_ok {S : Raw} (h : RawOk S) : SessOk S.sess :=
  ⟨h.hpre, h.hpres, by have := h.m1; show 1 ≤ S.most.toNat; omega, by have := h.m2; show S.most.toNat ≤ 10; omega, by have := h.c1; show 13 ≤ S.cols.toNat; omega, by have := h.c2; show S.cols.toNat ≤ 120; omega, h.hsep, h.hseps, h.hb, h.hbs, h.he, h.hes, h.ho, h.hol, h.hh, h.hhl⟩
theorem Raw.sess_cells {S : Raw} (h : RawOk S) (ov hv : Value) : S.sess.cells ov hv = S.cells ov hv := by
  have h1 := h.m1
  have h2 := h.c1
  unfold Sess.cells Raw.cells
  have e1 : ((S.sess.most : Nat) : Int) = S.most := by show ((S.most.toNat : Nat) : Int) = S.most; omega
  have e2 : ((S.sess.cols : Nat) : Int) = S.cols := by show ((S.cols.toNat : Nat) : Int) = S.cols; omega
  rw [e1, e2]
  rfl

def crT : ByteArray := ⟨#[13]⟩
def upT : ByteArray := ⟨#[27, 91, 65]⟩
def dnT : ByteArray := ⟨#[27, 91, 66]⟩
def dT : ByteArray := ⟨#[4]⟩

section
variable {q : Cp} {down : Bool} {text : ByteArray}
theorem putT_new (v : ByteArray) : putT .empty 0 v = v := insert_empty v
theorem toList_mk (t : ByteArray) : (⟨t.data.toList.toArray⟩ : ByteArray) = t := dat_string t

theorem prn_ne {t : ByteArray} (h : t.size ≠ 0) : t ≠ .empty ∧ t.data.toList ≠ [] := by
  refine ⟨fun e => h (by rw [e]; rfl), fun e => h ?_⟩
  have : t.data.toList.length = 0 := by rw [e]; rfl
  simpa using this

theorem again_steps {S : Sess} (ho : S.offs = []) (hm : 1 ≤ S.most) (hp : Prn text) (hne : text.size ≠ 0) :
    S.nsFed ns0 text.data.toList = (NS text text.size [] [.empty] 0 [], false) ∧
    S.nsFed (NS text text.size [] [.empty] 0 []) crT.data.toList = (NS .empty 0 [text] [text, .empty] 1 [text], false) ∧
    S.nsFed (NS .empty 0 [text] [text, .empty] 1 [text]) upT.data.toList = (NS text text.size [text] [text, .empty] 0 [text], false) ∧
    S.nsFed (NS text text.size [text] [text, .empty] 0 [text]) crT.data.toList = (NS .empty 0 [text, text] [text, text, .empty] 2 [text, text], false) ∧
    S.nsFed (NS .empty 0 [text, text] [text, text, .empty] 2 [text, text]) dT.data.toList = (NS .empty 0 [text, text] [text, text, .empty] 2 [text, text], true) := by
  have hq : (S.cp 0 0).offs = [] := ho
  have hqm : 1 ≤ (S.cp 0 0).most := hm
  have hn := prn_ne hne
  refine ⟨?_, ?_, ?_, ?_, ?_⟩
  · unfold Sess.nsFed ns0
    rw [ns_text hq hqm (key_text hn.2 (by rw [toList_mk]; exact hp)), toList_mk, putT_new]
    simp
  · unfold Sess.nsFed
    exact ns_enter hq hqm key_r hn.1 rfl
  · unfold Sess.nsFed
    exact (ns_up (l := upT.data.toList) (t := .empty) (k := 0) (hs := [text]) (ts := [text, .empty]) (hsel := 1) (ls := [text]) hq hqm key_up (by simp) (by omega)).trans rfl
  · unfold Sess.nsFed
    exact ns_enter hq hqm key_r hn.1 rfl
  · unfold Sess.nsFed
    exact ns_d hq hqm key_d

theorem ns_is {t : ByteArray} {k : Nat} {hs ts : List ByteArray} {hsel : Nat} {ls : List ByteArray} (ht : Prn t) (hts : t.size ≤ 500) (hk : k ≤ t.size) (hh : ∀ x ∈ hs, Prn x ∧ x.size ≤ 500) (hhl : hs.length ≤ 1000)
    (hT : ∀ x ∈ ts, Prn x ∧ x.size ≤ 500) (hTl : ts.length ≤ 1001) (hsl : hsel < ts.length) (hl : ls.length ≤ 900) : NsOk (NS t k hs ts hsel ls) :=
  ⟨rfl, rfl, fun I => ns_ok ht hts hk hh hhl hT hTl hsl hl⟩

theorem again_play {S : Sess} (ho : S.offs = []) (hm : 1 ≤ S.most) (hp : Prn text) (hne : text.size ≠ 0) (hs : text.size ≤ 40) (chunks : List ByteArray) (hc : chunks = [text, crT, upT] ∨ chunks = [text, crT, upT, crT, dT]) :
    (∀ i, i ≤ chunks.length → NsOk (play S.nsFed ns0 (chunks.take i)).1) ∧ (∀ i (hi : i < chunks.length), NsKey (play S.nsFed ns0 (chunks.take i)).1 chunks[i]) := by
  obtain ⟨s1, s2, s3, s4, s5⟩ := again_steps ho hm hp hne
  have hn := prn_ne hne
  have h0 : ∀ x ∈ ([] : List ByteArray), Prn x ∧ x.size ≤ 500 := fun x hx => by cases hx
  have hE : Prn .empty ∧ ByteArray.empty.size ≤ 500 := ⟨prn_empty, by decide⟩
  have hX : Prn text ∧ text.size ≤ 500 := ⟨hp, by omega⟩
  have hXE : ∀ x ∈ ([text, .empty] : List ByteArray), Prn x ∧ x.size ≤ 500 := fun x hx => by
    simp only [List.mem_cons, List.not_mem_nil, or_false] at hx
    rcases hx with rfl | rfl
    · exact hX
    · exact hE
  have hXXE : ∀ x ∈ ([text, text, .empty] : List ByteArray), Prn x ∧ x.size ≤ 500 := fun x hx => by
    simp only [List.mem_cons, List.not_mem_nil, or_false] at hx
    rcases hx with rfl | rfl | rfl
    · exact hX
    · exact hX
    · exact hE
  have hkt : keyOf text.data.toList = 86 := key_text hn.2 (by rw [toList_mk]; exact hp)
  have o0 : NsOk ns0 := ns_is prn_empty (by decide) (by decide) h0 (by decide) (by simpa using hE) (by decide) (by decide) (by decide)
  have o1 : NsOk (NS text text.size [] [.empty] 0 []) := ns_is hp (by omega) (Nat.le_refl _) h0 (by decide) (by simpa using hE) (by decide) (by decide) (by decide)
  have o2 : NsOk (NS .empty 0 [text] [text, .empty] 1 [text]) := ns_is prn_empty (by decide) (by decide) (by simpa using hX) (by simp) hXE (by simp) (by simp) (by simp)
  have o3 : NsOk (NS text text.size [text] [text, .empty] 0 [text]) := ns_is hp (by omega) (Nat.le_refl _) (by simpa using hX) (by simp) hXE (by simp) (by simp) (by simp)
  have o4 : NsOk (NS .empty 0 [text, text] [text, text, .empty] 2 [text, text]) := ns_is prn_empty (by decide) (by decide) (fun x hx => hXXE x (by simp at hx ⊢; exact .inl hx)) (by simp) hXXE (by simp) (by simp) (by simp)
  have p1 : play S.nsFed ns0 [text] = (NS text text.size [] [.empty] 0 [], false) := by unfold play; simp only [List.foldl_cons, List.foldl_nil, stepO]; exact s1
  have p2 : play S.nsFed ns0 [text, crT] = (NS .empty 0 [text] [text, .empty] 1 [text], false) := by
    unfold play; simp only [List.foldl_cons, List.foldl_nil]; unfold stepO; simp only [Bool.false_eq_true, if_false, s1, s2]
  have p3 : play S.nsFed ns0 [text, crT, upT] = (NS text text.size [text] [text, .empty] 0 [text], false) := by
    unfold play; simp only [List.foldl_cons, List.foldl_nil]; unfold stepO; simp only [Bool.false_eq_true, if_false, s1, s2, s3]
  have p4 : play S.nsFed ns0 [text, crT, upT, crT] = (NS .empty 0 [text, text] [text, text, .empty] 2 [text, text], false) := by
    unfold play; simp only [List.foldl_cons, List.foldl_nil]; unfold stepO; simp only [Bool.false_eq_true, if_false, s1, s2, s3, s4]
  have p5 : play S.nsFed ns0 [text, crT, upT, crT, dT] = (NS .empty 0 [text, text] [text, text, .empty] 2 [text, text], true) := by
    unfold play; simp only [List.foldl_cons, List.foldl_nil]; unfold stepO; simp only [Bool.false_eq_true, if_false, s1, s2, s3, s4, s5]
  rcases hc with rfl | rfl
  · refine ⟨fun i hi => ?_, fun i hi => ?_⟩
    · match i, hi with
      | 0, _ => exact o0
      | 1, _ => show NsOk (play S.nsFed ns0 [text]).1; rw [p1]; exact o1
      | 2, _ => show NsOk (play S.nsFed ns0 [text, crT]).1; rw [p2]; exact o2
      | 3, _ => show NsOk (play S.nsFed ns0 [text, crT, upT]).1; rw [p3]; exact o3
    · match i, hi with
      | 0, _ => exact .inl ⟨hkt, by show text.size ≤ 100; omega, hp⟩
      | 1, _ => exact .inr (.inl key_r)
      | 2, _ => exact .inr (.inr (.inl key_up))
  · refine ⟨fun i hi => ?_, fun i hi => ?_⟩
    · match i, hi with
      | 0, _ => exact o0
      | 1, _ => show NsOk (play S.nsFed ns0 [text]).1; rw [p1]; exact o1
      | 2, _ => show NsOk (play S.nsFed ns0 [text, crT]).1; rw [p2]; exact o2
      | 3, _ => show NsOk (play S.nsFed ns0 [text, crT, upT]).1; rw [p3]; exact o3
      | 4, _ => show NsOk (play S.nsFed ns0 [text, crT, upT, crT]).1; rw [p4]; exact o4
      | 5, _ => show NsOk (play S.nsFed ns0 [text, crT, upT, crT, dT]).1; rw [p5]; exact o4
    · match i, hi with
      | 0, _ => exact .inl ⟨hkt, by show text.size ≤ 100; omega, hp⟩
      | 1, _ => exact .inr (.inl key_r)
      | 2, _ => exact .inr (.inr (.inl key_up))
      | 3, _ => exact .inr (.inl key_r)
      | 4, _ => exact .inr (.inr (.inr (.inr ⟨key_d, by show (play S.nsFed ns0 [text, crT, upT, crT]).1.t = .empty; rw [p4]; rfl⟩)))

theorem again_end {S : Sess} (ho : S.offs = []) (hm : 1 ≤ S.most) (hp : Prn text) (hne : text.size ≠ 0) :
    play S.nsFed ns0 [text, crT, upT] = (NS text text.size [text] [text, .empty] 0 [text], false) ∧ play S.nsFed ns0 [text, crT, upT, crT, dT] = (NS .empty 0 [text, text] [text, text, .empty] 2 [text, text], true) := by
  obtain ⟨s1, s2, s3, s4, s5⟩ := again_steps ho hm hp hne
  constructor
  · unfold play; simp only [List.foldl_cons, List.foldl_nil]; unfold stepO; simp only [Bool.false_eq_true, if_false, s1, s2, s3]
  · unfold play; simp only [List.foldl_cons, List.foldl_nil]; unfold stepO; simp only [Bool.false_eq_true, if_false, s1, s2, s3, s4, s5]
end
end Go.Proofs.YtiepopbmbgfhkaaGreat

namespace Go.Proofs.YtiepopbmbgfhkaaGreat
open Go.RowKit
set_option maxHeartbeats 4000000
set_option maxRecDepth 20000
set_option linter.unusedVariables false
set_option linter.unusedSimpArgs false

/-- What a law leaves. -/
def LawPost (w : World) (e : Ending) (w' : World) : Prop := e = .returned (.bool true) ∧ Fr 0 [] [] w w'

theorem bare_cells (S : Raw) : S.bare.cells (.slice none 0 0) (.slice none 0 0) = #[.string S.pre, .slice none 0 0, .int .i64 S.most, .int .i64 S.cols, .bool S.down, .bool S.start, .string S.sep, .slice none 0 0, .string ⟨#[]⟩, .bool S.plain, .string ⟨#[]⟩] := rfl

/-- What 'Prompted' leaves, part by part. -/
def PrompX (t : ByteArray) (k : Nat) (lines : List ByteArray) (n : Nat) (over : Bool) (w : World) (e : Ending) (w' : World) : Prop :=
  ∃ p c bs, e = .returned (.tuple #[.string bs, .agg #[.slice p n c, .string t, .int .i64 k, .bool over], .bool true]) ∧ TxIn w' (.slice p n c) lines ∧ Fr 0 [] [] w w'
theorem prompX {s : PS} {ov : Bool} {w w' : World} {e : Ending} {n : Nat} (h : PrompPost s ov w e w') (hn : s.lines.length = n) : PrompX s.t s.k s.lines n ov w e w' := by
  obtain ⟨vl, bs, he, hO, hF⟩ := h
  obtain ⟨p, c, rfl⟩ := hO.form
  have ht := hO.txIn
  rw [hn] at he ht
  exact ⟨p, c, bs, he, ht, hF⟩

/-- Prompted, of a bare session that is looked at. -/
theorem prompted_bare {w : World} {S : Raw} {chv : Value} {chunks : List ByteArray} {s : PS} {ov : Bool} {n : Nat} (hS : RawOk S.bare) (hw : 1 ≤ w.heap.size) (ht : Tab w)
    (hCh : TxIn w chv chunks) (hChN : ∀ A n c, chv = .slice (some A) n c → A.block < w.heap.size) (hlen : chunks.length ≤ 100)
    (hst : ∀ i, i ≤ chunks.length → NsOk (play S.bare.sess.nsFed ns0 (chunks.take i)).1) (hk : ∀ i (hi : i < chunks.length), NsKey (play S.bare.sess.nsFed ns0 (chunks.take i)).1 chunks[i]) (hp : play S.bare.sess.nsFed ns0 chunks = (s, ov)) (hn : s.lines.length = n) :
    Calls Tryz.prog 12 #[.agg #[.string S.pre, .slice none 0 0, .int .i64 S.most, .int .i64 S.cols, .bool S.down, .bool S.start, .string S.sep, .slice none 0 0, .string ⟨#[]⟩, .bool S.plain, .string ⟨#[]⟩], chv] w (PrompX s.t s.k s.lines n ov w) := by
  have h := prompted_ns (S := S.bare.sess) (ov := .slice none 0 0) (hv := .slice none 0 0) (Raw.sess_ok hS) rfl rfl rfl rfl hw ht (.inl ⟨rfl, .inl rfl⟩) (.inl ⟨rfl, .inl rfl⟩) hCh hChN hlen hst hk
  rw [hp, Raw.sess_cells hS, bare_cells] at h
  exact h.mono fun e w' h => prompX h hn

theorem txIn_new {w : World} {g : Nat} {ys : List ByteArray} (h : Blk w g (ys.map Value.string).toArray 9) (c : Nat) : TxIn w (.slice (some ⟨g, 0, none⟩) ys.length c) ys :=
  .inr ⟨g, 0, c, rfl, fun j hj => by
    rw [Nat.zero_add, h.cell]
    simp [hj]⟩

/-- The world behind the store of a bare session. -/
def bareW (w : World) (M : Nat) (S : Raw) : World :=
  ((((((((((w.setCell ⟨M, 0, none⟩ (.string S.pre)).setCell ⟨M, 1, none⟩ (.slice none 0 0)).setCell ⟨M, 2, none⟩ (.int .i64 S.most)).setCell ⟨M, 3, none⟩ (.int .i64 S.cols)).setCell ⟨M, 4, none⟩ (.bool S.down)).setCell ⟨M, 5, none⟩ (.bool S.start)).setCell ⟨M, 6, none⟩ (.string S.sep)).setCell ⟨M, 7, none⟩ (.slice none 0 0)).setCell ⟨M, 8, none⟩ (.string ⟨#[]⟩)).setCell ⟨M, 9, none⟩ (.bool S.plain)).setCell ⟨M, 10, none⟩ (.string ⟨#[]⟩)
theorem bareW_ok {w w1 : World} {M : Nat} {S : Raw} {a0 a1 a2 a3 a4 a5 a6 a7 a8 a9 a10 : Value} (hB : Blk w1 M #[a0, a1, a2, a3, a4, a5, a6, a7, a8, a9, a10] 25) (hF : Fr 0 [] [] w w1) (hM : w.heap.size ≤ M) :
    Blk (bareW w1 M S) M (S.bare.cells (.slice none 0 0) (.slice none 0 0)) 25 ∧ Fr 0 [] [] w (bareW w1 M S) := by
  have st : ∀ (W : World) (i : Nat) (v : Value), Fr 0 [] [] w W → Fr 0 [] [] w (W.setCell ⟨M, i, none⟩ v) := fun W i v h => h.setCell (a := ⟨M, i, none⟩) (Nat.zero_le _) (.inr (.inl hM)) v
  refine ⟨?_, ?_⟩
  · have h := ((((((((((hB.set 0 (.string S.pre)).set 1 (.slice none 0 0)).set 2 (.int .i64 S.most)).set 3 (.int .i64 S.cols)).set 4 (.bool S.down)).set 5 (.bool S.start)).set 6 (.string S.sep)).set 7 (.slice none 0 0)).set 8 (.string ⟨#[]⟩)).set 9 (.bool S.plain)).set 10 (.string ⟨#[]⟩)
    simp only [List.setIfInBounds_toArray, List.set_cons_zero, List.set_cons_succ] at h
    rw [bare_cells]
    exact h
  · unfold bareW
    exact st _ _ _ (st _ _ _ (st _ _ _ (st _ _ _ (st _ _ _ (st _ _ _ (st _ _ _ (st _ _ _ (st _ _ _ (st _ _ _ (st _ _ _ hF))))))))))
structure BareC (w : World) (M : Nat) (S : Raw) : Prop where
  c0 : w.cell? ⟨M, 0, none⟩ = some (.string S.pre)
  c1 : w.cell? ⟨M, 1, none⟩ = some (.slice none 0 0)
  c2 : w.cell? ⟨M, 2, none⟩ = some (.int .i64 S.most)
  c3 : w.cell? ⟨M, 3, none⟩ = some (.int .i64 S.cols)
  c4 : w.cell? ⟨M, 4, none⟩ = some (.bool S.down)
  c5 : w.cell? ⟨M, 5, none⟩ = some (.bool S.start)
  c6 : w.cell? ⟨M, 6, none⟩ = some (.string S.sep)
  c7 : w.cell? ⟨M, 7, none⟩ = some (.slice none 0 0)
  c8 : w.cell? ⟨M, 8, none⟩ = some (.string ⟨#[]⟩)
  c9 : w.cell? ⟨M, 9, none⟩ = some (.bool S.plain)
  c10 : w.cell? ⟨M, 10, none⟩ = some (.string ⟨#[]⟩)
  lt : M < w.heap.size
theorem bareC {w : World} {M : Nat} {S : Raw} (h : Blk w M (S.bare.cells (.slice none 0 0) (.slice none 0 0)) 25) : BareC w M S :=
  ⟨h.cell 0, h.cell 1, h.cell 2, h.cell 3, h.cell 4, h.cell 5, h.cell 6, h.cell 7, h.cell 8, h.cell 9, h.cell 10, h.lt⟩

theorem again_c {w : World} {S : Raw} {ov hv : Value} {text : ByteArray} (hw : 1 ≤ w.heap.size) (ht : Tab w) (hO : PkIn w ov S.offs) (hH : TxIn w hv S.hist) (hps : S.pre.size ≤ 9223372036854775807) :
    Calls Tryz.prog 4 #[.agg (S.cells ov hv), .string text] w (LawPost w) := by
  obtain ⟨oA, oc, rfl⟩ := hO.form
  obtain ⟨hA, hcc, rfl⟩ := hH.form
  obtain ⟨M, hM⟩ : ∃ M, w.heap.size = M := ⟨_, rfl⟩
  have hFa : Fr 0 [] [] w (w.alloc (.cells (S.cells (.slice oA S.offs.length oc) (.slice hA S.hist.length hcc)) 25)) := (Fr.refl _ _ _ _).alloc _
  have hB : Blk (w.alloc (.cells (S.cells (.slice oA S.offs.length oc) (.slice hA S.hist.length hcc)) 25)) M (S.cells (.slice oA S.offs.length oc) (.slice hA S.hist.length hcc)) 25 := Blk.new' hM.symm _ _
  have h9 := fits1_c (S := S) (hO.fr hFa) (hH.fr hFa)
  have hFw := hFa
  unfold Raw.cells at h9 hB hFa ⊢
  go_enter Tryz.func4, Tryz.ntmps4
  go_wp2_with (fail)
  refine h9.mono ?_
  rintro e w1 ⟨⟨r, rfl⟩, hF1⟩
  have hF01 := hFa.trans hF1
  have hB1 := hF1.blk0 hB
  clear h9
  cases r with
  | false =>
    go_wp2_with (fail)
    go_ret
    exact ⟨rfl, hF01⟩
  | true =>
    by_cases hz : (2147483647 : Int) < text.size
    · go_wp2_with (fail)
      go_ret
      exact ⟨rfl, hF01⟩
    · have c0 := hB1.cell 0
      have c2 := hB1.cell 2
      have c3 := hB1.cell 3
      have c4 := hB1.cell 4
      have c5 := hB1.cell 5
      have c6 := hB1.cell 6
      have c9 := hB1.cell 9
      have c1 := hB1.cell 1
      have c7 := hB1.cell 7
      have c8 := hB1.cell 8
      have c10 := hB1.cell 10
      have f0 := hB1.frozen 0
      have f1 := hB1.frozen 1
      have f2 := hB1.frozen 2
      have f3 := hB1.frozen 3
      have f4 := hB1.frozen 4
      have f5 := hB1.frozen 5
      have f6 := hB1.frozen 6
      have f7 := hB1.frozen 7
      have f8 := hB1.frozen 8
      have f9 := hB1.frozen 9
      have f10 := hB1.frozen 10
      have cl := hB1.lt
      simp only [List.getElem?_toArray, List.getElem?_cons_zero, List.getElem?_cons_succ] at c0 c1 c2 c3 c4 c5 c6 c7 c8 c9 c10
      obtain ⟨hB2, hF02⟩ := bareW_ok (S := S) hB1 hF01 (Nat.le_of_eq hM)
      have h10 := right_c (S := S.bare) (w := bareW w1 M S) (ov := .slice none 0 0) (hv := .slice none 0 0) (.inl ⟨rfl, .inl rfl⟩) (.inl ⟨rfl, .inl rfl⟩) hps (fun x hx => by cases hx)
      rw [bare_cells] at h10
      obtain ⟨W2, hW2⟩ : ∃ W2, bareW w1 M S = W2 := ⟨_, rfl⟩
      rw [hW2] at hB2 hF02 h10
      obtain ⟨d0, d1, d2, d3, d4, d5, d6, d7, d8, d9, d10, dl⟩ := bareC hB2
      unfold bareW at hW2
      go_wp2_with (fail)
      refine h10.mono ?_
      clear hW2 d0 d1 d2 d3 d4 d5 d6 d7 d8 d9 d10 dl
      clear c0 c1 c2 c3 c4 c5 c6 c7 c8 c9 c10 f0 f1 f2 f3 f4 f5 f6 f7 f8 f9 f10 cl h10 hB hB1 hF1 hFa hF01
      rintro e w3 ⟨⟨r, rfl, hr⟩, hF3⟩
      have hB3 := hF3.blk0 hB2
      have hF03 := hF02.trans hF3
      cases r with
      | false =>
        go_wp2_with (fail)
        go_ret
        exact ⟨rfl, hF03⟩
      | true =>
        have HR := Lib.hid (hr rfl)
        clear hr
        obtain ⟨em, hem⟩ : ∃ em, text.toList.isEmpty = em := ⟨_, rfl⟩
        have hem2 : em = true → text.toList = [] := fun e => by rw [← hem] at e; simpa using e
        have hem3 : em = false → text.toList ≠ [] := fun e e2 => by rw [e2] at hem; rw [← hem] at e; simp at e
        have HEX := Lib.hid (show em = decide (text.size = 0) by rw [← hem, str_empty])
        cases em with
        | true =>
          have hE2 := hem2 rfl
          clear hem2 hem3
          go_wp2_with (fail)
          go_ret
          exact ⟨rfl, hF03⟩
        | false =>
          have hE2 := hem3 rfl
          clear hem2 hem3
          by_cases q1 : (40 : Int) < text.size
          · go_wp2_with (fail)
            go_ret
            exact ⟨rfl, hF03⟩
          · go_wp2_with (fail)
            refine (printable_c _ (by omega) _).mono ?_
            rintro e w4 ⟨rfl, rfl⟩
            cases p1 : prB text with
            | false =>
              go_wp2_with (fail)
              go_ret
              exact ⟨rfl, hF03⟩
            | true =>
              have hprn := (prB_prn p1).1
              clear p1
              have hsz0 : text.size ≠ 0 := by have := HEX.out; simpa using this.symm
              have hsz : text.size ≤ 40 := by omega
              obtain ⟨g1, g2⟩ := again_end (S := S.bare.sess) rfl (Raw.sess_ok HR.out).m1 hprn hsz0
              obtain ⟨a1, a2⟩ := again_play (S := S.bare.sess) rfl (Raw.sess_ok HR.out).m1 hprn hsz0 hsz [text, crT, upT] (.inl rfl)
              obtain ⟨b1, b2⟩ := again_play (S := S.bare.sess) rfl (Raw.sess_ok HR.out).m1 hprn hsz0 hsz [text, crT, upT, crT, dT] (.inr rfl)
              have HP := Lib.hid (And.intro g1 (And.intro g2 (And.intro a1 (And.intro a2 (And.intro b1 b2)))))
              clear g1 g2 a1 a2 b1 b2
              obtain ⟨c0, c1, c2, c3, c4, c5, c6, c7, c8, c9, c10, cl⟩ := bareC hB3
              go_wp2_with (fail)
              have hF3a := hF03.alloc (.cells #[.string text, .string ⟨#[13]⟩, .string ⟨#[27, 91, 65]⟩] 9)
              have hpb := prompted_bare (S := S) (chunks := [text, crT, upT]) (n := 1) (chv := .slice (some ⟨w3.heap.size, 0, none⟩) 3 3) (w := w3.alloc (.cells #[.string text, .string ⟨#[13]⟩, .string ⟨#[27, 91, 65]⟩] 9)) HR.out (by simp) (hF3a.tab0 ht) (txIn_new (Blk.new' rfl _ _) 3) (fun A n c e => by simp only [Value.slice.injEq, Option.some.injEq] at e; rw [← e.1]; simp) (by simp) HP.out.2.2.1 HP.out.2.2.2.1 HP.out.1 rfl
              have hpb2 : Calls Tryz.prog 12 _ _ (PrompX text text.size [text] 1 false _) := hpb
              refine hpb2.mono ?_
              clear hpb hpb2
              rintro e w5 ⟨vp, vc, bs, rfl, hS1, hF5⟩
              have hF05 := hF3a.trans hF5
              have hB5 := hF5.blk0 (hB3.alloc (.cells #[.string text, .string ⟨#[13]⟩, .string ⟨#[27, 91, 65]⟩] 9))
              clear c0 c1 c2 c3 c4 c5 c6 c7 c8 c9 c10 cl
              obtain ⟨X1, hX1⟩ : ∃ X, w5.heap.size = X := ⟨_, rfl⟩
              obtain ⟨c0, c1, c2, c3, c4, c5, c6, c7, c8, c9, c10, cl⟩ := bareC hB5
              rw [hX1] at cl
              have hF6 : Fr 0 [] [] w5 ((w5.alloc (.cells #[.slice vp 1 vc, .string text, .int .i64 text.size, .bool false] 31)).alloc (.cells #[.string text, .string ⟨#[13]⟩, .string ⟨#[27, 91, 65]⟩, .string ⟨#[13]⟩, .string ⟨#[4]⟩] 9)) := ((Fr.refl 0 [] [] w5).alloc _).alloc _
              have hF06 := hF05.trans hF6
              have hX6 : Blk ((w5.alloc (.cells #[.slice vp 1 vc, .string text, .int .i64 text.size, .bool false] 31)).alloc (.cells #[.string text, .string ⟨#[13]⟩, .string ⟨#[27, 91, 65]⟩, .string ⟨#[13]⟩, .string ⟨#[4]⟩] 9)) X1 #[.slice vp 1 vc, .string text, .int .i64 text.size, .bool false] 31 := (Blk.new' hX1.symm _ _).alloc _
              have hpb := prompted_bare (S := S) (chunks := [text, crT, upT, crT, dT]) (n := 2) (chv := .slice (some ⟨X1 + 1, 0, none⟩) 5 5) (w := (w5.alloc (.cells #[.slice vp 1 vc, .string text, .int .i64 text.size, .bool false] 31)).alloc (.cells #[.string text, .string ⟨#[13]⟩, .string ⟨#[27, 91, 65]⟩, .string ⟨#[13]⟩, .string ⟨#[4]⟩] 9)) HR.out (by simp) (hF06.tab0 ht) (txIn_new (Blk.new' (by simp [hX1]) _ _) 5) (fun A n c e => by simp only [Value.slice.injEq, Option.some.injEq] at e; rw [← e.1]; simp [hX1]) (by simp) HP.out.2.2.2.2.1 HP.out.2.2.2.2.2 HP.out.2.1 rfl
              have hpb2 : Calls Tryz.prog 12 _ _ (PrompX .empty 0 [text, text] 2 true _) := hpb
              clear hpb
              go_wp2_with (fail)
              refine hpb2.mono ?_
              clear hpb2
              rintro e w7 ⟨vp2, vc2, bs2, rfl, hS2, hF7⟩
              have hF07 := hF06.trans hF7
              have hX7 := hF7.blk0 hX6
              have hS1' := (hS1.fr hF6).fr hF7
              clear c0 c1 c2 c3 c4 c5 c6 c7 c8 c9 c10 cl
              obtain ⟨X2, hX2⟩ : ∃ X, w7.heap.size = X := ⟨_, rfl⟩
              have e0 : w7.cell? ⟨X1, 0, none⟩ = some (.slice vp 1 vc) := hX7.cell 0
              have e1 : w7.cell? ⟨X1, 1, none⟩ = some (.string text) := hX7.cell 1
              have e2 : w7.cell? ⟨X1, 2, none⟩ = some (.int .i64 text.size) := hX7.cell 2
              have e3 : w7.cell? ⟨X1, 3, none⟩ = some (.bool false) := hX7.cell 3
              have xl := hX7.lt
              rw [hX2] at xl
              go_wp2_with (fail)
              have hF8 : Fr 0 [] [] w7 ((w7.alloc (.cells #[.slice vp2 2 vc2, .string .empty, .int .i64 0, .bool true] 31)).alloc (.cells #[.string text] 9)) := ((Fr.refl 0 [] [] w7).alloc _).alloc _
              have hT8 : TxIn ((w7.alloc (.cells #[.slice vp2 2 vc2, .string .empty, .int .i64 0, .bool true] 31)).alloc (.cells #[.string text] 9)) (.slice (some ⟨X2 + 1, 0, none⟩) 1 1) [text] := txIn_new (Blk.new' (by simp [hX2]) _ _) 1
              have hY8 : Blk ((w7.alloc (.cells #[.slice vp2 2 vc2, .string .empty, .int .i64 0, .bool true] 31)).alloc (.cells #[.string text] 9)) X2 #[.slice vp2 2 vc2, .string .empty, .int .i64 0, .bool true] 31 := (Blk.new' hX2.symm _ _).alloc _
              refine (stands_c (hS1'.fr hF8) hT8 (by simp)).mono ?_
              rintro e w9 ⟨rfl, hF9⟩
              have hF89 := hF8.trans hF9
              have hY9 := hF9.blk0 hY8
              have hS2' := hS2.fr hF89
              have hF09 := hF07.trans hF89
              have y0 : w9.cell? ⟨X2, 0, none⟩ = some (.slice vp2 2 vc2) := hY9.cell 0
              have y1 : w9.cell? ⟨X2, 1, none⟩ = some (.string .empty) := hY9.cell 1
              have y2 : w9.cell? ⟨X2, 2, none⟩ = some (.int .i64 0) := hY9.cell 2
              have y3 : w9.cell? ⟨X2, 3, none⟩ = some (.bool true) := hY9.cell 3
              have yl := hY9.lt
              obtain ⟨X3, hX3⟩ : ∃ X, w9.heap.size = X := ⟨_, rfl⟩
              rw [hX3] at yl
              clear hX2 hT8 hY8 xl e0 e1 e2 e3
              go_wp2_with (fail)
              have hTa : TxIn (w9.alloc (.cells #[.string text, .string text] 9)) (.slice (some ⟨X3, 0, none⟩) 2 2) [text, text] := txIn_new (Blk.new' hX3.symm _ _) 2
              have hst := stands_c (w := w9.alloc (.cells #[.string text, .string text] 9)) (t := .empty) (k := 0) (ov := true) (hS2'.fr ((Fr.refl 0 [] [] w9).alloc _)) hTa (by simp)
              refine hst.mono ?_
              rintro e w10 ⟨rfl, hF10⟩
              go_wp2_with (fail)
              go_ret
              exact ⟨rfl, (hF09.alloc _).trans hF10⟩
end Go.Proofs.YtiepopbmbgfhkaaGreat
