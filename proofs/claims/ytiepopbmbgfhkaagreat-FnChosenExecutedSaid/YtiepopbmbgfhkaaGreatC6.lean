/-
  FnExecutedAgain: the walk.
-/
import Derived.Test.YtiepopbmbgfhkaaGreatC3
import Derived.Test.YtiepopbmbgfhkaaGreatC5
namespace Go.Proofs.YtiepopbmbgfhkaaGreat
open Go.RowKit
set_option maxHeartbeats 4000000
set_option maxRecDepth 20000
set_option linter.unusedVariables false
set_option linter.unusedSimpArgs false

/-- A session without suggestions, history and a line. -/
def Raw.bare (S : Raw) : Raw := { S with offs := [], hist := [], begun := .empty, exit := .empty }
theorem Raw.sess_ok {S : Raw} (h : RawOk S) : SessOk S.sess :=
  ⟨h.hpre, h.hpres, by have := h.m1; show 1 ≤ S.most.toNat; omega, by have := h.m2; show S.most.toNat ≤ 10; omega, by have := h.c1; show 13 ≤ S.cols.toNat; omega, by have := h.c2; show S.cols.toNat ≤ 120; omega, h.hsep, h.hseps, h.hb, h.hbs, h.he, h.hes, h.ho, h.hol, h.hh, h.hhl⟩
theorem Raw.sess_cells {S : Raw} (h : RawOk S) (ov hv : Value) : S.sess.cells ov hv = S.cells ov hv := by
  have h1 := h.m1
  have h2 := h.c1
  unfold Sess.cells Raw.cells
  have e1 : ((S.sess.most : Nat) : Int) = S.most := by show ((S.most.toNat : Nat) : Int) = S.most; omega
  have e2 : ((S.sess.cols : Nat) : Int) = S.cols := by show ((S.cols.toNat : Nat) : Int) = S.cols; omega
  rw [e1, e2]
  rfl

def crT : ByteArray := ⟨#[13]⟩
def upT : ByteArray := ⟨#[27, 91, 65]⟩
def dnT : ByteArray := ⟨#[27, 91, 66]⟩
def dT : ByteArray := ⟨#[4]⟩

section
variable {q : Cp} {down : Bool} {text : ByteArray}
theorem putT_new (v : ByteArray) : putT .empty 0 v = v := insert_empty v
theorem toList_mk (t : ByteArray) : (⟨t.data.toList.toArray⟩ : ByteArray) = t := dat_string t

theorem prn_ne {t : ByteArray} (h : t.size ≠ 0) : t ≠ .empty ∧ t.data.toList ≠ [] := by
  refine ⟨fun e => h (by rw [e]; rfl), fun e => h ?_⟩
  have : t.data.toList.length = 0 := by rw [e]; rfl
  simpa using this

theorem again_steps {S : Sess} (ho : S.offs = []) (hm : 1 ≤ S.most) (hp : Prn text) (hne : text.size ≠ 0) :
    S.nsFed ns0 text.data.toList = (NS text text.size [] [.empty] 0 [], false) ∧
    S.nsFed (NS text text.size [] [.empty] 0 []) crT.data.toList = (NS .empty 0 [text] [text, .empty] 1 [text], false) ∧
    S.nsFed (NS .empty 0 [text] [text, .empty] 1 [text]) upT.data.toList = (NS text text.size [text] [text, .empty] 0 [text], false) ∧
    S.nsFed (NS text text.size [text] [text, .empty] 0 [text]) crT.data.toList = (NS .empty 0 [text, text] [text, text, .empty] 2 [text, text], false) ∧
    S.nsFed (NS .empty 0 [text, text] [text, text, .empty] 2 [text, text]) dT.data.toList = (NS .empty 0 [text, text] [text, text, .empty] 2 [text, text], true) := by
  have hq : (S.cp 0 0).offs = [] := ho
  have hqm : 1 ≤ (S.cp 0 0).most := hm
  have hn := prn_ne hne
  refine ⟨?_, ?_, ?_, ?_, ?_⟩
  · unfold Sess.nsFed ns0
    rw [ns_text hq hqm (key_text hn.2 (by rw [toList_mk]; exact hp)), toList_mk, putT_new]
    simp
  · unfold Sess.nsFed
    exact ns_enter hq hqm key_r hn.1 rfl
  · unfold Sess.nsFed
    exact (ns_up (l := upT.data.toList) (t := .empty) (k := 0) (hs := [text]) (ts := [text, .empty]) (hsel := 1) (ls := [text]) hq hqm key_up (by simp) (by omega)).trans rfl
  · unfold Sess.nsFed
    exact ns_enter hq hqm key_r hn.1 rfl
  · unfold Sess.nsFed
    exact ns_d hq hqm key_d

theorem ns_is {t : ByteArray} {k : Nat} {hs ts : List ByteArray} {hsel : Nat} {ls : List ByteArray} (ht : Prn t) (hts : t.size ≤ 500) (hk : k ≤ t.size) (hh : ∀ x ∈ hs, Prn x ∧ x.size ≤ 500) (hhl : hs.length ≤ 1000)
    (hT : ∀ x ∈ ts, Prn x ∧ x.size ≤ 500) (hTl : ts.length ≤ 1001) (hsl : hsel < ts.length) (hl : ls.length ≤ 900) : NsOk (NS t k hs ts hsel ls) :=
  ⟨rfl, rfl, fun I => ns_ok ht hts hk hh hhl hT hTl hsl hl⟩

theorem again_play {S : Sess} (ho : S.offs = []) (hm : 1 ≤ S.most) (hp : Prn text) (hne : text.size ≠ 0) (hs : text.size ≤ 40) (chunks : List ByteArray) (hc : chunks = [text, crT, upT] ∨ chunks = [text, crT, upT, crT, dT]) :
    (∀ i, i ≤ chunks.length → NsOk (play S.nsFed ns0 (chunks.take i)).1) ∧ (∀ i (hi : i < chunks.length), NsKey (play S.nsFed ns0 (chunks.take i)).1 chunks[i]) := by
  obtain ⟨s1, s2, s3, s4, s5⟩ := again_steps ho hm hp hne
  have hn := prn_ne hne
  have h0 : ∀ x ∈ ([] : List ByteArray), Prn x ∧ x.size ≤ 500 := fun x hx => by cases hx
  have hE : Prn .empty ∧ ByteArray.empty.size ≤ 500 := ⟨prn_empty, by decide⟩
  have hX : Prn text ∧ text.size ≤ 500 := ⟨hp, by omega⟩
  have hXE : ∀ x ∈ ([text, .empty] : List ByteArray), Prn x ∧ x.size ≤ 500 := fun x hx => by
    simp only [List.mem_cons, List.not_mem_nil, or_false] at hx
    rcases hx with rfl | rfl
    · exact hX
    · exact hE
  have hXXE : ∀ x ∈ ([text, text, .empty] : List ByteArray), Prn x ∧ x.size ≤ 500 := fun x hx => by
    simp only [List.mem_cons, List.not_mem_nil, or_false] at hx
    rcases hx with rfl | rfl | rfl
    · exact hX
    · exact hX
    · exact hE
  have hkt : keyOf text.data.toList = 86 := key_text hn.2 (by rw [toList_mk]; exact hp)
  have o0 : NsOk ns0 := ns_is prn_empty (by decide) (by decide) h0 (by decide) (by simpa using hE) (by decide) (by decide) (by decide)
  have o1 : NsOk (NS text text.size [] [.empty] 0 []) := ns_is hp (by omega) (Nat.le_refl _) h0 (by decide) (by simpa using hE) (by decide) (by decide) (by decide)
  have o2 : NsOk (NS .empty 0 [text] [text, .empty] 1 [text]) := ns_is prn_empty (by decide) (by decide) (by simpa using hX) (by simp) hXE (by simp) (by simp) (by simp)
  have o3 : NsOk (NS text text.size [text] [text, .empty] 0 [text]) := ns_is hp (by omega) (Nat.le_refl _) (by simpa using hX) (by simp) hXE (by simp) (by simp) (by simp)
  have o4 : NsOk (NS .empty 0 [text, text] [text, text, .empty] 2 [text, text]) := ns_is prn_empty (by decide) (by decide) (fun x hx => hXXE x (by simp at hx ⊢; exact .inl hx)) (by simp) hXXE (by simp) (by simp) (by simp)
  have p1 : play S.nsFed ns0 [text] = (NS text text.size [] [.empty] 0 [], false) := by unfold play; simp only [List.foldl_cons, List.foldl_nil, stepO]; exact s1
  have p2 : play S.nsFed ns0 [text, crT] = (NS .empty 0 [text] [text, .empty] 1 [text], false) := by
    unfold play; simp only [List.foldl_cons, List.foldl_nil]; unfold stepO; simp only [Bool.false_eq_true, if_false, s1, s2]
  have p3 : play S.nsFed ns0 [text, crT, upT] = (NS text text.size [text] [text, .empty] 0 [text], false) := by
    unfold play; simp only [List.foldl_cons, List.foldl_nil]; unfold stepO; simp only [Bool.false_eq_true, if_false, s1, s2, s3]
  have p4 : play S.nsFed ns0 [text, crT, upT, crT] = (NS .empty 0 [text, text] [text, text, .empty] 2 [text, text], false) := by
    unfold play; simp only [List.foldl_cons, List.foldl_nil]; unfold stepO; simp only [Bool.false_eq_true, if_false, s1, s2, s3, s4]
  have p5 : play S.nsFed ns0 [text, crT, upT, crT, dT] = (NS .empty 0 [text, text] [text, text, .empty] 2 [text, text], true) := by
    unfold play; simp only [List.foldl_cons, List.foldl_nil]; unfold stepO; simp only [Bool.false_eq_true, if_false, s1, s2, s3, s4, s5]
  rcases hc with rfl | rfl
  · refine ⟨fun i hi => ?_, fun i hi => ?_⟩
    · match i, hi with
      | 0, _ => exact o0
      | 1, _ => show NsOk (play S.nsFed ns0 [text]).1; rw [p1]; exact o1
      | 2, _ => show NsOk (play S.nsFed ns0 [text, crT]).1; rw [p2]; exact o2
      | 3, _ => show NsOk (play S.nsFed ns0 [text, crT, upT]).1; rw [p3]; exact o3
    · match i, hi with
      | 0, _ => exact .inl ⟨hkt, by show text.size ≤ 100; omega, hp⟩
      | 1, _ => exact .inr (.inl key_r)
      | 2, _ => exact .inr (.inr (.inl key_up))
  · refine ⟨fun i hi => ?_, fun i hi => ?_⟩
    · match i, hi with
      | 0, _ => exact o0
      | 1, _ => show NsOk (play S.nsFed ns0 [text]).1; rw [p1]; exact o1
      | 2, _ => show NsOk (play S.nsFed ns0 [text, crT]).1; rw [p2]; exact o2
      | 3, _ => show NsOk (play S.nsFed ns0 [text, crT, upT]).1; rw [p3]; exact o3
      | 4, _ => show NsOk (play S.nsFed ns0 [text, crT, upT, crT]).1; rw [p4]; exact o4
      | 5, _ => show NsOk (play S.nsFed ns0 [text, crT, upT, crT, dT]).1; rw [p5]; exact o4
    · match i, hi with
      | 0, _ => exact .inl ⟨hkt, by show text.size ≤ 100; omega, hp⟩
      | 1, _ => exact .inr (.inl key_r)
      | 2, _ => exact .inr (.inr (.inl key_up))
      | 3, _ => exact .inr (.inl key_r)
      | 4, _ => exact .inr (.inr (.inr (.inr ⟨key_d, by show (play S.nsFed ns0 [text, crT, upT, crT]).1.t = .empty; rw [p4]; rfl⟩)))

theorem again_end {S : Sess} (ho : S.offs = []) (hm : 1 ≤ S.most) (hp : Prn text) (hne : text.size ≠ 0) :
    play S.nsFed ns0 [text, crT, upT] = (NS text text.size [text] [text, .empty] 0 [text], false) ∧ play S.nsFed ns0 [text, crT, upT, crT, dT] = (NS .empty 0 [text, text] [text, text, .empty] 2 [text, text], true) := by
  obtain ⟨s1, s2, s3, s4, s5⟩ := again_steps ho hm hp hne
  constructor
  · unfold play; simp only [List.foldl_cons, List.foldl_nil]; unfold stepO; simp only [Bool.false_eq_true, if_false, s1, s2, s3]
  · unfold play; simp only [List.foldl_cons, List.foldl_nil]; unfold stepO; simp only [Bool.false_eq_true, if_false, s1, s2, s3, s4, s5]
end
end Go.Proofs.YtiepopbmbgfhkaaGreat
