/-
  The law's player behind chunks; nothing if they are not looked at.
  FnOtherWindow: the law's walk.
-/
import Derived.Test.YtiepopbmbgfhkaaGreatQ49
import Derived.Test.YtiepopbmbgfhkaaGreatQ27
import Derived.Test.YtiepopbmbgfhkaaGreatQ29
import Derived.Test.YtiepopbmbgfhkaaGreatQ38
namespace Go.Proofs.YtiepopbmbgfhkaaGreat
open Go.RowKit
set_option maxHeartbeats 8000000
set_option maxRecDepth 20000
set_option linter.unusedVariables false
set_option linter.unusedSimpArgs false

def KR1Post (c : ByteArray) (w : World) (e : Ending) (w' : World) : Prop := (∃ r : Bool, e = .returned (.bool r) ∧ (r = true → KR c ∧ 0 < c.size)) ∧ w = w'
theorem keyRight1_c (c : ByteArray) (hz : c.size ≤ 9223372036854775807) (w : World) : Calls Tryz.prog 28 #[.string c] w (KR1Post c w) := by
  by_cases h0 : c.size = 0
  · have hE2 : c.toList = [] := by
      have e : c.toList.isEmpty = true := by rw [str_empty]; simpa using h0
      simpa using e
    clear hz
    go_enter Tryz.func28, Tryz.ntmps28
    go_wp2_with (fail)
    go_ret
    exact ⟨⟨false, rfl, fun h => by cases h⟩, rfl⟩
  · refine (keyRight_c c hz w).mono ?_
    rintro e w' ⟨⟨r, he, hr⟩, hw⟩
    exact ⟨⟨r, he, fun h => ⟨hr h, by omega⟩⟩, hw⟩

/-- What the loop over the chunks keeps. -/
structure PlR (base : Nat) (w w' : World) (p : Nat) (S : Sess) (ov hv : Value) (chunks : List ByteArray) (i : Nat) (V : PV) : Prop where
  h : Ply base w' p S ov hv (S.p0.play S (chunks.take i)) V
  hb : V.bs.length ≤ i
  hk : Kept S i (S.p0.play S (chunks.take i)).s
  hl : ∀ j (hj : j < chunks.length), j < i → KR chunks[j] ∧ Looked (S.p0.play S (chunks.take (j + 1)))
  hF : Fr base PT [] w w'
def PlRel (base : Nat) (w w' : World) (p : Nat) (S : Sess) (ov hv : Value) (chunks : List ByteArray) (i : Nat) : Prop := ∃ V, PlR base w w' p S ov hv chunks i V

/-- What is known of a play that is looked at. -/
structure Played (w' : World) (S : Raw) (ov hv v : Value) (chunks : List ByteArray) : Prop where
  raw : RawOk S
  len : chunks.length ≤ 40
  keys : ∀ c ∈ chunks, AKey c
  look : ∀ i, i < chunks.length → Looked (S.sess.p0.play S.sess (chunks.take (i + 1)))
  ply : ∃ base p V, v = .pointer (some ⟨p, 0, none⟩) ∧ Ply base w' p S.sess ov hv (S.sess.p0.play S.sess chunks) V
def PlayedPost (S : Raw) (ov hv : Value) (chunks : List ByteArray) (w : World) (e : Ending) (w' : World) : Prop :=
  (∃ v r, e = .returned (.tuple #[v, .bool r]) ∧ (r = true → Played w' S ov hv v chunks)) ∧ Fr 0 [] [] w w'
theorem played_no {S : Raw} {ov hv : Value} {chunks : List ByteArray} {w w' : World} (h : Fr 0 [] [] w w') : PlayedPost S ov hv chunks w (.returned (.tuple #[.pointer none, .bool false])) w' :=
  ⟨⟨_, _, rfl, fun e => by cases e⟩, h⟩

theorem played_c {w : World} {S : Raw} {ov hv tv : Value} {chunks : List ByteArray} (hO : PkIn w ov S.offs) (hH : TxIn w hv S.hist) (hT : TxIn w tv chunks) (hps : S.pre.size ≤ 9223372036854775807) (hos : ∀ x ∈ S.offs, x.1.size ≤ 9223372036854775807 ∧ x.2.size ≤ 9223372036854775807) (htz : ∀ y ∈ chunks, y.size ≤ 9223372036854775807) :
    Calls Tryz.prog 15 #[.agg (S.cells ov hv), tv] w (PlayedPost S ov hv chunks w) := by
  obtain ⟨oA, oc, rfl⟩ := hO.form
  obtain ⟨hA, hcc, rfl⟩ := hH.form
  obtain ⟨tA, tc, rfl⟩ := hT.form
  obtain ⟨M, hM⟩ : ∃ M, w.heap.size = M := ⟨_, rfl⟩
  have hFa : Fr 0 [] [] w (w.alloc (.cells (S.cells (.slice oA S.offs.length oc) (.slice hA S.hist.length hcc)) 25)) := (Fr.refl _ _ _ _).alloc _
  have hB : Blk (w.alloc (.cells (S.cells (.slice oA S.offs.length oc) (.slice hA S.hist.length hcc)) 25)) M (S.cells (.slice oA S.offs.length oc) (.slice hA S.hist.length hcc)) 25 := Blk.new' hM.symm _ _
  have h10 := right_c (hO.fr hFa) (hH.fr hFa) hps hos
  have HTZ := Lib.hid htz
  clear htz hps hos
  unfold Raw.cells at h10 hB hFa ⊢
  go_enter Tryz.func15, Tryz.ntmps15
  go_wp2_with (fail)
  refine h10.mono ?_
  rintro e w1 ⟨⟨r, rfl, hr⟩, hF1⟩
  have hF01 := hFa.trans hF1
  have hB1 := hF1.blk0 hB
  clear h10 hF1 hFa hB
  cases r with
  | false =>
    go_wp2_with (fail)
    go_ret2
    exact played_no hF01
  | true =>
  have HR := Lib.hid (hr rfl)
  clear hr
  by_cases hlen : (40 : Int) < chunks.length
  · go_wp2_with (fail)
    go_ret2
    exact played_no hF01
  have hl40 : chunks.length ≤ 40 := by omega
  have c0 := hB1.cell 0
  have c1 := hB1.cell 1
  have c2 := hB1.cell 2
  have c3 := hB1.cell 3
  have c4 := hB1.cell 4
  have c5 := hB1.cell 5
  have c6 := hB1.cell 6
  have c7 := hB1.cell 7
  have c8 := hB1.cell 8
  have c9 := hB1.cell 9
  have c10 := hB1.cell 10
  have cl := hB1.lt
  simp only [List.getElem?_toArray, List.getElem?_cons_zero, List.getElem?_cons_succ] at c0 c1 c2 c3 c4 c5 c6 c7 c8 c9 c10
  have hSO := Raw.sess_ok HR.out
  have h27 := new_c (w := w1) (S := S.sess) hSO (hO.fr hF01) (hH.fr hF01)
  rw [Raw.sess_cells HR.out] at h27
  unfold Raw.cells at h27
  have hT1 := hT.fr hF01
  go_wp2_with (fail)
  refine h27.mono ?_
  rintro e w2 ⟨p, V0, rfl, hP0, hb0, hF2⟩
  clear c0 c1 c2 c3 c4 c5 c6 c7 c8 c9 c10 cl h27 hB1
  obtain ⟨base, hbase⟩ : ∃ base, w1.heap.size = base := ⟨_, rfl⟩
  rw [hbase] at hP0
  have hrel0 : PlRel base w1 w2 p S.sess (.slice oA S.offs.length oc) (.slice hA S.hist.length hcc) chunks 0 := ⟨V0, hP0, hb0, kept_g0 hSO, fun j _ h => absurd h (by omega), hF2.any⟩
  clear hP0 hb0 hF2
  go_wp2_with (fail)
  go_loopw [7] (fun v7 w' => ∃ i : Nat, i ≤ chunks.length ∧ v7 = .int .i64 i ∧ PlRel base w1 w' p S.sess (.slice oA S.offs.length oc) (.slice hA S.hist.length hcc) chunks i) (fun v7 _ => chunks.length - (intOf v7).toNat)
  case atStart => exact ⟨0, by omega, rfl, hrel0⟩
  clear hrel0
  obtain ⟨i, hi, rfl, V, hR⟩ := hrel
  have hTr := hT1.low hR.hF hbase
  by_cases hil : i < chunks.length
  · have d1 : decide ((i : Int) < chunks.length) = true := by simpa using hil
    have d2 : (i : Int) < chunks.length := by omega
    obtain ⟨g, o, rfl, e1⟩ : ∃ g o, tA = some ⟨g, o, none⟩ ∧ wr.cell? ⟨g, o + i, none⟩ = some (.string chunks[i]) := by
      rcases hTr with ⟨e, -⟩ | ⟨b, o, c, e, hc⟩
      · rw [e] at hil; simp at hil
      · simp only [Value.slice.injEq] at e
        exact ⟨b, o, e.1, hc i hil⟩
    have hgl := World.block_lt_of_cell? wr _ e1
    obtain ⟨c, hc⟩ : ∃ c, chunks[i] = c := ⟨_, rfl⟩
    have hcz : c.size ≤ 9223372036854775807 := by rw [← hc]; exact HTZ.out _ (List.getElem_mem hil)
    have hsucc := PL.play_succ S.sess.p0 S.sess chunks i hil
    rw [hc] at hsucc e1
    have HC := Lib.hid hc
    clear hc
    go_wp2_with (fail)
    refine (keyRight1_c c hcz _).mono ?_
    rintro e w3 ⟨⟨r, rfl, hr⟩, rfl⟩
    cases r with
    | false =>
      go_wp2_with (fail)
      go_ret2
      exact played_no (hF01.trans (fresh0 (Nat.le_of_eq hbase) hR.hF))
    | true =>
    obtain ⟨hkr, hc0⟩ := hr rfl
    go_wp2_with (fail)
    refine (pKey_c (nb := i) hR.h hR.hb (by omega) hSO hR.hk (by omega) hkr hc0).mono ?_
    rintro e w4 ⟨rfl, ⟨V4, h4, hb4⟩, hF4⟩
    rw [← hsucc] at h4
    have hF14 := hR.hF.trans hF4
    have hlg := pLong_c h4
    have hop := pOpen_c h4
    obtain ⟨P4, hP4⟩ : ∃ P4, S.sess.p0.play S.sess (chunks.take (i + 1)) = P4 := ⟨_, rfl⟩
    have hkk : P4.s.t.size ≤ 200 → P4.opn = false → Kept S.sess (i + 1) P4.s := fun a b => by
      rw [hP4] at hsucc
      rw [hsucc] at a b ⊢
      exact kept_key hR.hk hSO (fun e => ((kr_akey hkr).2.2.2 e).2) a b
    rw [hP4] at h4 hlg hop
    have HP4 := Lib.hid hP4
    have HKK := Lib.hid hkk
    clear hsucc hP4 hkk
    go_wp2_with (fail)
    refine hlg.mono ?_
    rintro e w5 ⟨rfl, rfl⟩
    by_cases hlo : 200 < P4.s.t.size
    · rw [decide_eq_true hlo]
      clear hlo
      go_wp2_with (fail)
      go_ret2
      exact played_no (hF01.trans (fresh0 (Nat.le_of_eq hbase) hF14))
    · rw [decide_eq_false hlo]
      have hlo2 : P4.s.t.size ≤ 200 := by omega
      clear hlo
      obtain ⟨ob, hob⟩ : ∃ ob, (P4.opn || decide ((P4.s.tmp.length : Int) ≤ P4.s.sel)) = ob := ⟨_, rfl⟩
      rw [hob] at hop
      have HOB := Lib.hid hob
      clear hob
      go_wp2_with (fail)
      refine hop.mono ?_
      rintro e w6 ⟨rfl, hF6⟩
      cases ob with
      | true =>
        go_wp2_with (fail)
        go_ret2
        exact played_no (hF01.trans (fresh0 (Nat.le_of_eq hbase) (hF14.trans hF6.any)))
      | false =>
        have hopn : P4.opn = false := by
          have h9 := HOB.out
          cases hq : P4.opn with
          | false => rfl
          | true => rw [hq] at h9; simp at h9
        go_wp2_with (fail)
        go_roundw
        case rel =>
          refine ⟨i + 1, by omega, by simp, V4, ?_, hb4, ?_, fun j hj hji => ?_, hF14.trans hF6.any⟩
          · rw [HP4.out]; exact h4.fr0 hF6
          · rw [HP4.out]; exact HKK.out hlo2 hopn
          · by_cases hje : j < i
            · exact hR.hl j hj hje
            · obtain rfl : j = i := by omega
              refine ⟨by rw [HC.out]; exact hkr, ?_⟩
              rw [HP4.out]
              exact ⟨hlo2, hopn⟩
        case measure => simp [intOf]; omega
  · have d1 : decide ((i : Int) < chunks.length) = false := by simpa using hil
    have d2 : ¬ (i : Int) < chunks.length := by omega
    obtain rfl : i = chunks.length := by omega
    have hP := hR.h
    rw [List.take_length] at hP
    go_wp2_with (fail)
    go_ret2
    refine ⟨⟨_, _, rfl, fun _ => ⟨HR.out, hl40, fun c hc => ?_, fun j hj => (hR.hl j hj hj).2, base, p, V, rfl, hP⟩⟩, hF01.trans (fresh0 (Nat.le_of_eq hbase) hR.hF)⟩
    obtain ⟨j, hj, rfl⟩ := List.getElem_of_mem hc
    exact kr_akey (hR.hl j hj hj).1
end Go.Proofs.YtiepopbmbgfhkaaGreat

namespace Go.Proofs.YtiepopbmbgfhkaaGreat
open Go.RowKit
open List renaming setIfInBounds_toArray → zq1, set_cons_zero → zq2, set_cons_succ → zq3
open Int renaming toNat_natCast → zq4, toNat_sub → zq5, toNat_zero → zq6
set_option maxHeartbeats 8000000
set_option maxRecDepth 20000
set_option linter.unusedVariables false
set_option linter.unusedSimpArgs false

/-- What 'Prompted' leaves, by its parts. -/
def PromL (t : ByteArray) (k : Nat) (lines : List ByteArray) (n : Nat) (over : Bool) (w : World) (e : Ending) (w' : World) : Prop :=
  ∃ p c bs, e = .returned (.tuple #[.string bs, .agg #[.slice p n c, .string t, .int .i64 k, .bool over], .bool true]) ∧ TxIn w' (.slice p n c) lines ∧ Fr 0 [] [] w w'

theorem prompted_played {w w0 : World} {S : Raw} {ov hv chv v o2 h2 : Value} {chunks : List ByteArray} {t : ByteArray} {k n : Nat} {lines : List ByteArray} {over : Bool} (hP : Played w0 S o2 h2 v chunks) (hw : 1 ≤ w.heap.size) (ht : Tab w) (hO : PkIn w ov S.offs) (hH : TxIn w hv S.hist) (hCh : TxIn w chv chunks) (hChN : ∀ A n c, chv = .slice (some A) n c → A.block < w.heap.size)
    (e1 : (play S.sess.aFed S.sess.g0 chunks).1.t = t) (e2 : (play S.sess.aFed S.sess.g0 chunks).1.k = k) (e3 : (play S.sess.aFed S.sess.g0 chunks).1.lines = lines) (e4 : (play S.sess.aFed S.sess.g0 chunks).2 = over) (e5 : lines.length = n) :
    Calls Tryz.prog 12 #[.agg (S.cells ov hv), chv] w (PromL t k lines n over w) := by
  have hr := hP.raw
  have hSO := Raw.sess_ok hr
  have h := prompted_all (S := S.sess) hSO (by have a := hr.c3; have b := hr.c1; show S.pre.size + 13 ≤ S.cols.toNat; omega) hw ht hO hH hCh hChN (by have := hP.len; omega) (gok_play hSO hP.len hP.keys hP.look) (fun i hi => hP.keys _ (List.getElem_mem hi))
  rw [Raw.sess_cells hr] at h
  refine h.mono ?_
  rintro e w' ⟨vl, bs, he, hO, hF⟩
  obtain ⟨p, c, rfl⟩ := hO.form
  have ht := hO.txIn
  rw [e3] at ht hO he
  rw [e1, e2, e4] at he
  rw [e5] at he ht
  exact ⟨p, c, bs, he, ht, hF⟩
theorem ex_load31 {o : Oper} {a : Act} {w : World} {M : Nat} {x : Operand} {A : Option Addr} {n c : Nat} {t : ByteArray} {k : Int} {b : Bool} (ho : o.op = .load 31 x) (hx : a.eval x = .pointer (some ⟨M, 0, none⟩)) (h : Blk w M #[.slice A n c, .string t, .int .i64 k, .bool b] 31) :
    (execOp a.eval o).run Tryz.prog w = .ok (.value (.agg #[.slice A n c, .string t, .int .i64 k, .bool b])) w := by
  have c0 := h.cell 0
  have c1 := h.cell 1
  have c2 := h.cell 2
  have c3 := h.cell 3
  have cl := h.lt
  simp only [List.getElem?_toArray, List.getElem?_cons_zero, List.getElem?_cons_succ] at c0 c1 c2 c3
  unfold execOp
  simp only [ho, hx]
  go_simp

/-- The session in another window. -/
def Raw.other (S : Raw) (pre : ByteArray) (most cols : Int) : Raw := { S with pre := pre, most := most, cols := cols }
theorem Raw.alike (S : Raw) (pre : ByteArray) (most cols : Int) : Alike S.sess (S.other pre most cols).sess := ⟨rfl, rfl, rfl, rfl, rfl, rfl, rfl, rfl⟩
/-- A session's cells, as they are read. -/
structure RawC11 (w : World) (M : Nat) (S : Raw) (ov hv : Value) : Prop where
  c0 : w.cell? ⟨M, 0, none⟩ = some (.string S.pre)
  c1 : w.cell? ⟨M, 1, none⟩ = some ov
  c2 : w.cell? ⟨M, 2, none⟩ = some (.int .i64 S.most)
  c3 : w.cell? ⟨M, 3, none⟩ = some (.int .i64 S.cols)
  c4 : w.cell? ⟨M, 4, none⟩ = some (.bool S.down)
  c5 : w.cell? ⟨M, 5, none⟩ = some (.bool S.start)
  c6 : w.cell? ⟨M, 6, none⟩ = some (.string S.sep)
  c7 : w.cell? ⟨M, 7, none⟩ = some hv
  c8 : w.cell? ⟨M, 8, none⟩ = some (.string S.begun)
  c9 : w.cell? ⟨M, 9, none⟩ = some (.bool S.plain)
  c10 : w.cell? ⟨M, 10, none⟩ = some (.string S.exit)
  lt : M < w.heap.size
theorem rawC11 {w : World} {M : Nat} {S : Raw} {ov hv : Value} (h : Blk w M (S.cells ov hv) 25) : RawC11 w M S ov hv :=
  ⟨h.cell 0, h.cell 1, h.cell 2, h.cell 3, h.cell 4, h.cell 5, h.cell 6, h.cell 7, h.cell 8, h.cell 9, h.cell 10, h.lt⟩

theorem other_c {w : World} {S : Raw} {ov hv tv : Value} {chunks : List ByteArray} {prefx : ByteArray} {most cols : Nat} (hw : 1 ≤ w.heap.size) (ht : Tab w) (hO : PkIn w ov S.offs) (hH : TxIn w hv S.hist) (hT : TxIn w tv chunks) (hTN : ∀ A n c, tv = .slice (some A) n c → A.block < w.heap.size)
    (hps : S.pre.size ≤ 9223372036854775807) (hos : ∀ x ∈ S.offs, x.1.size ≤ 9223372036854775807 ∧ x.2.size ≤ 9223372036854775807) (htz : ∀ y ∈ chunks, y.size ≤ 9223372036854775807) (hpz : prefx.size ≤ 9223372036854775807) (hm : most ≤ 255) (hc : cols ≤ 255) :
    Calls Tryz.prog 6 #[.agg (S.cells ov hv), tv, .string prefx, .int .u8 most, .int .u8 cols] w (LawPost w) := by
  obtain ⟨oA, oc, rfl⟩ := hO.form
  obtain ⟨hA, hcc, rfl⟩ := hH.form
  obtain ⟨tA, tc, rfl⟩ := hT.form
  obtain ⟨M, hM⟩ : ∃ M, w.heap.size = M := ⟨_, rfl⟩
  obtain ⟨T, hTdef⟩ : ∃ T, S.other prefx most cols = T := ⟨_, rfl⟩
  have hFa : Fr 0 [] [] w (w.alloc (.cells (S.cells (.slice oA S.offs.length oc) (.slice hA S.hist.length hcc)) 25)) := (Fr.refl _ _ _ _).alloc _
  have hB : Blk (w.alloc (.cells (S.cells (.slice oA S.offs.length oc) (.slice hA S.hist.length hcc)) 25)) M (S.cells (.slice oA S.offs.length oc) (.slice hA S.hist.length hcc)) 25 := Blk.new' hM.symm _ _
  have h9 := fits1_c (S := S) (hO.fr hFa) (hH.fr hFa)
  have HPS := Lib.hid hps
  have HOS := Lib.hid hos
  have HTZ := Lib.hid htz
  have HTN := Lib.hid hTN
  have HT := Lib.hid hTdef
  clear hps hos htz hTN hTdef
  unfold Raw.cells at h9 hB hFa ⊢
  go_enter Tryz.func6, Tryz.ntmps6
  go_wp2_with (fail)
  refine h9.mono ?_
  rintro e w1 ⟨⟨r, rfl⟩, hF1⟩
  have hF01 := hFa.trans hF1
  have hB1 := hF1.blk0 hB
  clear h9 hFa hF1 hB
  cases r with
  | false =>
    go_wp2_with (fail)
    go_ret
    exact ⟨rfl, hF01⟩
  | true =>
  have h4 := fits4_c (hT.fr hF01)
  go_wp2_with (fail)
  refine h4.mono ?_
  rintro e w2 ⟨⟨r, rfl⟩, hF2⟩
  have hF02 := hF01.trans hF2
  have hB2 : Blk w2 M (S.cells (.slice oA S.offs.length oc) (.slice hA S.hist.length hcc)) 25 := hF2.blk0 hB1
  clear h4 hF01 hF2 hB1
  cases r with
  | false =>
    go_wp2_with (fail)
    go_ret
    exact ⟨rfl, hF02⟩
  | true =>
  by_cases z1 : (2147483647 : Int) < prefx.size
  · go_wp2_with (fail)
    go_ret
    exact ⟨rfl, hF02⟩
  obtain ⟨Y, hY⟩ : ∃ Y, w2.heap.size = Y := ⟨_, rfl⟩
  obtain ⟨c0, c1, c2, c3, c4, c5, c6, c7, c8, c9, c10, cl⟩ := rawC11 hB2
  rw [hY] at cl
  obtain ⟨W3, hW3⟩ : ∃ W3, w2.alloc (.cells ((S.other prefx most cols).cells (.slice oA S.offs.length oc) (.slice hA S.hist.length hcc)) 25) = W3 := ⟨_, rfl⟩
  have hF23 : Fr 0 [] [] w2 W3 := by rw [← hW3]; exact (Fr.refl _ _ _ _).alloc _
  have hBS3 : Blk W3 M (S.cells (.slice oA S.offs.length oc) (.slice hA S.hist.length hcc)) 25 := hF23.blk0 hB2
  have hBT3 : Blk W3 Y (T.cells (.slice oA S.offs.length oc) (.slice hA S.hist.length hcc)) 25 := by rw [← hW3, ← HT.out]; exact Blk.new' hY.symm _ _
  have hF03 := hF02.trans hF23
  unfold Raw.cells Raw.other at hW3
  simp only at hW3
  go_upto_region 5 with (fail)
  clear hW3 c0 c1 c2 c3 c4 c5 c6 c7 c8 c9 c10 cl hB2 hF23 hF02 hY
  obtain ⟨c0, c1, c2, c3, c4, c5, c6, c7, c8, c9, c10, cl⟩ := rawC11 hBS3
  have hp1 := played_c (w := W3) (S := S) (chunks := chunks) (hO.fr hF03) (hH.fr hF03) (hT.fr hF03) HPS.out HOS.out HTZ.out
  unfold Raw.cells at hp1
  go_wp2_with (fail)
  refine hp1.mono ?_
  rintro e w4 ⟨⟨v1, r1, rfl, hr1⟩, hF34⟩
  have hF04 := hF03.trans hF34
  have hBS4 := hF34.blk0 hBS3
  have hBT4 := hF34.blk0 hBT3
  clear hp1 c0 c1 c2 c3 c4 c5 c6 c7 c8 c9 c10 cl hBS3 hBT3 hF34 hF03
  have HR1 := Lib.hid hr1
  clear hr1
  obtain ⟨c0, c1, c2, c3, c4, c5, c6, c7, c8, c9, c10, cl⟩ := rawC11 hBT4
  have hTO : T.offs = S.offs := by rw [← HT.out]; rfl
  have hTH : T.hist = S.hist := by rw [← HT.out]; rfl
  have hp2 := played_c (w := w4) (S := T) (ov := .slice oA S.offs.length oc) (hv := .slice hA S.hist.length hcc) (chunks := chunks) (by rw [hTO]; exact hO.fr hF04) (by rw [hTH]; exact hH.fr hF04) (hT.fr hF04) (by rw [← HT.out]; exact hpz) (by rw [hTO]; exact HOS.out) HTZ.out
  unfold Raw.cells at hp2
  go_wp2_with (fail)
  refine hp2.mono ?_
  rintro e w5 ⟨⟨v2, r2, rfl, hr2⟩, hF45⟩
  have hF05 := hF04.trans hF45
  have hBS5 := hF45.blk0 hBS4
  have hBT5 := hF45.blk0 hBT4
  have HR2 := Lib.hid hr2
  have HF45 := Lib.hid hF45
  clear hp2 c0 c1 c2 c3 c4 c5 c6 c7 c8 c9 c10 cl hBS4 hBT4 hF45 hF04 hr2
  cases r1 with
  | false =>
    go_wp2_with (fail)
    go_ret
    exact ⟨rfl, hF05⟩
  | true =>
  cases r2 with
  | false =>
    go_wp2_with (fail)
    go_ret
    exact ⟨rfl, hF05⟩
  | true =>
  have hq1 := HR1.out rfl
  have hq2 := HR2.out rfl
  obtain ⟨base, p, V, rfl, hply⟩ := hq1.ply
  have hply5 := hply.fr0 HF45.out
  have hal := alike_play (Raw.sess_ok hq1.raw) hq1.keys hq1.look
  have hpl := play_alike (S.alike prefx most cols) chunks
  rw [HT.out] at hpl
  obtain ⟨t, ht1⟩ : ∃ t, (play S.sess.aFed S.sess.g0 chunks).1.t = t := ⟨_, rfl⟩
  obtain ⟨k, hk1⟩ : ∃ k, (play S.sess.aFed S.sess.g0 chunks).1.k = k := ⟨_, rfl⟩
  obtain ⟨lines, hl1⟩ : ∃ lines, (play S.sess.aFed S.sess.g0 chunks).1.lines = lines := ⟨_, rfl⟩
  obtain ⟨ovr, hv1⟩ : ∃ ovr, (play S.sess.aFed S.sess.g0 chunks).2 = ovr := ⟨_, rfl⟩
  obtain ⟨n, hn⟩ : ∃ n, lines.length = n := ⟨_, rfl⟩
  rw [ht1, hk1, hl1, hv1] at hal hpl
  obtain ⟨a1, a2, a3, a4, a5⟩ := hal
  obtain ⟨b1, b2, b3, b4⟩ := hpl
  have hn40 : n ≤ 40 := by have := hq1.len; omega
  have hTab5 := hF05.tab0 ht
  have hsz5 : w.heap.size ≤ w5.heap.size := hF05.size
  have hTN5 : ∀ A n c, (Value.slice tA chunks.length tc) = .slice (some A) n c → A.block < w5.heap.size := fun A n c e => Nat.lt_of_lt_of_le (HTN.out A n c e) hsz5
  have hpr1 := prompted_played (w := w5) (ov := .slice oA S.offs.length oc) (hv := .slice hA S.hist.length hcc) (chv := .slice tA chunks.length tc) hq1 (by omega) hTab5 (hO.fr hF05) (hH.fr hF05) (hT.fr hF05) hTN5 ht1 hk1 hl1 hv1 hn
  have hpr2 := fun (w6 : World) (hF56 : Fr 0 [] [] w5 w6) => prompted_played (w := w6) (ov := .slice oA S.offs.length oc) (hv := .slice hA S.hist.length hcc) (chv := .slice tA chunks.length tc) hq2 (by have := hF56.size; omega) (hF56.tab0 hTab5) (by rw [hTO]; exact (hO.fr hF05).fr hF56) (by rw [hTH]; exact (hH.fr hF05).fr hF56) ((hT.fr hF05).fr hF56) (fun A n c e => Nat.lt_of_lt_of_le (hTN5 A n c e) hF56.size) b1 b2 b3 b4 hn
  obtain ⟨vp, vcap, hvl⟩ := hply5.rows.l.form
  have hst : ∀ (w : World), Ply base w p S.sess (.slice oA S.offs.length oc) (.slice hA S.hist.length hcc) (S.sess.p0.play S.sess chunks) V → Calls Tryz.prog 16 #[.pointer (some ⟨p, 0, none⟩)] w (fun e w' => e = .returned (.agg #[.slice vp n vcap, .string t, .int .i64 k, .bool ovr]) ∧ Fr 0 [] [] w w') := fun w h => by
    have h9 := pStand_c h
    unfold StandPost at h9
    rw [hvl, a1, a2, a3, a4, hn] at h9
    exact h9
  have htx : ∀ (w : World), Ply base w p S.sess (.slice oA S.offs.length oc) (.slice hA S.hist.length hcc) (S.sess.p0.play S.sess chunks) V → TxIn w (.slice vp n vcap) lines := fun w h => by
    have h9 := h.rows.l.txIn
    rw [hvl, a3, hn] at h9
    exact h9
  clear hq1 hq2 hply hvl a1 a2 a3 a4 a5 b1 b2 b3 b4 ht1 hk1 hl1 hv1 HR1 HR2 HF45 hTab5 hTN5 hTO hTH
  obtain ⟨c0, c1, c2, c3, c4, c5, c6, c7, c8, c9, c10, cl⟩ := rawC11 hBS5
  unfold Raw.cells at hpr1
  go_wp2_with (fail)
  refine hpr1.mono ?_
  rintro e w6 ⟨p1, c1', bs1, rfl, hx1, hF56⟩
  clear c0 c1 c2 c3 c4 c5 c6 c7 c8 c9 c10 cl hpr1
  have hBT6 := hF56.blk0 hBT5
  have hply6 := hply5.fr0 hF56
  clear hBS5 hBT5 hply5
  obtain ⟨X1, hX1e⟩ : ∃ X1, w6.heap.size = X1 := ⟨_, rfl⟩
  obtain ⟨W7, hW7⟩ : ∃ W7, w6.alloc (.cells #[.slice p1 n c1', .string t, .int .i64 k, .bool ovr] 31) = W7 := ⟨_, rfl⟩
  have hF67 : Fr 0 [] [] w6 W7 := by rw [← hW7]; exact (Fr.refl _ _ _ _).alloc _
  have hX17 : Blk W7 X1 #[.slice p1 n c1', .string t, .int .i64 k, .bool ovr] 31 := by rw [← hW7]; exact Blk.new' hX1e.symm _ _
  have hBT7 := hF67.blk0 hBT6
  have hply7 := hply6.fr0 hF67
  have hx17 := hx1.fr hF67
  have hF57 := hF56.trans hF67
  have hpr := hpr2 W7 hF57
  clear hpr2 hBT6 hply6 hx1
  obtain ⟨c0, c1, c2, c3, c4, c5, c6, c7, c8, c9, c10, cl⟩ := rawC11 hBT7
  unfold Raw.cells at hpr
  go_wp2_with (fail)
  refine hpr.mono ?_
  rintro e w8 ⟨p2, c2', bs2, rfl, hx2, hF78⟩
  clear hW7 hX1e c0 c1 c2 c3 c4 c5 c6 c7 c8 c9 c10 cl hpr hF67
  obtain ⟨X2, hX2e⟩ : ∃ X2, w8.heap.size = X2 := ⟨_, rfl⟩
  obtain ⟨W9, hW9⟩ : ∃ W9, w8.alloc (.cells #[.slice p2 n c2', .string t, .int .i64 k, .bool ovr] 31) = W9 := ⟨_, rfl⟩
  have hF89 : Fr 0 [] [] w8 W9 := by rw [← hW9]; exact (Fr.refl _ _ _ _).alloc _
  have hX29 : Blk W9 X2 #[.slice p2 n c2', .string t, .int .i64 k, .bool ovr] 31 := by rw [← hW9]; exact Blk.new' hX2e.symm _ _
  have hX19 := hF89.blk0 (hF78.blk0 hX17)
  have hply9 := (hply7.fr0 hF78).fr0 hF89
  have hx19 := (hx17.fr hF78).fr hF89
  have hx29 := hx2.fr hF89
  have hF09 := ((hF05.trans hF57).trans hF78).trans hF89
  clear hX17 hBT7 hply7 hx17 hF57 hF78 hx2 hF56
  go_wp2_with (fail)
  clear hW9 hX2e hF89
  have hS : (fun w' : World => Blk w' X1 #[.slice p1 n c1', .string t, .int .i64 k, .bool ovr] 31 ∧ Blk w' X2 #[.slice p2 n c2', .string t, .int .i64 k, .bool ovr] 31) W9.drew := ⟨hX19.drew, hX29.drew⟩
  refine wp_region_plan [5, 6, 10] [7, 12, 13] (fun w' : World => Blk w' X1 #[.slice p1 n c1', .string t, .int .i64 k, .bool ovr] 31 ∧ Blk w' X2 #[.slice p2 n c2', .string t, .int .i64 k, .bool ovr] 31) (.pure 0 (.pure 1 (.pure 2 (.pure 3 (.pure 4 (.take 5 (.take 6 (.go 7 (.pure 8 (.pure 9 (.take 10 (.pure 11 (.go 12 (.go 13 (.pure 14 (.pure 15 .done)))))))))))))))) hmix (by kernel_rfl) ?_
  repeat (first | (refine plan_move rfl rfl rfl ?_; (try simp only [Act.put, zq1, zq2, zq3, zq4, zq5, zq6])) | (refine plan_take rfl hS rfl (fun w' hSw => ex_load31 rfl rfl hSw.1) ?_; (try simp only [Act.put, zq1, zq2, zq3, zq4, zq5, zq6])) | (refine plan_take rfl hS rfl (fun w' hSw => ex_load31 rfl rfl hSw.2) ?_; (try simp only [Act.put, zq1, zq2, zq3, zq4, zq5, zq6])) | (refine plan_skipP rfl rfl ?_; (try simp only [Act.put, zq1, zq2, zq3, zq4, zq5, zq6])) | (refine plan_skip rfl hS rfl ?_; (try simp only [Act.put, zq1, zq2, zq3, zq4, zq5, zq6])) | (refine plan_pure (v := ?_) rfl rfl ?_ ?_; rotate_left; (intro w'; go_simp <;> with_reducible rfl); (try simp only [Act.put, zq1, zq2, zq3, zq4, zq5, zq6])) | (refine plan_take (v := ?_) rfl hS rfl ?_ ?_; rotate_left; (intro w' hSw; (try dsimp only at hSw); go_simp <;> with_reducible rfl); (try simp only [Act.put, zq1, zq2, zq3, zq4, zq5, zq6])))
  refine plan_goS rfl rfl (fun K hK => ?_)
  go_simp; refine (stands_c (w := W9.drew) hx19 hx29 (by omega)).mono ?_; rintro e w10 ⟨rfl, hF10⟩; have hS := And.intro (hF10.blk0 hX19.drew) (hF10.blk0 hX29.drew); have hply10 := (hply9.fr0 ((Fr.refl 0 [] [] W9).drew)).fr0 hF10; have hx110 := (hx19.fr ((Fr.refl 0 [] [] W9).drew)).fr hF10; have hF010 := (hF09.drew).trans hF10; refine hK _ _ hS ?_; clear hK K; (try simp only [Act.put, zq1, zq2, zq3, zq4, zq5, zq6])
  repeat (first | (refine plan_move rfl rfl rfl ?_; (try simp only [Act.put, zq1, zq2, zq3, zq4, zq5, zq6])) | (refine plan_take rfl hS rfl (fun w' hSw => ex_load31 rfl rfl hSw.1) ?_; (try simp only [Act.put, zq1, zq2, zq3, zq4, zq5, zq6])) | (refine plan_take rfl hS rfl (fun w' hSw => ex_load31 rfl rfl hSw.2) ?_; (try simp only [Act.put, zq1, zq2, zq3, zq4, zq5, zq6])) | (refine plan_skipP rfl rfl ?_; (try simp only [Act.put, zq1, zq2, zq3, zq4, zq5, zq6])) | (refine plan_skip rfl hS rfl ?_; (try simp only [Act.put, zq1, zq2, zq3, zq4, zq5, zq6])) | (refine plan_pure (v := ?_) rfl rfl ?_ ?_; rotate_left; (intro w'; go_simp <;> with_reducible rfl); (try simp only [Act.put, zq1, zq2, zq3, zq4, zq5, zq6])) | (refine plan_take (v := ?_) rfl hS rfl ?_ ?_; rotate_left; (intro w' hSw; (try dsimp only at hSw); go_simp <;> with_reducible rfl); (try simp only [Act.put, zq1, zq2, zq3, zq4, zq5, zq6])))
  refine plan_goS rfl rfl (fun K hK => ?_)
  go_simp; refine (hst _ hply10).mono ?_; rintro e w11 ⟨rfl, hF11⟩; have hS := And.intro (hF11.blk0 hS.1) (hF11.blk0 hS.2); have hply11 := hply10.fr0 hF11; have hx111 := hx110.fr hF11; have hF011 := hF010.trans hF11; refine hK _ _ hS ?_; clear hK K; (try simp only [Act.put, zq1, zq2, zq3, zq4, zq5, zq6])
  refine plan_go rfl (by kernel_rfl) rfl (fun K hK => ?_)
  go_simp; refine (stands_c hx111 (htx _ hply11) (by omega)).mono ?_; rintro e w12 ⟨rfl, hF12⟩; replace hF12 := hF011.trans hF12; refine hK _ _ ?_; clear hK K; (try simp only [Act.put, zq1, zq2, zq3, zq4, zq5, zq6])
  repeat (first | (refine plan_take rfl hS rfl (fun w' hSw => ex_load31 rfl rfl hSw.1) ?_; (try simp only [Act.put, zq1, zq2, zq3, zq4, zq5, zq6])) | (refine plan_take rfl hS rfl (fun w' hSw => ex_load31 rfl rfl hSw.2) ?_; (try simp only [Act.put, zq1, zq2, zq3, zq4, zq5, zq6])) | (refine plan_pure (v := ?_) rfl rfl ?_ ?_; rotate_left; (intro w'; go_simp <;> with_reducible rfl); (try simp only [Act.put, zq1, zq2, zq3, zq4, zq5, zq6])))
  refine plan_done ?_
  go_wp2_with (fail)
  go_ret
  exact ⟨rfl, hF12⟩
end Go.Proofs.YtiepopbmbgfhkaaGreat
