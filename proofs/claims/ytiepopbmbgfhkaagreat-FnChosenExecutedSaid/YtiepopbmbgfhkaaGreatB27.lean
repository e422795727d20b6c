/-
  A prompt is made: Begin.
-/
import Derived.Test.YtiepopbmbgfhkaaGreatB26
namespace Go.Proofs.YtiepopbmbgfhkaaGreat
open Go.RowKit
set_option maxHeartbeats 2000000
set_option maxRecDepth 20000
set_option linter.unusedVariables false
set_option linter.unusedSimpArgs false

def emacsT : ByteArray := ⟨#[101, 109, 97, 99, 115]⟩
def commonT : ByteArray := ⟨#[99, 111, 109, 109, 111, 110]⟩

theorem newHist_c (w : World) : Calls Tryz.prog 69 #[] w fun e w' => (∃ h gh gt, e = .returned (.pointer (some ⟨h, 0, none⟩)) ∧ Hist w.heap.size w' h gh gt [] [.empty] 0) ∧ Fr 0 [] [] w w' := by
  go_enter Tryz.func69, Tryz.ntmps69
  go_wp2_with (fail)
  go_ret
  refine ⟨⟨_, w.heap.size, w.heap.size + 1, rfl, by omega, by omega, by omega, by omega, _, _, Blk.new' (by simp) _ _, ⟨0, #[], rfl, ((Blk.new w _ _).alloc _).alloc _, by simp, by simp [maxLen], rfl, rfl⟩, ⟨1, #[.string .empty], rfl, (Blk.new' (by simp) _ _).alloc _, by simp, by simp [maxLen], rfl, rfl⟩⟩, (((Fr.refl _ _ _ _).alloc _).alloc _).alloc _⟩

theorem newCm_c (w : World) (sb oc most : Nat) : Calls Tryz.prog 70 #[.func (.func 38) #[] #[.pointer (some ⟨sb, 0, none⟩), .pointer (some ⟨oc, 0, none⟩)], .int .u16 most] w fun e w' =>
    (∃ c, e = .returned (.pointer (some ⟨c, 0, none⟩)) ∧ w.heap.size ≤ c ∧ Blk w' c (cmCells ⟨sb, oc, most, .empty, false, []⟩ (-1) 0 (.slice none 0 0)) 87) ∧ Fr 0 [] [] w w' := by
  go_enter Tryz.func70, Tryz.ntmps70
  go_wp2_with (fail)
  go_ret
  exact ⟨⟨_, rfl, Nat.le_refl _, Blk.new w _ _⟩, (Fr.refl _ _ _ _).alloc _⟩

/-- What 'Begin' leaves. -/
structure Made (N : Nat) (w' : World) (p b r o L h gh gt c lb sb oc most : Nat) (pre : ByteArray) (cols : Nat) : Prop where
  pr : Blk w' p (prCells b r lb h c emacsT false .nilFunc) 96
  np : N ≤ p
  rn : Rn N w' r o pre cols 0
  buf : Buf N w' b L .empty 0
  hist : Hist N w' h gh gt [] [.empty] 0
  cm : Blk w' c (cmCells ⟨sb, oc, most, .empty, false, []⟩ (-1) 0 (.slice none 0 0)) 87
  nc : N ≤ c
  a1 : L ≠ gh
  a2 : L ≠ gt

theorem begin_c (w : World) (hb : 1 < w.heap.size) (ht : Tab w) (lb sb oc most cols : Nat) (pre : ByteArray) :
    Calls Tryz.prog 43 #[.func (.func 41) #[] #[.pointer (some ⟨lb, 0, none⟩)], .func (.func 38) #[] #[.pointer (some ⟨sb, 0, none⟩), .pointer (some ⟨oc, 0, none⟩)], .string pre, .int .u16 most, .int .u16 cols, .int .u16 1000] w fun e w' =>
      (∃ p b r o L h gh gt c, e = .returned (.pointer (some ⟨p, 0, none⟩)) ∧ Made w.heap.size w' p b r o L h gh gt c lb sb oc most pre cols) ∧ Fr 0 [] [] w w' := by
  go_enter Tryz.func43, Tryz.ntmps43
  go_wp2_with (fail)
  refine (newRender_c w hb ht pre cols).mono ?_
  rintro e w1 ⟨r, o, rfl, hR1, hF1⟩
  go_wp2_with (fail)
  refine (newBuffer_c w1).mono ?_
  rintro e w2 ⟨b, L, rfl, hL, hbL, hB2, hF2⟩
  have hsz1 := hF1.size
  have hsz2 := hF2.size
  have hB2' := hB2.base hsz1
  have hlt := hB2.cells
  clear hL hbL
  go_wp2_with (fail)
  refine (newHist_c w2).mono ?_
  rintro e w3 ⟨⟨h, gh, gt, rfl, hH3⟩, hF3⟩
  have hsz3 := hF3.size
  have hlt3 := hH3.lts
  go_wp2_with (fail)
  refine (newCm_c w3 sb oc most).mono ?_
  rintro e w4 ⟨⟨c, rfl, hc, hC4⟩, hF4⟩
  have hsz4 := hF4.size
  have hn1 : L < w2.heap.size ∧ w2.heap.size ≤ gh ∧ w2.heap.size ≤ gt := ⟨hlt.2.2.2.1, hH3.2.1, hH3.2.2.1⟩
  have hH3' : Hist w.heap.size w3 h gh gt [] [.empty] 0 := by
    obtain ⟨e1, e2, e3, e4, r⟩ := hH3
    exact ⟨by omega, by omega, by omega, e4, r⟩
  clear hlt hlt3
  go_wp2_with (fail)
  go_ret
  have hFx := (Fr.refl 0 [] [] w4).alloc (.cells (prCells b r lb h c emacsT false .nilFunc) 96)
  exact ⟨⟨_, b, r, o, L, h, gh, gt, c, rfl, ⟨Blk.new w4 _ _, by omega, hFx.rn0 (hF4.rn0 (hF3.rn0 (hF2.rn0 hR1))), hFx.buf0 (hF4.buf0 (hF3.buf0 hB2')), (hH3'.fr0 hF4).fr0 hFx, hFx.blk0 hC4, by omega, by omega, by omega⟩⟩, ((((hF1.fresh).ext hF2).ext hF3).ext hF4).trans hFx⟩
end Go.Proofs.YtiepopbmbgfhkaaGreat
