/-
  The renderer: without suggestions.
-/
import Derived.Test.YtiepopbmbgfhkaaGreatB8
namespace Go.Proofs.YtiepopbmbgfhkaaGreat
open Go.RowKit
set_option maxHeartbeats 1000000
set_option maxRecDepth 20000
set_option linter.unusedVariables false
set_option linter.unusedSimpArgs false

theorem renderNone_c {base : Nat} {w : World} {r b c : Nat} {q : Cp} {sel vs : Int} (h : Cm base w c q sel vs []) :
    Calls Tryz.prog 82 #[.pointer (some ⟨r, 0, none⟩), .pointer (some ⟨b, 0, none⟩), .pointer (some ⟨c, 0, none⟩)] w fun e w' => e = .returned (.tuple #[]) ∧ Fr 0 [] [] w w' := by
  go_enter Tryz.func82, Tryz.ntmps82
  go_wp2_with (fail)
  refine (getSuggestions_c h).mono ?_
  rintro e w1 ⟨⟨p, k, rfl, hP⟩, rfl⟩
  go_wp2_with (fail)
  refine (getSuggestions_c h).mono ?_
  rintro e w1 ⟨⟨p2, k2, rfl, hP2⟩, rfl⟩
  go_wp2_with (fail)
  refine bodyPost_ret (results_none rfl _ _ _) rfl ?_
  exact ⟨rfl, Fr.refl _ _ _ _⟩

/-- ShowCursor as it is deferred. -/
theorem showCursor_d {base : Nat} {w : World} {o n : Nat} {md : FrameMode} (h : Wr base w o n) (hn : n + 12 ≤ 1000000000) :
    CallsD Tryz.prog 251 #[.pointer (some ⟨o, 0, none⟩)] md w fun e u' w' => u' = md ∧ Wrote base o (n + 12) w e w' := by
  go_enter_d Tryz.func251, Tryz.ntmps251
  go_wp2_with (fail)
  refine (writeRaw_c (h.alloc _) (Dat.of_blk [27,91,63,49,50,108,27,91,63,50,53,104] _ (Blk.new' rfl _ _)) (by simp; omega)).mono ?_
  rintro e w1 ⟨rfl, hW1, hF1⟩
  go_wp2
  go_end0
  exact ⟨rfl, hW1.le (by simp), ((Fr.refl _ _ _ _).alloc _).into hF1 (by simp) (by simp)⟩

/-- What the rendering of suggestions leaves. -/
def Rend (base r o b L c : Nat) (pre : ByteArray) (cols n : Nat) (t : ByteArray) (k : Nat) (q : Cp) (sel vs : Int) (tmp : List Pk) (w : World) (e : Ending) (w' : World) : Prop :=
  e = .returned (.tuple #[]) ∧ Rn base w' r o pre cols n ∧ Buf base w' b L t k ∧ Cm base w' c q sel vs tmp ∧ Fr base [5, 143] [b, r] w w'
end Go.Proofs.YtiepopbmbgfhkaaGreat
