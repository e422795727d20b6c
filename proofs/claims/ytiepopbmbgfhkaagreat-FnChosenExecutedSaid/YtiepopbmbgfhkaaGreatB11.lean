/-
  The tables of key bindings.
-/
import Derived.Test.YtiepopbmbgfhkaaGreatB10
namespace Go.Proofs.YtiepopbmbgfhkaaGreat
open Go.RowKit
set_option maxHeartbeats 2000000
set_option maxRecDepth 20000
set_option linter.unusedVariables false
set_option linter.unusedSimpArgs false

/-- A function of the program as a value. -/
def fnv (f : Nat) : Value := .func (.func f) #[] #[]
def commonCells : Array Value := #[.int .i64 45, fnv 147, .int .i64 44, fnv 148, .int .i64 46, fnv 149, .int .i64 53, fnv 150, .int .i64 38, fnv 151, .int .i64 39, fnv 152]

theorem common_c (w : World) : Calls Tryz.prog 123 #[] w fun e w' => (∃ T, e = .returned (.slice (some ⟨T, 0, none⟩) 6 6) ∧ Blk w' T commonCells 183) ∧ Fr 0 [] [] w w' := by
  go_enter Tryz.func123, Tryz.ntmps123
  go_wp2_with (fail)
  go_ret
  exact ⟨⟨_, rfl, Blk.new w _ _⟩, (Fr.refl _ _ _ _).alloc _⟩

def emacsCells (x : Nat) : Array Value := #[.int .i64 5, fnv 153, .int .i64 1, fnv 155, .int .i64 11, fnv 157, .int .i64 21, fnv 159, .int .i64 4, fnv 160, .int .i64 8, fnv 161, .int .i64 6, fnv 162, .int .i64 2, fnv 163, .int .i64 23, fnv 164, .int .i64 12, .func (.func 166) #[] #[.pointer (some ⟨x, 0, none⟩)]]

theorem emacs_c (w : World) (o : Nat) : Calls Tryz.prog 124 #[.iface 144 (.pointer (some ⟨o, 0, none⟩))] w fun e w' => (∃ T x, e = .returned (.slice (some ⟨T, 0, none⟩) 10 10) ∧ Blk w' T (emacsCells x) 183) ∧ Fr 0 [] [] w w' := by
  go_enter Tryz.func124, Tryz.ntmps124
  go_wp2_with (fail)
  go_ret
  exact ⟨⟨_, w.heap.size, rfl, Blk.new' (by simp) _ _⟩, ((Fr.refl _ _ _ _).alloc _).alloc _⟩
end Go.Proofs.YtiepopbmbgfhkaaGreat
