/-
  The tables of key bindings.
  The prompt's own block; bindings of codes (there are none).
-/
import Derived.Test.YtiepopbmbgfhkaaGreatQ12
namespace Go.Proofs.YtiepopbmbgfhkaaGreat
open Go.RowKit
set_option maxHeartbeats 2000000
set_option maxRecDepth 20000
set_option linter.unusedVariables false
set_option linter.unusedSimpArgs false

/-- A function of the program as a value. -/
def fnv (f : Nat) : Value := .func (.func f) #[] #[]
def commonCells : Array Value := #[.int .i64 45, fnv 147, .int .i64 44, fnv 148, .int .i64 46, fnv 149, .int .i64 53, fnv 150, .int .i64 38, fnv 151, .int .i64 39, fnv 152]

theorem common_c (w : World) : Calls Tryz.prog 123 #[] w fun e w' => (∃ T, e = .returned (.slice (some ⟨T, 0, none⟩) 6 6) ∧ Blk w' T commonCells 183) ∧ Fr 0 [] [] w w' := by
  go_enter Tryz.func123, Tryz.ntmps123
  go_wp2_with (fail)
  go_ret
  exact ⟨⟨_, rfl, Blk.new w _ _⟩, (Fr.refl _ _ _ _).alloc _⟩

def emacsCells (x : Nat) : Array Value := #[.int .i64 5, fnv 153, .int .i64 1, fnv 155, .int .i64 11, fnv 157, .int .i64 21, fnv 159, .int .i64 4, fnv 160, .int .i64 8, fnv 161, .int .i64 6, fnv 162, .int .i64 2, fnv 163, .int .i64 23, fnv 164, .int .i64 12, .func (.func 166) #[] #[.pointer (some ⟨x, 0, none⟩)]]

theorem emacs_c (w : World) (o : Nat) : Calls Tryz.prog 124 #[.iface 144 (.pointer (some ⟨o, 0, none⟩))] w fun e w' => (∃ T x, e = .returned (.slice (some ⟨T, 0, none⟩) 10 10) ∧ Blk w' T (emacsCells x) 183) ∧ Fr 0 [] [] w w' := by
  go_enter Tryz.func124, Tryz.ntmps124
  go_wp2_with (fail)
  go_ret
  exact ⟨⟨_, w.heap.size, rfl, Blk.new' (by simp) _ _⟩, ((Fr.refl _ _ _ _).alloc _).alloc _⟩
end Go.Proofs.YtiepopbmbgfhkaaGreat

namespace Go.Proofs.YtiepopbmbgfhkaaGreat
open Go.RowKit
set_option maxHeartbeats 2000000
set_option maxRecDepth 20000
set_option linter.unusedVariables false
set_option linter.unusedSimpArgs false

/-- The fields of a prompt. -/
def prCells (b r lb h c : Nat) (mode : ByteArray) (down : Bool) (ex : Value) : Array Value :=
  #[.pointer (some ⟨b, 0, none⟩), .pointer (some ⟨r, 0, none⟩), .func (.func 41) #[] #[.pointer (some ⟨lb, 0, none⟩)], .pointer (some ⟨h, 0, none⟩), .pointer (some ⟨c, 0, none⟩), .slice none 0 0, .slice none 0 0, .string mode, .bool down, ex]

structure PrC (w : World) (p b r lb h c : Nat) (mode : ByteArray) (down : Bool) (ex : Value) : Prop where
  c0 : w.cell? ⟨p, 0, none⟩ = some (.pointer (some ⟨b, 0, none⟩))
  c1 : w.cell? ⟨p, 1, none⟩ = some (.pointer (some ⟨r, 0, none⟩))
  c2 : w.cell? ⟨p, 2, none⟩ = some (.func (.func 41) #[] #[.pointer (some ⟨lb, 0, none⟩)])
  c3 : w.cell? ⟨p, 3, none⟩ = some (.pointer (some ⟨h, 0, none⟩))
  c4 : w.cell? ⟨p, 4, none⟩ = some (.pointer (some ⟨c, 0, none⟩))
  c5 : w.cell? ⟨p, 5, none⟩ = some (.slice none 0 0)
  c6 : w.cell? ⟨p, 6, none⟩ = some (.slice none 0 0)
  c7 : w.cell? ⟨p, 7, none⟩ = some (.string mode)
  c8 : w.cell? ⟨p, 8, none⟩ = some (.bool down)
  c9 : w.cell? ⟨p, 9, none⟩ = some ex
  f0 : w.frozen? ⟨p, 0, none⟩ = false
  lt : p < w.heap.size
theorem prC {w : World} {p b r lb h c : Nat} {mode : ByteArray} {down : Bool} {ex : Value} (H : Blk w p (prCells b r lb h c mode down ex) 96) : PrC w p b r lb h c mode down ex :=
  ⟨H.cell 0, H.cell 1, H.cell 2, H.cell 3, H.cell 4, H.cell 5, H.cell 6, H.cell 7, H.cell 8, H.cell 9, H.frozen 0, H.lt⟩

theorem ascii_c {w : World} {p b r lb h c : Nat} {mode : ByteArray} {down : Bool} {ex u : Value} (H : Blk w p (prCells b r lb h c mode down ex) 96) :
    Calls Tryz.prog 91 #[.pointer (some ⟨p, 0, none⟩), u] w fun e w' => e = .returned (.bool false) ∧ w = w' := by
  obtain ⟨c0, c1, c2, c3, c4, c5, c6, c7, c8, c9, f0, hlt⟩ := prC H
  go_enter Tryz.func91, Tryz.ntmps91
  go_wp2_with (fail)
  go_loop [5, 13] (fun v5 v13 => v5 = .bool false ∧ v13 = .int .i64 0) (fun _ _ => 0)
  case atStart => exact ⟨rfl, rfl⟩
  case round =>
    obtain ⟨rfl, rfl⟩ := hrel
    go_wp2_with (fail)
    go_ret
    exact ⟨rfl, rfl⟩
end Go.Proofs.YtiepopbmbgfhkaaGreat
