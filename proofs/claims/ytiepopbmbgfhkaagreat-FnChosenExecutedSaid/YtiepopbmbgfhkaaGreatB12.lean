/-
  The prompt's own block; bindings of codes (there are none).
-/
import Derived.Test.YtiepopbmbgfhkaaGreatB11
namespace Go.Proofs.YtiepopbmbgfhkaaGreat
open Go.RowKit
set_option maxHeartbeats 2000000
set_option maxRecDepth 20000
set_option linter.unusedVariables false
set_option linter.unusedSimpArgs false

/-- The fields of a prompt. -/
def prCells (b r lb h c : Nat) (mode : ByteArray) (down : Bool) (ex : Value) : Array Value :=
  #[.pointer (some ⟨b, 0, none⟩), .pointer (some ⟨r, 0, none⟩), .func (.func 41) #[] #[.pointer (some ⟨lb, 0, none⟩)], .pointer (some ⟨h, 0, none⟩), .pointer (some ⟨c, 0, none⟩), .slice none 0 0, .slice none 0 0, .string mode, .bool down, ex]

structure PrC (w : World) (p b r lb h c : Nat) (mode : ByteArray) (down : Bool) (ex : Value) : Prop where
  c0 : w.cell? ⟨p, 0, none⟩ = some (.pointer (some ⟨b, 0, none⟩))
  c1 : w.cell? ⟨p, 1, none⟩ = some (.pointer (some ⟨r, 0, none⟩))
  c2 : w.cell? ⟨p, 2, none⟩ = some (.func (.func 41) #[] #[.pointer (some ⟨lb, 0, none⟩)])
  c3 : w.cell? ⟨p, 3, none⟩ = some (.pointer (some ⟨h, 0, none⟩))
  c4 : w.cell? ⟨p, 4, none⟩ = some (.pointer (some ⟨c, 0, none⟩))
  c5 : w.cell? ⟨p, 5, none⟩ = some (.slice none 0 0)
  c6 : w.cell? ⟨p, 6, none⟩ = some (.slice none 0 0)
  c7 : w.cell? ⟨p, 7, none⟩ = some (.string mode)
  c8 : w.cell? ⟨p, 8, none⟩ = some (.bool down)
  c9 : w.cell? ⟨p, 9, none⟩ = some ex
  f0 : w.frozen? ⟨p, 0, none⟩ = false
  lt : p < w.heap.size
theorem prC {w : World} {p b r lb h c : Nat} {mode : ByteArray} {down : Bool} {ex : Value} (H : Blk w p (prCells b r lb h c mode down ex) 96) : PrC w p b r lb h c mode down ex :=
  ⟨H.cell 0, H.cell 1, H.cell 2, H.cell 3, H.cell 4, H.cell 5, H.cell 6, H.cell 7, H.cell 8, H.cell 9, H.frozen 0, H.lt⟩

theorem ascii_c {w : World} {p b r lb h c : Nat} {mode : ByteArray} {down : Bool} {ex u : Value} (H : Blk w p (prCells b r lb h c mode down ex) 96) :
    Calls Tryz.prog 91 #[.pointer (some ⟨p, 0, none⟩), u] w fun e w' => e = .returned (.bool false) ∧ w = w' := by
  obtain ⟨c0, c1, c2, c3, c4, c5, c6, c7, c8, c9, f0, hlt⟩ := prC H
  go_enter Tryz.func91, Tryz.ntmps91
  go_wp2_with (fail)
  go_loop [5, 13] (fun v5 v13 => v5 = .bool false ∧ v13 = .int .i64 0) (fun _ _ => 0)
  case atStart => exact ⟨rfl, rfl⟩
  case round =>
    obtain ⟨rfl, rfl⟩ := hrel
    go_wp2_with (fail)
    go_ret
    exact ⟨rfl, rfl⟩
end Go.Proofs.YtiepopbmbgfhkaaGreat
