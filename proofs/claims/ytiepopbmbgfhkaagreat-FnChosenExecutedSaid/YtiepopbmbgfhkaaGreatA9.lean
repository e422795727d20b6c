/-
  Colours.
-/
import Derived.Test.YtiepopbmbgfhkaaGreatA8
namespace Go.Proofs.YtiepopbmbgfhkaaGreat
open Go.RowKit
set_option maxHeartbeats 1000000
set_option maxRecDepth 20000
set_option linter.unusedVariables false
set_option linter.unusedSimpArgs false

def u8b : Value → Bool
  | .int .u8 n => decide (0 ≤ n) && decide (n < 256)
  | _ => false
theorem u8b_of {v : Value} (h : u8b v = true) : ∃ b : UInt8, v = .int .u8 (b.toNat : Int) := by
  cases v with
  | int k n =>
    cases k <;> simp [u8b] at h
    refine ⟨UInt8.ofNat n.toNat, ?_⟩
    congr 1
    have : (UInt8.ofNat n.toNat).toNat = n.toNat := by rw [UInt8.toNat_ofNat']; omega
    omega
  | _ => simp [u8b] at h
theorem allU8_of {cs : Array Value} (h : cs.all u8b = true) : AllU8 cs := by
  intro j hj
  rw [Array.all_eq_true] at h
  obtain ⟨b, hb⟩ := u8b_of (h j hj)
  exact ⟨b, by rw [Array.getElem?_eq_getElem hj, hb]⟩

/-- New bytes that are returned, and true. -/
def Coded (w : World) (e : Ending) (w' : World) : Prop := ∃ u l, e = .returned (.tuple #[u, .bool true]) ∧ Dat w' u l ∧ l.length ≤ 3 ∧ Fr 0 [] [] w w' ∧ ∃ a n c, u = .slice a n c
theorem coded_of {w : World} {cs : Array Value} {n c : Nat} (hn : n = cs.size) (h3 : n ≤ 3) (hU : cs.all u8b = true) :
    Coded w (.returned (.tuple #[.slice (some ⟨w.heap.size, 0, none⟩) n c, .bool true])) (w.alloc (.cells cs 5)) := by
  obtain ⟨l, hl, hd⟩ := dat_all (i := 0) (n := n) (c := c) (Blk.new w cs 5) (allU8_of hU) (by omega)
  exact ⟨_, l, rfl, hd, by omega, (Fr.refl _ _ _ _).alloc _, _, _, _, rfl⟩

theorem fore_c (x : Nat) (hx : x < 17) (w : World) : Calls Tryz.prog 261 #[.int .i64 x] w (Coded w) := by
  rcases x with _ | _ | _ | _ | _ | _ | _ | _ | _ | _ | _ | _ | _ | _ | _ | _ | _ | x
  all_goals first
    | omega
    | (go_enter Tryz.func261, Tryz.ntmps261
       go_wp2
       go_ret2
       exact coded_of rfl (by decide) (by kernel_rfl))
theorem bgnd_c (x : Nat) (hx : x < 17) (w : World) : Calls Tryz.prog 262 #[.int .i64 x] w (Coded w) := by
  rcases x with _ | _ | _ | _ | _ | _ | _ | _ | _ | _ | _ | _ | _ | _ | _ | _ | _ | x
  all_goals first
    | omega
    | (go_enter Tryz.func262, Tryz.ntmps262
       go_wp2
       go_ret2
       exact coded_of rfl (by decide) (by kernel_rfl))
theorem attr_c (x : Nat) (hx : x < 2) (w : World) : Calls Tryz.prog 260 #[.int .i64 x] w (Coded w) := by
  rcases x with _ | _ | x
  all_goals first
    | omega
    | (go_enter Tryz.func260, Tryz.ntmps260
       go_wp2
       go_ret2
       exact coded_of rfl (by decide) (by kernel_rfl))
end Go.Proofs.YtiepopbmbgfhkaaGreat
