/-
  The set's player: which chunks are looked at.
  A chunk that is looked at is a key, or a text.
-/
import Derived.Test.YtiepopbmbgfhkaaGreatQ26
import Derived.Test.YtiepopbmbgfhkaaGreatQ36
namespace Go.Proofs.YtiepopbmbgfhkaaGreat
open Go.RowKit
set_option maxHeartbeats 8000000
set_option maxRecDepth 20000
set_option linter.unusedVariables false
set_option linter.unusedSimpArgs false

/-- The keys that are looked at. -/
def theKeys : List (List UInt8) := [[13], [10], [9], [27, 91, 90], [27, 91, 65], [27, 91, 66], [27, 91, 67], [27, 91, 68], [27, 91, 51, 126], [1], [2], [3], [4], [5], [6], [8], [11], [127], [14], [16], [21], [23]]
/-- A chunk that is looked at: a text of at most 40 signs, or a key. -/
def KR (c : ByteArray) : Prop := c.size ≤ 40 ∧ (Prn c ∨ c.toList ∈ theKeys)
def KRPost (c : ByteArray) (w : World) (e : Ending) (w' : World) : Prop := (∃ r : Bool, e = .returned (.bool r) ∧ (r = true → KR c)) ∧ w = w'
theorem kr_no {c : ByteArray} {w : World} : KRPost c w (.returned (.bool false)) w := ⟨⟨false, rfl, fun h => by cases h⟩, rfl⟩
theorem kr_yes {c : ByteArray} {w : World} (h : KR c) : KRPost c w (.returned (.bool true)) w := ⟨⟨true, rfl, fun _ => h⟩, rfl⟩

theorem keyRight_c (c : ByteArray) (hz : c.size ≤ 9223372036854775807) (w : World) : Calls Tryz.prog 28 #[.string c] w (KRPost c w) := by
  obtain ⟨em, hem⟩ : ∃ em, c.toList.isEmpty = em := ⟨_, rfl⟩
  have hem2 : em = true → c.toList = [] := fun e => by rw [← hem] at e; simpa using e
  have hem3 : em = false → c.toList ≠ [] := fun e e2 => by rw [e2] at hem; rw [← hem] at e; simp at e
  have HEX := Lib.hid (show em = decide (c.size = 0) by rw [← hem, str_empty])
  cases em with
  | true =>
    have hE2 := hem2 rfl
    clear hem2 hem3
    go_enter Tryz.func28, Tryz.ntmps28
    go_wp2_with (fail)
    go_ret
    exact kr_no
  | false =>
  have hE2 := hem3 rfl
  clear hem2 hem3
  have hsz : c.size ≠ 0 := by have := HEX.out; simpa using this.symm
  have h0 : 0 < c.size := by omega
  by_cases q40 : (40 : Int) < c.size
  · go_enter Tryz.func28, Tryz.ntmps28
    go_wp2_with (fail)
    go_ret
    exact kr_no
  have h40 : c.size ≤ 40 := by omega
  by_cases q32 : 32 ≤ c[0].toNat
  · have d1 : decide ((32 : Int) ≤ c[0].toNat) = true := by simp; omega
    have d2 : (32 : Int) ≤ c[0].toNat := by omega
    obtain ⟨B, hB⟩ : ∃ B, (c.toList == [127]) = B := ⟨_, rfl⟩
    have HB := Lib.hid hB
    cases B with
    | false =>
      have hB2 : c.toList ≠ [127] := by simpa using hB
      go_enter Tryz.func28, Tryz.ntmps28
      go_wp2_with (fail)
      refine (printable_c c hz _).mono ?_
      rintro e w1 ⟨rfl, rfl⟩
      go_wp2_with (fail)
      go_ret
      cases hp : prB c with
      | false => exact kr_no
      | true => exact kr_yes ⟨h40, .inl (prB_prn hp).1⟩
    | true =>
      have hk : c.toList = [127] := by simpa using hB
      clear hB
      go_enter Tryz.func28, Tryz.ntmps28
      go_wp2_with (fail)
      go_ret
      exact kr_yes ⟨h40, .inr (by rw [hk]; simp [theKeys])⟩
  have d1 : decide ((32 : Int) ≤ c[0].toNat) = false := by simp; omega
  have d2 : ¬ (32 : Int) ≤ c[0].toNat := by omega
  by_cases hk0 : c.toList = [13]
  · have hk := hk0
    clear hk0  hE2 hem
    go_enter Tryz.func28, Tryz.ntmps28
    go_wp2_with (fail)
    go_ret
    exact kr_yes ⟨h40, .inr (by rw [hk]; simp [theKeys])⟩
  have f0 : (c.toList == [13]) = false := by simpa using hk0
  by_cases hk1 : c.toList = [10]
  · have hk := hk1
    clear hk1 f0 hE2 hem
    go_enter Tryz.func28, Tryz.ntmps28
    go_wp2_with (fail)
    go_ret
    exact kr_yes ⟨h40, .inr (by rw [hk]; simp [theKeys])⟩
  have f1 : (c.toList == [10]) = false := by simpa using hk1
  by_cases hk2 : c.toList = [9]
  · have hk := hk2
    clear hk2 f0 f1 hE2 hem
    go_enter Tryz.func28, Tryz.ntmps28
    go_wp2_with (fail)
    go_ret
    exact kr_yes ⟨h40, .inr (by rw [hk]; simp [theKeys])⟩
  have f2 : (c.toList == [9]) = false := by simpa using hk2
  by_cases hk3 : c.toList = [27, 91, 90]
  · have hk := hk3
    clear hk3 f0 f1 f2 hE2 hem
    go_enter Tryz.func28, Tryz.ntmps28
    go_wp2_with (fail)
    go_ret
    exact kr_yes ⟨h40, .inr (by rw [hk]; simp [theKeys])⟩
  have f3 : (c.toList == [27, 91, 90]) = false := by simpa using hk3
  by_cases hk4 : c.toList = [27, 91, 65]
  · have hk := hk4
    clear hk4 f0 f1 f2 f3 hE2 hem
    go_enter Tryz.func28, Tryz.ntmps28
    go_wp2_with (fail)
    go_ret
    exact kr_yes ⟨h40, .inr (by rw [hk]; simp [theKeys])⟩
  have f4 : (c.toList == [27, 91, 65]) = false := by simpa using hk4
  by_cases hk5 : c.toList = [27, 91, 66]
  · have hk := hk5
    clear hk5 f0 f1 f2 f3 f4 hE2 hem
    go_enter Tryz.func28, Tryz.ntmps28
    go_wp2_with (fail)
    go_ret
    exact kr_yes ⟨h40, .inr (by rw [hk]; simp [theKeys])⟩
  have f5 : (c.toList == [27, 91, 66]) = false := by simpa using hk5
  by_cases hk6 : c.toList = [27, 91, 67]
  · have hk := hk6
    clear hk6 f0 f1 f2 f3 f4 f5 hE2 hem
    go_enter Tryz.func28, Tryz.ntmps28
    go_wp2_with (fail)
    go_ret
    exact kr_yes ⟨h40, .inr (by rw [hk]; simp [theKeys])⟩
  have f6 : (c.toList == [27, 91, 67]) = false := by simpa using hk6
  by_cases hk7 : c.toList = [27, 91, 68]
  · have hk := hk7
    clear hk7 f0 f1 f2 f3 f4 f5 f6 hE2 hem
    go_enter Tryz.func28, Tryz.ntmps28
    go_wp2_with (fail)
    go_ret
    exact kr_yes ⟨h40, .inr (by rw [hk]; simp [theKeys])⟩
  have f7 : (c.toList == [27, 91, 68]) = false := by simpa using hk7
  by_cases hk8 : c.toList = [27, 91, 51, 126]
  · have hk := hk8
    clear hk8 f0 f1 f2 f3 f4 f5 f6 f7 hE2 hem
    go_enter Tryz.func28, Tryz.ntmps28
    go_wp2_with (fail)
    go_ret
    exact kr_yes ⟨h40, .inr (by rw [hk]; simp [theKeys])⟩
  have f8 : (c.toList == [27, 91, 51, 126]) = false := by simpa using hk8
  by_cases hk9 : c.toList = [1]
  · have hk := hk9
    clear hk9 f0 f1 f2 f3 f4 f5 f6 f7 f8 hE2 hem
    go_enter Tryz.func28, Tryz.ntmps28
    go_wp2_with (fail)
    go_ret
    exact kr_yes ⟨h40, .inr (by rw [hk]; simp [theKeys])⟩
  have f9 : (c.toList == [1]) = false := by simpa using hk9
  by_cases hk10 : c.toList = [2]
  · have hk := hk10
    clear hk10 f0 f1 f2 f3 f4 f5 f6 f7 f8 f9 hE2 hem
    go_enter Tryz.func28, Tryz.ntmps28
    go_wp2_with (fail)
    go_ret
    exact kr_yes ⟨h40, .inr (by rw [hk]; simp [theKeys])⟩
  have f10 : (c.toList == [2]) = false := by simpa using hk10
  by_cases hk11 : c.toList = [3]
  · have hk := hk11
    clear hk11 f0 f1 f2 f3 f4 f5 f6 f7 f8 f9 f10 hE2 hem
    go_enter Tryz.func28, Tryz.ntmps28
    go_wp2_with (fail)
    go_ret
    exact kr_yes ⟨h40, .inr (by rw [hk]; simp [theKeys])⟩
  have f11 : (c.toList == [3]) = false := by simpa using hk11
  by_cases hk12 : c.toList = [4]
  · have hk := hk12
    clear hk12 f0 f1 f2 f3 f4 f5 f6 f7 f8 f9 f10 f11 hE2 hem
    go_enter Tryz.func28, Tryz.ntmps28
    go_wp2_with (fail)
    go_ret
    exact kr_yes ⟨h40, .inr (by rw [hk]; simp [theKeys])⟩
  have f12 : (c.toList == [4]) = false := by simpa using hk12
  by_cases hk13 : c.toList = [5]
  · have hk := hk13
    clear hk13 f0 f1 f2 f3 f4 f5 f6 f7 f8 f9 f10 f11 f12 hE2 hem
    go_enter Tryz.func28, Tryz.ntmps28
    go_wp2_with (fail)
    go_ret
    exact kr_yes ⟨h40, .inr (by rw [hk]; simp [theKeys])⟩
  have f13 : (c.toList == [5]) = false := by simpa using hk13
  by_cases hk14 : c.toList = [6]
  · have hk := hk14
    clear hk14 f0 f1 f2 f3 f4 f5 f6 f7 f8 f9 f10 f11 f12 f13 hE2 hem
    go_enter Tryz.func28, Tryz.ntmps28
    go_wp2_with (fail)
    go_ret
    exact kr_yes ⟨h40, .inr (by rw [hk]; simp [theKeys])⟩
  have f14 : (c.toList == [6]) = false := by simpa using hk14
  by_cases hk15 : c.toList = [8]
  · have hk := hk15
    clear hk15 f0 f1 f2 f3 f4 f5 f6 f7 f8 f9 f10 f11 f12 f13 f14 hE2 hem
    go_enter Tryz.func28, Tryz.ntmps28
    go_wp2_with (fail)
    go_ret
    exact kr_yes ⟨h40, .inr (by rw [hk]; simp [theKeys])⟩
  have f15 : (c.toList == [8]) = false := by simpa using hk15
  by_cases hk16 : c.toList = [11]
  · have hk := hk16
    clear hk16 f0 f1 f2 f3 f4 f5 f6 f7 f8 f9 f10 f11 f12 f13 f14 f15 hE2 hem
    go_enter Tryz.func28, Tryz.ntmps28
    go_wp2_with (fail)
    go_ret
    exact kr_yes ⟨h40, .inr (by rw [hk]; simp [theKeys])⟩
  have f16 : (c.toList == [11]) = false := by simpa using hk16
  by_cases hk17 : c.toList = [127]
  · have hk := hk17
    clear hk17 f0 f1 f2 f3 f4 f5 f6 f7 f8 f9 f10 f11 f12 f13 f14 f15 f16 hE2 hem
    go_enter Tryz.func28, Tryz.ntmps28
    go_wp2_with (fail)
    go_ret
    exact kr_yes ⟨h40, .inr (by rw [hk]; simp [theKeys])⟩
  have f17 : (c.toList == [127]) = false := by simpa using hk17
  by_cases hk18 : c.toList = [14]
  · have hk := hk18
    clear hk18 f0 f1 f2 f3 f4 f5 f6 f7 f8 f9 f10 f11 f12 f13 f14 f15 f16 f17 hE2 hem
    go_enter Tryz.func28, Tryz.ntmps28
    go_wp2_with (fail)
    go_ret
    exact kr_yes ⟨h40, .inr (by rw [hk]; simp [theKeys])⟩
  have f18 : (c.toList == [14]) = false := by simpa using hk18
  by_cases hk19 : c.toList = [16]
  · have hk := hk19
    clear hk19 f0 f1 f2 f3 f4 f5 f6 f7 f8 f9 f10 f11 f12 f13 f14 f15 f16 f17 f18 hE2 hem
    go_enter Tryz.func28, Tryz.ntmps28
    go_wp2_with (fail)
    go_ret
    exact kr_yes ⟨h40, .inr (by rw [hk]; simp [theKeys])⟩
  have f19 : (c.toList == [16]) = false := by simpa using hk19
  by_cases hk20 : c.toList = [21]
  · have hk := hk20
    clear hk20 f0 f1 f2 f3 f4 f5 f6 f7 f8 f9 f10 f11 f12 f13 f14 f15 f16 f17 f18 f19 hE2 hem
    go_enter Tryz.func28, Tryz.ntmps28
    go_wp2_with (fail)
    go_ret
    exact kr_yes ⟨h40, .inr (by rw [hk]; simp [theKeys])⟩
  have f20 : (c.toList == [21]) = false := by simpa using hk20
  by_cases hk21 : c.toList = [23]
  · have hk := hk21
    clear hk21 f0 f1 f2 f3 f4 f5 f6 f7 f8 f9 f10 f11 f12 f13 f14 f15 f16 f17 f18 f19 f20 hE2 hem
    go_enter Tryz.func28, Tryz.ntmps28
    go_wp2_with (fail)
    go_ret
    exact kr_yes ⟨h40, .inr (by rw [hk]; simp [theKeys])⟩
  have f21 : (c.toList == [23]) = false := by simpa using hk21
  go_enter Tryz.func28, Tryz.ntmps28
  go_wp2_with (fail)
  go_ret
  exact kr_no
end Go.Proofs.YtiepopbmbgfhkaaGreat

namespace Go.Proofs.YtiepopbmbgfhkaaGreat
open Go.RowKit
set_option maxRecDepth 20000

theorem keys_are : ∀ l ∈ theKeys, keyOf l ≠ 9 ∧ keyOf l ≠ 10 ∧ keyOf l ≠ 12 ∧ keyOf l ≠ 86 := by decide
theorem kr_akey {c : ByteArray} (h : KR c) : AKey c := by
  obtain ⟨hs, hp | hk⟩ := h
  · have hk : keyOf c.data.toList = 86 := by
      by_cases h0 : c.data.toList = []
      · rw [h0]; decide
      · exact key_text h0 (by simpa using hp)
    exact ⟨by omega, by omega, by omega, fun _ => ⟨by omega, hp⟩⟩
  · rw [ByteArray.toList_eq] at hk
    obtain ⟨k1, k2, k3, k4⟩ := keys_are _ hk
    exact ⟨k1, k2, k3, fun e => absurd e k4⟩
end Go.Proofs.YtiepopbmbgfhkaaGreat
