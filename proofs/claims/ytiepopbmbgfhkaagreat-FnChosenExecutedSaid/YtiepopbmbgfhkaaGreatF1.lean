/-
  Texts in columns: Repeat, deleteBreakLineCharacters, Truncate, FillRight.
  formatTexts: texts in a column.
  formatSuggestions: suggestions as they are shown.
  The scroll bar's numbers: floats; clamp; the closure that tells its rows.
  renderCompletion, where there are suggestions.
-/
import Derived.Test.YtiepopbmbgfhkaaGreatB9
import Derived.Laws.Bits64b
import Derived.Test.YtiepopbmbgfhkaaGreatB21
import Derived.Laws.FloatArith
import Derived.Test.YtiepopbmbgfhkaaGreatB10
import Derived.Deep.DeepCutAuto
namespace Go.Proofs.YtiepopbmbgfhkaaGreat
open Go.RowKit
set_option maxHeartbeats 1000000
set_option maxRecDepth 20000
set_option linter.unusedVariables false
set_option linter.unusedSimpArgs false

theorem mul64_c (k : Nat) (hk : k ≤ 200) (w : World) : Calls Tryz.prog 193 #[.int .u64 1, .int .u64 k] w fun e w' => e = .returned (.tuple #[.int .u64 0, .int .u64 k]) ∧ w = w' := by
  have h1 : bits .and .u64 (1 : Int) 4294967295 = 1 := by kernel_rfl
  have h0 : bits .and .u64 (0 : Int) 4294967295 = 0 := by kernel_rfl
  have h2 : bits .and .u64 (k : Int) 4294967295 = k := by
    have h := bits_and_u64_nat k 4294967295 (by omega) (by omega)
    have e : k &&& 4294967295 = k % 4294967296 := Nat.and_two_pow_sub_one_eq_mod k 32
    rw [e, Nat.mod_eq_of_lt (by omega)] at h
    exact h
  have h3 : (k : Int) / 4294967296 = 0 := by omega
  have h4 : IntKind.u64.wrap (k : Int) = k := by rw [IntKind.wrap_u64]; omega
  have h5 : IntKind.u64.wrap (0 : Int) = 0 := by rw [IntKind.wrap_u64]; omega
  go_enter Tryz.func193, Tryz.ntmps193
  go_wp2
  go_ret2
  exact ⟨rfl, rfl⟩
theorem mul_c (k : Nat) (hk : k ≤ 200) (w : World) : Calls Tryz.prog 184 #[.int .u64 1, .int .u64 k] w fun e w' => e = .returned (.tuple #[.int .u64 0, .int .u64 k]) ∧ w = w' := by
  have h4 : IntKind.u64.wrap (k : Int) = k := by rw [IntKind.wrap_u64]; omega
  go_enter Tryz.func184, Tryz.ntmps184
  go_wp2_with (fail)
  refine (mul64_c k hk w).mono ?_
  rintro e w1 ⟨rfl, rfl⟩
  go_wp2
  go_ret2
  exact ⟨rfl, rfl⟩

/-- Blanks. -/
def blanks (k : Nat) : ByteArray := ⟨(List.replicate k 32).toArray⟩
theorem blanks_size (k : Nat) : (blanks k).size = k := by show (List.replicate k (32 : UInt8)).toArray.size = k; simp
theorem blanks_prn (k : Nat) : Prn (blanks k) := fun i hi => by
  have : (blanks k)[i] = 32 := by
    have hi' : i < (List.replicate k (32 : UInt8)).toArray.size := hi
    show (List.replicate k (32 : UInt8)).toArray[i] = 32
    simp
  rw [this]; decide
theorem blanks_cut (X : ByteArray) (k : Nat) (hk : k ≤ 128) (hX : X = blanks 128) : X.extract 0 k = blanks k := by
  subst hX
  apply ByteArray.ext
  rw [ByteArray.data_extract]
  unfold blanks
  apply Array.ext'
  simp only [Array.toList_extract, List.extract_eq_take_drop, List.drop_zero, Nat.sub_zero, List.take_replicate]
  rw [Nat.min_eq_left hk]
theorem repeat_c (k : Nat) (hk : k ≤ 120) (w : World) : Calls Tryz.prog 175 #[.string ⟨#[32]⟩, .int .i64 k] w fun e w' => e = .returned (.string (blanks k)) ∧ w = w' := by
  by_cases k0 : k = 0
  · subst k0
    go_enter Tryz.func175, Tryz.ntmps175
    go_wp2
    go_ret
    exact ⟨rfl, rfl⟩
  by_cases k1 : k = 1
  · subst k1
    go_enter Tryz.func175, Tryz.ntmps175
    go_wp2
    go_ret
    exact ⟨rfl, rfl⟩
  have h4 : IntKind.u64.wrap (k : Int) = k := by rw [IntKind.wrap_u64]; omega
  have h5 : IntKind.i64.wrap (k : Int) = k := wrap_in (by omega) (by omega)
  obtain ⟨e0, -⟩ := int_ne (a := (k : Int)) (b := 0) (by omega)
  obtain ⟨e1, -⟩ := int_ne (a := (k : Int)) (b := 1) (by omega)
  have d1 : decide ((k : Int) < 0) = false := by simp
  have d2 : decide ((9223372036854775807 : Int) < k) = false := by simp; omega
  have d3 : decide ((k : Int) ≤ 128) = true := by simp; omega
  go_enter Tryz.func175, Tryz.ntmps175
  go_wp2_with (fail)
  refine (mul_c k (by omega) w).mono ?_
  rintro e w1 ⟨rfl, rfl⟩
  go_wp2_with (fail)
  refine (((hasPrefix_c _ _ ?_ ?_ w).mono (fun e w' hh => (show e = .returned (.bool true) ∧ w = w' from ⟨hh.1.trans (by kernel_rfl), hh.2⟩)))).mono ?_
  · decide
  · decide
  rintro e w1 ⟨rfl, rfl⟩
  go_wp2_with (fail)
  go_ret
  refine ⟨congrArg (fun x => Ending.returned (Value.string x)) (blanks_cut _ k (by omega) ?_), rfl⟩
  kernel_rfl

theorem empty_pre : ∀ t : ByteArray, t ++ .empty = t := fun t => by simp

theorem prn_no {t : ByteArray} (h : Prn t) (c : UInt8) (hc : c.toNat < 32) : ∀ i (h : i < t.size), t[i] ≠ c := fun i hi e => by
  have := (h i hi).1
  rw [e] at this
  omega
theorem delBreak_c (t : ByteArray) (ht : Prn t) (hs : t.size ≤ 1000000) (w : World) : Calls Tryz.prog 174 #[.string t] w fun e w' => e = .returned (.string t) ∧ Fr 0 [] [] w w' := by
  go_enter Tryz.func174, Tryz.ntmps174
  go_wp2_with (fail)
  refine (replace_c t 10 .empty (by omega) (prn_no ht 10 (by decide)) _).mono ?_
  rintro e w1 ⟨rfl, hF1⟩
  go_wp2_with (fail)
  refine (replace_c t 13 .empty (by omega) (prn_no ht 13 (by decide)) _).mono ?_
  rintro e w2 ⟨rfl, hF2⟩
  go_wp2
  go_ret
  exact ⟨rfl, hF1.trans hF2⟩

def dots : ByteArray := ⟨#[46, 46, 46]⟩
theorem dots_prn : Prn dots := fun i hi => by
  have : dots.size = 3 := rfl
  have h9 : ∀ j (h : j < 3), 32 ≤ (#[46, 46, 46] : Array UInt8)[j].toNat ∧ (#[46, 46, 46] : Array UInt8)[j].toNat < 127 := by decide
  exact h9 i (by omega)

/-- A text that is too long for its column. -/
theorem trunc_c (s : ByteArray) (hp : Prn s) (hs : s.size ≤ 1000) (k : Nat) (hk : 3 ≤ k) (hks : k < s.size) (w : World) :
    Calls Tryz.prog 176 #[.string s, .int .i64 k, .string dots] w fun e w' => e = .returned (.string (s.extract 0 (k - 3) ++ dots)) ∧ Fr 0 [] [] w w' := by
  have d1 : decide ((s.size : Int) ≤ k) = false := by simp; omega
  have hk3 : (k : Int) - 3 = ((k - 3 : Nat) : Int) := by omega
  obtain ⟨m, hm⟩ : ∃ m, k - 3 = m := ⟨_, rfl⟩
  rw [hm] at hk3
  have hms : m + 3 < s.size := by omega
  rw [hm]
  clear hm
  have hds : dots.size = 3 := rfl
  go_enter Tryz.func176, Tryz.ntmps176
  go_wp2_with (fail)
  refine (width_c s hp (by omega) w).mono ?_
  rintro e w1 ⟨rfl, hF1⟩
  go_wp2_with (fail)
  refine (width_c dots dots_prn (by decide) w1).mono ?_
  rintro e w2 ⟨rfl, hF2⟩
  have hF := hF1.trans hF2
  clear hF1 hF2
  go_wp2_with (fail)
  go_loopw [7] (fun v7 w' => ∃ pos : Nat, pos ≤ m ∧ w' = w2.iter s pos ∧ v7 = .int .i64 pos) (fun _ w' => s.size - w'.iterPos w2.heap.size)
  case atStart => exact ⟨0, by omega, rfl, rfl⟩
  case round =>
    obtain ⟨pos, hpos, rfl, rfl⟩ := hrel
    have hlt : pos < s.size := by omega
    have hp1 := hp pos hlt
    have hnx : ∀ ty, (Instr.next (.pointer (some ⟨w2.heap.size, 0, none⟩)) true ty).run Tryz.prog (w2.iter s pos) = _ := fun ty => run_next_ascii w2 s pos ty hlt (by omega)
    by_cases hm : pos < m
    · have d2 : decide ((m : Int) < (pos : Int) + 1) = false := by simp; omega
      go_wp2_with (fail)
      refine (runeWidth_c _ (by exact Int.ofNat_le.2 hp1.1) (by exact Int.ofNat_lt.2 hp1.2) _).mono ?_
      rintro e w' ⟨rfl, rfl⟩
      go_wp2_with (fail)
      refine (runeWidth_c _ (by exact Int.ofNat_le.2 hp1.1) (by exact Int.ofNat_lt.2 hp1.2) _).mono ?_
      rintro e w' ⟨rfl, rfl⟩
      go_wp2_with (fail)
      go_roundw
      case rel => exact ⟨pos + 1, by omega, rfl, by go_num⟩
      case measure => simp; omega
    · have e : pos = m := by omega
      subst e
      have d2 : decide ((pos : Int) < (pos : Int) + 1) = true := by simp; omega
      go_wp2_with (fail)
      refine (runeWidth_c _ (by exact Int.ofNat_le.2 hp1.1) (by exact Int.ofNat_lt.2 hp1.2) _).mono ?_
      rintro e w' ⟨rfl, rfl⟩
      go_wp2_with (fail)
      go_ret
      exact ⟨rfl, hF.trans (iter_fr _ _ _ _ _ _)⟩

theorem fill_c (s : ByteArray) (hp : Prn s) (hs : s.size ≤ 1000) (k : Nat) (hk : k ≤ s.size) (w : World) :
    Calls Tryz.prog 177 #[.string s, .int .i64 k] w fun e w' => e = .returned (.string s) ∧ Fr 0 [] [] w w' := by
  have d1 : decide ((s.size : Int) < k) = false := by simp; omega
  go_enter Tryz.func177, Tryz.ntmps177
  go_wp2_with (fail)
  refine (width_c s hp (by omega) w).mono ?_
  rintro e w1 ⟨rfl, hF1⟩
  go_wp2_with (fail)
  go_loopw [0, 5] (fun v0 v5 w' => v0 = .string s ∧ v5 = .int .i64 s.size ∧ w' = w1) (fun _ _ _ => 0)
  case atStart => exact ⟨rfl, rfl, rfl⟩
  case round =>
    obtain ⟨rfl, rfl, rfl⟩ := hrel
    go_wp2_with (fail)
    go_ret
    exact ⟨rfl, hF1⟩
end Go.Proofs.YtiepopbmbgfhkaaGreat

namespace Go.Proofs.YtiepopbmbgfhkaaGreat
open Go.RowKit
set_option maxHeartbeats 4000000
set_option maxRecDepth 20000
set_option linter.unusedVariables false
set_option linter.unusedSimpArgs false

def sp1 : ByteArray := ⟨#[32]⟩
theorem sp1_prn : Prn sp1 := fun i hi => by
  have : sp1.size = 1 := rfl
  have h9 : ∀ j (h : j < 1), 32 ≤ (#[32] : Array UInt8)[j].toNat ∧ (#[32] : Array UInt8)[j].toNat < 127 := by decide
  exact h9 i (by omega)

/-- Texts as they stand in a column. -/
def Col (ys : List ByteArray) (n : Nat) : Prop := ys.length = n ∧ ∀ y ∈ ys, Prn y ∧ y.size ≤ 200
theorem Col.set {ys : List ByteArray} {n : Nat} (h : Col ys n) (i : Nat) {t : ByteArray} (ht : Prn t) (hs : t.size ≤ 200) : Col (ys.set i t) n :=
  ⟨by simpa using h.1, fun y hy => by
    rcases List.mem_or_eq_of_mem_set hy with h9 | rfl
    · exact h.2 y h9
    · exact ⟨ht, hs⟩⟩
theorem col_empty (n : Nat) : Col (List.replicate n .empty) n :=
  ⟨by simp, fun y hy => by
    obtain ⟨-, rfl⟩ := List.mem_replicate.1 hy
    exact ⟨(fun i h => absurd h (by simp)), by decide⟩⟩

/-- What formatTexts leaves. -/
def FmtPost (xs : List ByteArray) (n g : Nat) (max : Int) (w : World) (e : Ending) (w' : World) : Prop :=
  ∃ (g' : Nat) (c : Nat) (ys : List ByteArray) (W : Nat), e = .returned (.tuple #[.slice (some ⟨g', 0, none⟩) n c, .int .i64 W]) ∧ SRow w' g' (.slice (some ⟨g', 0, none⟩) n c) ys ∧ Col ys n ∧ w.heap.size ≤ g' ∧ (W = 0 ∨ (W : Int) ≤ max) ∧ W ≤ 120 ∧
    (5 < max → (∃ i, ∃ h : i < xs.length, xs[i].size ≠ 0) → W ≠ 0) ∧ Fr 0 [] [g] w w'

theorem formatTexts_c {w : World} {g cap : Nat} {xs : List ByteArray} (max : Int) (h : SRow w g (.slice (some ⟨g, 0, none⟩) xs.length cap) xs) (hx : ∀ x ∈ xs, Prn x ∧ x.size ≤ 100) (hl : xs.length ≤ 1000) (hm : max ≤ 120) (hm0 : -1000 ≤ max) :
    Calls Tryz.prog 143 #[.slice (some ⟨g, 0, none⟩) xs.length cap, .int .i64 max, .string sp1, .string sp1] w (FmtPost xs xs.length g max w) := by
  obtain ⟨N, hN⟩ : ∃ N, w.heap.size = N := ⟨_, rfl⟩
  have hgN : g < N := by have := h.lt; omega
  have hgN2 : g ≠ N := by omega
  go_enter Tryz.func143, Tryz.ntmps143
  go_wp2_with (first | (refine wpList_plain rfl (fun K hK => ?_); refine wp_makes xs.length _ _ rfl rfl rfl (by omega) ?_; intro w1 hS1 hF1 hlt1; refine hK _ _ ?_; clear hK K))
  rw [hN] at hS1
  refine (width_c sp1 sp1_prn (by decide) _).mono ?_
  rintro e w2 ⟨rfl, hF2⟩
  go_wp2_with (fail)
  refine (width_c sp1 sp1_prn (by decide) _).mono ?_
  rintro e w3 ⟨rfl, hF3⟩
  go_wp2_with (fail)
  refine (width_c dots dots_prn (by decide) _).mono ?_
  rintro e w4 ⟨rfl, hF4⟩
  have hF14 := (hF2.trans hF3).trans hF4
  have hS4 := hS1.fr0 hF14
  have hG4 := (h.fr0 hF1).fr0 hF14
  have hFr4 : Fr 0 [] [g] w w4 := hF1.any.ext hF14
  have hsp : sp1.size = 1 := rfl
  have hds : dots.size = 3 := rfl
  clear hF1 hF2 hF3 hF4 hF14 hS1 hlt1
  go_wp2_with (fail)
  go_loopw [9, 16, 17] (fun v9 v16 v17 w' => ∃ i W : Nat, i ≤ xs.length ∧ v16 = .int .i64 i ∧ v9 = .int .i64 W ∧ W ≤ 100 ∧ (∀ j (hj : j < xs.length), j < i → xs[j].size ≤ W) ∧ SRow w' g (.slice (some ⟨g, 0, none⟩) xs.length cap) xs ∧ SRow w' N (.slice (some ⟨N, 0, none⟩) xs.length xs.length) (List.replicate xs.length .empty) ∧ Fr 0 [] [g] w w') (fun _ v16 _ _ => xs.length - (intOf v16).toNat)
  case atStart => exact ⟨0, 0, by omega, rfl, rfl, by omega, (fun j hj hj0 => by omega), hG4, hS4, hFr4⟩
  clear hS4 hG4 hFr4 h
  obtain ⟨i, W, hi, rfl, rfl, hW, hmx, hG, hS, hF⟩ := hrel
  by_cases hlt : i < xs.length
  · have d1 : decide ((i : Int) < xs.length) = true := by simpa using hlt
    have d2 : (i : Int) < xs.length := by omega
    obtain ⟨e1, e2⟩ := hG.get i hlt
    have hxi := hx _ (List.getElem_mem hlt)
    obtain ⟨t, ht⟩ : ∃ t, xs[i] = t := ⟨_, rfl⟩
    have hset : xs.set i t = xs := by rw [← ht]; simp
    have HT := Lib.hid ht
    rw [ht] at e1 hxi
    clear ht
    have HX := Lib.hid hxi
    clear hxi
    go_wp2_with (fail)
    refine (delBreak_c t HX.out.1 (by have := HX.out.2; omega) _).mono ?_
    rintro e w5 ⟨rfl, hF5⟩
    have hG5 := hG.fr0 hF5
    have hS5 := hS.fr0 hF5
    obtain ⟨e3, e4⟩ := hG5.get i hlt
    have glt := hG5.lt
    have hG6 := hG5.set i t
    rw [hset] at hG6
    have hfs : Fr 0 [] [g] w5 (w5.setCell ⟨g, i, none⟩ (.string t)) := (Fr.refl _ _ _ _).setCell (Nat.zero_le _) (.inl (by simp)) _
    have hS6 := hS5.fr hfs (.inr ⟨by simp; omega, by simp⟩)
    have hF6 : Fr 0 [] [g] w (w5.setCell ⟨g, i, none⟩ (.string t)) := (hF.ext hF5).trans hfs
    clear hset e1 e2 hF5 hG5 hS5 hfs
    obtain ⟨W6, hW6⟩ : ∃ W6, w5.setCell ⟨g, i, none⟩ (.string t) = W6 := ⟨_, rfl⟩
    rw [hW6] at hG6 hS6 hF6
    obtain ⟨e5, e6⟩ := hG6.get i hlt
    rw [HT.out] at e5
    go_wp2_with (fail)
    refine (width_c t HX.out.1 (by have := HX.out.2; omega) _).mono ?_
    rintro e w7 ⟨rfl, hF7⟩
    have hG7 := hG6.fr0 hF7
    have hS7 := hS6.fr0 hF7
    have hF07 := hF6.ext hF7
    clear hG6 hS6 hF6 hF7 hG hS hF
    by_cases hWt : W < t.size
    · have d3 : decide ((W : Int) < t.size) = true := by simpa using hWt
      go_wp2_with (fail)
      go_roundw
      case rel =>
        refine ⟨i + 1, t.size, by omega, by simp, rfl, HX.out.2, fun j hj hj1 => ?_, hG7, hS7, hF07⟩
        by_cases e : j = i
        · subst e; rw [HT.out]; exact Nat.le_refl _
        · have := hmx j hj (by omega); omega
      case measure => simp [intOf]; omega
    · have d3 : decide ((W : Int) < t.size) = false := by simpa using hWt
      go_wp2_with (fail)
      go_roundw
      case rel =>
        refine ⟨i + 1, W, by omega, by simp, rfl, hW, fun j hj hj1 => ?_, hG7, hS7, hF07⟩
        by_cases e : j = i
        · subst e; rw [HT.out]; omega
        · exact hmx j hj (by omega)
      case measure => simp [intOf]; omega
  · have d1 : decide ((i : Int) < xs.length) = false := by simpa using hlt
    have d2 : ¬ (i : Int) < xs.length := by omega
    have HM := Lib.hid (show ∀ j (hj : j < xs.length), xs[j].size ≤ W from fun j hj => hmx j hj (by omega))
    clear hmx
    by_cases hW0 : W = 0
    · subst hW0
      go_wp2_with (fail)
      go_ret2
      refine ⟨N, xs.length, _, 0, rfl, hS, col_empty _, by omega, .inl rfl, by omega, fun _ ⟨j, hj, hj0⟩ => ?_, hF⟩
      have := HM.out j hj
      omega
    · have d3 : ((W : Int) == 0) = false := (int_ne (by omega)).1
      by_cases hm5 : max ≤ 5
      · have d4 : decide (max ≤ 5) = true := by simpa using hm5
        go_wp2_with (fail)
        go_ret2
        exact ⟨N, xs.length, _, 0, rfl, hS, col_empty _, by omega, .inl rfl, by omega, fun h9 _ => by omega, hF⟩
      · have d4 : decide (max ≤ 5) = false := by simpa using hm5
        obtain ⟨MX, rfl⟩ : ∃ MX : Nat, max = MX := ⟨max.toNat, by omega⟩
        by_cases hbig : MX < 1 + W + 1
        · have d5 : decide ((MX : Int) < 1 + (W : Int) + 1) = true := by simp; omega
          have hk : (MX : Int) - 1 - 1 = ((MX - 2 : Nat) : Int) := by omega
          obtain ⟨C, hC⟩ : ∃ C, MX - 2 = C := ⟨_, rfl⟩
          rw [hC] at hk
          have hC2 : 4 ≤ C ∧ C + 2 ≤ MX ∧ C ≤ 100 := by omega
          clear hC
          go_wp2_with (fail)
          go_loopw [18] (fun v18 w' => ∃ (i : Nat) (ys : List ByteArray), i ≤ xs.length ∧ v18 = .int .i64 i ∧ Col ys xs.length ∧ SRow w' g (.slice (some ⟨g, 0, none⟩) xs.length cap) xs ∧ SRow w' N (.slice (some ⟨N, 0, none⟩) xs.length xs.length) ys ∧ Fr 0 [] [g] w w') (fun v18 _ => xs.length - (intOf v18).toNat)
          case atStart => exact ⟨0, _, by omega, rfl, col_empty _, hG, hS, hF⟩
          clear hG hS hF hlt d1 d2 hi
          obtain ⟨i, ys, hi, rfl, hC, hG, hS, hF⟩ := hrel
          by_cases hlt : i < xs.length
          · have d1 : decide ((i : Int) < xs.length) = true := by simpa using hlt
            have d2 : (i : Int) < xs.length := by omega
            obtain ⟨e1, e2⟩ := hG.get i hlt
            have hxi := hx _ (List.getElem_mem hlt)
            obtain ⟨t, ht⟩ : ∃ t, xs[i] = t := ⟨_, rfl⟩
            have hMt := HM.out i hlt
            rw [ht] at e1 hxi hMt
            clear ht
            have HX := Lib.hid hxi
            clear hxi
            go_wp2_with (fail)
            refine (width_c t HX.out.1 (by have := HX.out.2; omega) _).mono ?_
            rintro e w5 ⟨rfl, hF5⟩
            have hG5 := hG.fr0 hF5
            have hS5 := hS.fr0 hF5
            have hF05 := hF.ext hF5
            have e5 := hF5.cell0 e1
            clear hG hS hF hF5 e1 e2
            by_cases hxc : t.size ≤ C
            · have d3 : decide ((t.size : Int) ≤ C) = true := by simpa using hxc
              have hD : (C : Int) - t.size = ((C - t.size : Nat) : Int) := by omega
              obtain ⟨D, hDe⟩ : ∃ D, C - t.size = D := ⟨_, rfl⟩
              rw [hDe] at hD
              have hD2 : D ≤ 100 := by omega
              clear hDe
              go_wp2_with (fail)
              refine (repeat_c D (by omega) _).mono ?_
              rintro e w6 ⟨rfl, rfl⟩
              obtain ⟨e3, e4⟩ := hS5.get i (by rw [hC.1]; exact hlt)
              have slt := hS5.lt
              go_wp2_with (first | (refine wpList_plain rfl (fun K hK => ?_); refine wp_of_exec (ex_add rfl rfl rfl ?_) ?_; (have := HX.out.2; simp only [ByteArray.size_append, blanks_size]; omega); refine hK _ _ ?_; clear hK K))
              go_roundw
              case rel =>
                have hfs : Fr 0 [] [N] w5 (w5.setCell ⟨N, i, none⟩ (.string (sp1 ++ t ++ blanks D ++ sp1))) := (Fr.refl _ _ _ _).setCell (Nat.zero_le _) (.inl (by simp)) _
                refine ⟨i + 1, ys.set i (sp1 ++ t ++ blanks D ++ sp1), by omega, by simp, hC.set i (prn_append (prn_append (prn_append sp1_prn HX.out.1) (blanks_prn D)) sp1_prn) ?_, hG5.fr hfs (.inr ⟨by simpa using hgN2, by simp⟩), hS5.set i _, hF05.setCell (a := ⟨N, i, none⟩) (Nat.zero_le _) (.inr (.inl (by show w.heap.size ≤ N; omega))) _⟩
                have := HX.out.2
                simp only [ByteArray.size_append, blanks_size]; omega
              case measure => simp [intOf]; omega
            · have d3 : decide ((t.size : Int) ≤ C) = false := by simpa using hxc
              have d4 : decide ((C : Int) < t.size) = true := by simp; omega
              have hTs : (t.extract 0 (C - 3) ++ dots).size = C := by simp only [ByteArray.size_append, ByteArray.size_extract]; omega
              have hTp : Prn (t.extract 0 (C - 3) ++ dots) := prn_append (HX.out.1.extract _ _) dots_prn
              have htr := trunc_c t HX.out.1 (by have := HX.out.2; omega) C (by omega) (by omega) w5
              obtain ⟨T, hT⟩ : ∃ T, t.extract 0 (C - 3) ++ dots = T := ⟨_, rfl⟩
              rw [hT] at hTs hTp htr
              clear hT
              go_wp2_with (fail)
              refine htr.mono ?_
              rintro e w6 ⟨rfl, hF6⟩
              clear htr
              have hG6 := hG5.fr0 hF6
              have hS6 := hS5.fr0 hF6
              have hF06 := hF05.ext hF6
              clear hG5 hS5 hF05 hF6 e5
              go_wp2_with (fail)
              refine (fill_c T hTp (by omega) C (by omega) w6).mono ?_
              rintro e w7 ⟨rfl, hF7⟩
              have hG7 := hG6.fr0 hF7
              have hS7 := hS6.fr0 hF7
              have hF07 := hF06.ext hF7
              clear hG6 hS6 hF06 hF7
              obtain ⟨e3, e4⟩ := hS7.get i (by rw [hC.1]; exact hlt)
              have slt := hS7.lt
              go_wp2_with (first | (refine wpList_plain rfl (fun K hK => ?_); refine wp_of_exec (ex_add rfl rfl rfl ?_) ?_; (simp only [ByteArray.size_append]; omega); refine hK _ _ ?_; clear hK K))
              go_roundw
              case rel =>
                have hfs : Fr 0 [] [N] w7 (w7.setCell ⟨N, i, none⟩ (.string (sp1 ++ T ++ sp1))) := (Fr.refl _ _ _ _).setCell (Nat.zero_le _) (.inl (by simp)) _
                refine ⟨i + 1, ys.set i (sp1 ++ T ++ sp1), by omega, by simp, hC.set i (prn_append (prn_append sp1_prn hTp) sp1_prn) ?_, hG7.fr hfs (.inr ⟨by simpa using hgN2, by simp⟩), hS7.set i _, hF07.setCell (a := ⟨N, i, none⟩) (Nat.zero_le _) (.inr (.inl (by show w.heap.size ≤ N; omega))) _⟩
                simp only [ByteArray.size_append]; omega
              case measure => simp [intOf]; omega
          · have d1 : decide ((i : Int) < xs.length) = false := by simpa using hlt
            have d2 : ¬ (i : Int) < xs.length := by omega
            go_wp2_with (fail)
            go_ret2
            refine ⟨N, xs.length, ys, C + 2, ?_, hS, hC, by omega, .inr (by omega), by omega, fun _ _ => by omega, hF⟩
            have e9 : ((C + 2 : Nat) : Int) = 1 + (C : Int) + 1 := by omega
            rw [e9]
            rfl
        · have d5 : decide ((MX : Int) < 1 + (W : Int) + 1) = false := by simp; omega
          go_wp2_with (fail)
          go_loopw [18] (fun v18 w' => ∃ (i : Nat) (ys : List ByteArray), i ≤ xs.length ∧ v18 = .int .i64 i ∧ Col ys xs.length ∧ SRow w' g (.slice (some ⟨g, 0, none⟩) xs.length cap) xs ∧ SRow w' N (.slice (some ⟨N, 0, none⟩) xs.length xs.length) ys ∧ Fr 0 [] [g] w w') (fun v18 _ => xs.length - (intOf v18).toNat)
          case atStart => exact ⟨0, _, by omega, rfl, col_empty _, hG, hS, hF⟩
          clear hG hS hF hlt d1 d2 hi
          obtain ⟨i, ys, hi, rfl, hC, hG, hS, hF⟩ := hrel
          by_cases hlt : i < xs.length
          · have d1 : decide ((i : Int) < xs.length) = true := by simpa using hlt
            have d2 : (i : Int) < xs.length := by omega
            obtain ⟨e1, e2⟩ := hG.get i hlt
            have hxi := hx _ (List.getElem_mem hlt)
            obtain ⟨t, ht⟩ : ∃ t, xs[i] = t := ⟨_, rfl⟩
            have hMt := HM.out i hlt
            rw [ht] at e1 hxi hMt
            clear ht
            have HX := Lib.hid hxi
            clear hxi
            go_wp2_with (fail)
            refine (width_c t HX.out.1 (by have := HX.out.2; omega) _).mono ?_
            rintro e w5 ⟨rfl, hF5⟩
            have hG5 := hG.fr0 hF5
            have hS5 := hS.fr0 hF5
            have hF05 := hF.ext hF5
            have e5 := hF5.cell0 e1
            clear hG hS hF hF5 e1 e2
            by_cases hxc : t.size ≤ W
            · have d3 : decide ((t.size : Int) ≤ W) = true := by simpa using hxc
              have hD : (W : Int) - t.size = ((W - t.size : Nat) : Int) := by omega
              obtain ⟨D, hDe⟩ : ∃ D, W - t.size = D := ⟨_, rfl⟩
              rw [hDe] at hD
              have hD2 : D ≤ 100 := by omega
              clear hDe
              go_wp2_with (fail)
              refine (repeat_c D (by omega) _).mono ?_
              rintro e w6 ⟨rfl, rfl⟩
              obtain ⟨e3, e4⟩ := hS5.get i (by rw [hC.1]; exact hlt)
              have slt := hS5.lt
              go_wp2_with (first | (refine wpList_plain rfl (fun K hK => ?_); refine wp_of_exec (ex_add rfl rfl rfl ?_) ?_; (have := HX.out.2; simp only [ByteArray.size_append, blanks_size]; omega); refine hK _ _ ?_; clear hK K))
              go_roundw
              case rel =>
                have hfs : Fr 0 [] [N] w5 (w5.setCell ⟨N, i, none⟩ (.string (sp1 ++ t ++ blanks D ++ sp1))) := (Fr.refl _ _ _ _).setCell (Nat.zero_le _) (.inl (by simp)) _
                refine ⟨i + 1, ys.set i (sp1 ++ t ++ blanks D ++ sp1), by omega, by simp, hC.set i (prn_append (prn_append (prn_append sp1_prn HX.out.1) (blanks_prn D)) sp1_prn) ?_, hG5.fr hfs (.inr ⟨by simpa using hgN2, by simp⟩), hS5.set i _, hF05.setCell (a := ⟨N, i, none⟩) (Nat.zero_le _) (.inr (.inl (by show w.heap.size ≤ N; omega))) _⟩
                have := HX.out.2
                simp only [ByteArray.size_append, blanks_size]; omega
              case measure => simp [intOf]; omega
            · exact absurd hMt hxc
          · have d1 : decide ((i : Int) < xs.length) = false := by simpa using hlt
            have d2 : ¬ (i : Int) < xs.length := by omega
            go_wp2_with (fail)
            go_ret2
            refine ⟨N, xs.length, ys, W + 2, ?_, hS, hC, by omega, .inr (by omega), by omega, fun _ _ => by omega, hF⟩
            have e9 : ((W + 2 : Nat) : Int) = 1 + (W : Int) + 1 := by omega
            rw [e9]
            rfl

theorem formatTexts_n {w : World} {g cap n : Nat} {xs : List ByteArray} (hn : xs.length = n) (max : Int) (h : SRow w g (.slice (some ⟨g, 0, none⟩) n cap) xs) (hx : ∀ x ∈ xs, Prn x ∧ x.size ≤ 100) (hl : n ≤ 1000) (hm : max ≤ 120) (hm0 : -1000 ≤ max) :
    Calls Tryz.prog 143 #[.slice (some ⟨g, 0, none⟩) n cap, .int .i64 max, .string sp1, .string sp1] w (FmtPost xs n g max w) := by
  subst hn
  exact formatTexts_c max h hx hl hm hm0
end Go.Proofs.YtiepopbmbgfhkaaGreat

namespace Go.Proofs.YtiepopbmbgfhkaaGreat
open Go.RowKit
set_option maxHeartbeats 4000000
set_option maxRecDepth 20000
set_option linter.unusedVariables false
set_option linter.unusedSimpArgs false

/-- Suggestions in a block of their own. -/
def PB (w : World) (g : Nat) (xs : List Pk) : Prop := Blk w g (pks xs).toArray 73
theorem PB.lt {w : World} {g : Nat} {xs : List Pk} (h : PB w g xs) : g < w.heap.size := Blk.lt h
theorem PB.get {w : World} {g : Nat} {xs : List Pk} (h : PB w g xs) (i : Nat) (hi : i < xs.length) : w.cell? ⟨g, i * 2, none⟩ = some (.string xs[i].1) ∧ w.cell? ⟨g, i * 2 + 1, none⟩ = some (.string xs[i].2) ∧ w.frozen? ⟨g, i * 2, none⟩ = false ∧ w.frozen? ⟨g, i * 2 + 1, none⟩ = false := by
  obtain ⟨e1, e2⟩ := pks_get xs i hi
  refine ⟨?_, ?_, Blk.frozen h _, Blk.frozen h _⟩
  · rw [Blk.cell h]; simpa using e1
  · rw [Blk.cell h]; simpa using e2
theorem pks_set (xs : List Pk) (i : Nat) (y : Pk) : ((pks xs).set (i * 2) (.string y.1)).set (i * 2 + 1) (.string y.2) = if i < xs.length then pks (xs.set i y) else pks xs := by
  induction xs generalizing i with
  | nil => simp [pks]
  | cons x xs ih =>
    cases i with
    | zero => simp [pks]
    | succ i =>
      have e1 : (i + 1) * 2 = i * 2 + 1 + 1 := by omega
      have e2 : pks (x :: xs) = .string x.1 :: .string x.2 :: pks xs := rfl
      rw [e1, e2, List.set_cons_succ, List.set_cons_succ, List.set_cons_succ, List.set_cons_succ, ih i]
      by_cases h : i < xs.length
      · rw [if_pos h, if_pos (by simpa using h), List.set_cons_succ]; rfl
      · rw [if_neg h, if_neg (by simpa using h)]
theorem PB.set {w : World} {g : Nat} {xs : List Pk} (h : PB w g xs) (i : Nat) (hi : i < xs.length) (y : Pk) : PB ((w.setCell ⟨g, i * 2, none⟩ (.string y.1)).setCell ⟨g, i * 2 + 1, none⟩ (.string y.2)) g (xs.set i y) := by
  have h2 := (Blk.set h (i * 2) (.string y.1)).set (i * 2 + 1) (.string y.2)
  simp only [List.setIfInBounds_toArray] at h2
  rw [pks_set, if_pos hi] at h2
  exact h2
theorem PB.fr {w w1 : World} {g : Nat} {xs : List Pk} {base : Nat} {ts bs : List Nat} (h : PB w g xs) (hF : Fr base ts bs w w1) (hb : g < base ∨ (g ∉ bs ∧ 73 ∉ ts)) : PB w1 g xs := hF.blk h hb
theorem PB.fr0 {w w1 : World} {g : Nat} {xs : List Pk} {base : Nat} (h : PB w g xs) (hF : Fr base [] [] w w1) : PB w1 g xs := hF.blk0 h

theorem made_pks (n : Nat) : madeCells (Value.agg #[.string .empty, .string .empty]).cells (n * 2) = (pks (List.replicate n (.empty, .empty))).toArray := by
  have e1 : ∀ n, pks (List.replicate n (ByteArray.empty, ByteArray.empty)) = List.replicate (n * 2) (Value.string .empty) := by
    intro n
    induction n with
    | zero => rfl
    | succ n ih =>
      rw [List.replicate_succ, show (n + 1) * 2 = n * 2 + 1 + 1 by omega, List.replicate_succ, List.replicate_succ, ← ih]
      rfl
  rw [e1]
  apply Array.ext
  · simp [size_madeCells]
  · intro i h1 h2
    have hz : (Value.agg #[.string .empty, .string .empty]).cells = #[Value.string .empty, Value.string .empty] := rfl
    have : i % 2 = 0 ∨ i % 2 = 1 := by omega
    have h3 : ∀ (z : Array Value) (h : i < (madeCells z (n * 2)).size), z = #[Value.string .empty, Value.string .empty] → (madeCells z (n * 2))[i] = Value.string .empty := by
      intro z h e
      subst e
      unfold madeCells
      rcases this with e | e <;> simp [e]
    rw [h3 _ h1 hz]
    simp

/-- 'make([]Suggest, n)' -/
theorem wp_makep {o : Oper} {a : Act} {w : World} {K : Act → World → Prop} {Q : Exit → Act → World → Prop} (n : Nat) (l c : Operand) (ho : o.op = Op.makeSlice 72 l c) (hl : a.eval l = .int .i64 n) (hc : a.eval c = .int .i64 n) (hn : n ≤ 1000000)
    (h : ∀ w', PB w' w.heap.size (List.replicate n (.empty, .empty)) → Fr 0 [] [] w w' → w.heap.size < w'.heap.size → K (a.put o.dst (.slice (some ⟨w.heap.size, 0, none⟩) n n)) w') : o.wp Tryz.prog a w K Q := by
  obtain ⟨i, h1, h2, h3, h4⟩ := info73
  obtain ⟨w', hrun, r1, r2⟩ := run_make_full (P := Tryz.prog) w 0 72 73 i (.agg #[.string .empty, .string .empty]) 2 (by kernel_rfl) h1 h2 h3 .i64 .i64 n (by rw [h4]; omega) (by simp only [maxLen]; omega) (by omega)
  unfold Oper.wp
  simp [execOp, ho, hl, hc, hrun, Result.andThen]
  have hP : PB w' w.heap.size (List.replicate n (.empty, .empty)) := by
    obtain ⟨q1, ⟨q2, -⟩ | ⟨g, cap, cur, q2, q3, q4, q5, q6, q7, q8⟩⟩ := r1
    · cases q2
    · simp only [Value.slice.injEq, Option.some.injEq, Addr.mk.injEq, and_true, true_and] at q2
      obtain ⟨rfl, rfl⟩ := q2
      have e : cur.toList = (madeCells (Value.agg #[.string .empty, .string .empty]).cells (n * 2)).toList := by
        rw [← q8, List.take_of_length_le]
        simp [q7]
      have e2 : cur = (madeCells (Value.agg #[.string .empty, .string .empty]).cells (n * 2)) := Array.toList_inj.1 e
      have e3 : madeCells (Value.agg #[.string .empty, .string .empty]).cells (n * 2) = (pks (List.replicate n (.empty, .empty))).toArray := made_pks n
      unfold PB
      rw [← e3, ← e2]
      exact q4
  exact h w' hP ((Fr.refl _ _ _ _).grown r2 (by simp)) hP.lt

/-- The cells of suggestions that are read. -/
def PIn (w : World) (g : Nat) (xs : List Pk) : Prop := ∀ i (hi : i < xs.length), w.cell? ⟨g, i * 2, none⟩ = some (.string xs[i].1) ∧ w.cell? ⟨g, i * 2 + 1, none⟩ = some (.string xs[i].2)
theorem PRow.pin {base : Nat} {w : World} {v : Value} {xs : List Pk} (h : PRow base w v xs) (hne : xs ≠ []) : ∃ g c, v = .slice (some ⟨g, 0, none⟩) xs.length c ∧ PIn w g xs ∧ g < w.heap.size := by
  have h0 : 0 < xs.length := by cases xs; exact absurd rfl hne; simp
  obtain ⟨g, c, rfl, -, -, -, hlt⟩ := h.get 0 h0
  refine ⟨g, c, rfl, fun i hi => ?_, hlt⟩
  obtain ⟨g', c', e, e1, e2, -⟩ := h.get i hi
  simp only [Value.slice.injEq, Option.some.injEq, Addr.mk.injEq] at e
  obtain ⟨⟨rfl, -⟩, -⟩ := e
  exact ⟨e1, e2⟩
theorem PIn.fr0 {w w1 : World} {g : Nat} {xs : List Pk} {base : Nat} (h : PIn w g xs) (hF : Fr base [] [] w w1) : PIn w1 g xs := fun i hi => ⟨hF.cell0 (h i hi).1, hF.cell0 (h i hi).2⟩

/-- What is asked of suggestions that are shown. -/
def Shw (fs : List Pk) (n : Nat) : Prop := fs.length = n ∧ ∀ x ∈ fs, Prn x.1 ∧ x.1.size ≤ 200 ∧ Prn x.2 ∧ x.2.size ≤ 200

/-- What formatSuggestions leaves. -/
def FsPost (n : Nat) (max : Int) (w : World) (e : Ending) (w' : World) : Prop :=
  ∃ (g W : Nat) (fs : List Pk), e = .returned (.tuple #[.slice (some ⟨g, 0, none⟩) n n, .int .i64 W]) ∧ PB w' g fs ∧ Shw fs n ∧ w.heap.size ≤ g ∧ (W : Int) ≤ max ∧ Fr 0 [] [] w w'

theorem formatSuggestions_c {base : Nat} {w : World} {v : Value} {xs : List Pk} (max : Int) (h : PRow base w v xs) (hx : ∀ x ∈ xs, Prn x.1 ∧ x.1.size ≤ 100 ∧ Prn x.2 ∧ x.2.size ≤ 100) (hx0 : ∀ x ∈ xs, x.1.size ≠ 0) (hne : xs ≠ []) (hl : xs.length ≤ 1000) (hm : max ≤ 120) (hm0 : 6 ≤ max) :
    Calls Tryz.prog 114 #[v, .int .i64 max] w (FsPost xs.length max w) := by
  obtain ⟨vg, vc, rfl, hP, hvl⟩ := h.pin hne
  obtain ⟨n, hn⟩ : ∃ n, xs.length = n := ⟨_, rfl⟩
  have hn0 : 0 < n := by rw [← hn]; cases xs; exact absurd rfl hne; simp
  rw [hn] at hl ⊢
  have hn2 : (xs.map Prod.fst).length = n := by simpa using hn
  have hn3 : (xs.map Prod.snd).length = n := by simpa using hn
  have HN := Lib.hid hn
  obtain ⟨N0, hN0⟩ : ∃ N, w.heap.size = N := ⟨_, rfl⟩
  go_enter Tryz.func114, Tryz.ntmps114
  go_wp2_with (first | (refine wpList_plain rfl (fun K hK => ?_); refine wp_makep n _ _ rfl rfl rfl (by omega) ?_; intro w1 hB1 hF1 hlt1; refine hK _ _ ?_; clear hK K) | (refine wpList_plain rfl (fun K hK => ?_); refine wp_makes n _ _ rfl rfl rfl (by omega) ?_; intro w2 hS2 hF2 hlt2; refine hK _ _ ?_; clear hK K))
  rw [hN0] at hB1
  obtain ⟨N1, hN1⟩ : ∃ N, w1.heap.size = N := ⟨_, rfl⟩
  rw [hN1] at hS2
  have hN01 : N0 < N1 := by omega
  have hF02 := hF1.trans hF2
  have hB2 := hB1.fr0 hF2
  have hsz2 := hF02.size
  clear hF1 hF2 hB1 hlt1 hlt2
  have hS2' : SRow w2 N1 (.slice (some ⟨N1, 0, none⟩) n n) (filled (xs.map Prod.fst) 0) := by unfold filled; rw [hn2]; simpa using hS2
  clear hS2
  go_loopw [8] (fun v8 w' => ∃ i : Nat, i ≤ n ∧ v8 = .int .i64 i ∧ SRow w' N1 (.slice (some ⟨N1, 0, none⟩) n n) (filled (xs.map Prod.fst) i) ∧ PB w' N0 (List.replicate n (.empty, .empty)) ∧ Fr 0 [] [] w w') (fun v8 _ => n - (intOf v8).toNat)
  case atStart => exact ⟨0, by omega, rfl, hS2', hB2, hF02⟩
  clear hS2' hB2 hF02
  obtain ⟨i, hi, rfl, hS, hB, hF⟩ := hrel
  by_cases hlt : i < n
  · have d1 : decide ((i : Int) < n) = true := by simpa using hlt
    have d2 : (i : Int) < n := by omega
    have hxi : i < xs.length := by rw [HN.out]; exact hlt
    obtain ⟨e1, -⟩ := hP.fr0 hF i hxi
    obtain ⟨t, ht⟩ : ∃ t, xs[i].1 = t := ⟨_, rfl⟩
    rw [ht] at e1
    have hset := filled_set (xs.map Prod.fst) i (by rw [hn2]; exact hlt)
    rw [List.getElem_map, ht] at hset
    have HSET := Lib.hid hset
    clear hset ht
    obtain ⟨e2, e3⟩ := hS.get i (by simp [filled, hn2]; omega)
    have slt := hS.lt
    go_wp2_with (fail)
    go_roundw
    case rel =>
      have hfs : Fr 0 [] [N1] wr (wr.setCell ⟨N1, i, none⟩ (.string t)) := (Fr.refl _ _ _ _).setCell (Nat.zero_le _) (.inl (by simp)) _
      have h9 := hS.set i t
      rw [HSET.out] at h9
      exact ⟨i + 1, by omega, by simp, h9, hB.fr hfs (.inr ⟨by simp; omega, by simp⟩), hF.setCell (a := ⟨N1, i, none⟩) (Nat.zero_le _) (.inr (.inl (by show w.heap.size ≤ N1; omega))) _⟩
    case measure => simp [intOf]; omega
  · have d1 : decide ((i : Int) < n) = false := by simpa using hlt
    have d2 : ¬ (i : Int) < n := by omega
    have ei : filled (xs.map Prod.fst) i = xs.map Prod.fst := by unfold filled; rw [hn2, List.take_of_length_le (by omega), show n - i = 0 by omega]; simp
    rw [ei] at hS
    clear ei
    go_wp2_with (first | (refine wpList_plain rfl (fun K hK => ?_); refine wp_makes n _ _ rfl rfl rfl (by omega) ?_; intro w3 hS3 hF3 hlt3; refine hK _ _ ?_; clear hK K))
    obtain ⟨N2, hN2⟩ : ∃ N, wr.heap.size = N := ⟨_, rfl⟩
    rw [hN2] at hS3
    have hN12 : N1 < N2 := by have := hS.lt; omega
    have hF03 := hF.trans hF3
    have hB3 := hB.fr0 hF3
    have hL3 := hS.fr0 hF3
    clear hF hF3 hB hS hlt3
    have hS3' : SRow w3 N2 (.slice (some ⟨N2, 0, none⟩) n n) (filled (xs.map Prod.snd) 0) := by unfold filled; rw [hn3]; simpa using hS3
    clear hS3
    go_loopw [10] (fun v10 w' => ∃ i : Nat, i ≤ n ∧ v10 = .int .i64 i ∧ SRow w' N2 (.slice (some ⟨N2, 0, none⟩) n n) (filled (xs.map Prod.snd) i) ∧ SRow w' N1 (.slice (some ⟨N1, 0, none⟩) n n) (xs.map Prod.fst) ∧ PB w' N0 (List.replicate n (.empty, .empty)) ∧ Fr 0 [] [] w w') (fun v10 _ => n - (intOf v10).toNat)
    case atStart => exact ⟨0, by omega, rfl, hS3', hL3, hB3, hF03⟩
    clear hS3' hL3 hB3 hF03 hlt d1 d2 hi
    obtain ⟨i, hi, rfl, hS, hL, hB, hF⟩ := hrel
    by_cases hlt : i < n
    · have d1 : decide ((i : Int) < n) = true := by simpa using hlt
      have d2 : (i : Int) < n := by omega
      have hxi : i < xs.length := by rw [HN.out]; exact hlt
      obtain ⟨-, e1⟩ := hP.fr0 hF i hxi
      obtain ⟨t, ht⟩ : ∃ t, xs[i].2 = t := ⟨_, rfl⟩
      rw [ht] at e1
      have hset := filled_set (xs.map Prod.snd) i (by rw [hn3]; exact hlt)
      rw [List.getElem_map, ht] at hset
      have HSET := Lib.hid hset
      clear hset ht
      obtain ⟨e2, e3⟩ := hS.get i (by simp [filled, hn3]; omega)
      have slt := hS.lt
      go_wp2_with (fail)
      go_roundw
      case rel =>
        have hfs : Fr 0 [] [N2] wr (wr.setCell ⟨N2, i, none⟩ (.string t)) := (Fr.refl _ _ _ _).setCell (Nat.zero_le _) (.inl (by simp)) _
        have h9 := hS.set i t
        rw [HSET.out] at h9
        exact ⟨i + 1, by omega, by simp, h9, hL.fr hfs (.inr ⟨by simp; omega, by simp⟩), hB.fr hfs (.inr ⟨by simp; omega, by simp⟩), hF.setCell (a := ⟨N2, i, none⟩) (Nat.zero_le _) (.inr (.inl (by show w.heap.size ≤ N2; omega))) _⟩
      case measure => simp [intOf]; omega
    · have d1 : decide ((i : Int) < n) = false := by simpa using hlt
      have d2 : ¬ (i : Int) < n := by omega
      have ei : filled (xs.map Prod.snd) i = xs.map Prod.snd := by unfold filled; rw [hn3, List.take_of_length_le (by omega), show n - i = 0 by omega]; simp
      rw [ei] at hS
      have hft := formatTexts_n hn2 max hL (fun x h9 => by obtain ⟨y, hy, rfl⟩ := List.mem_map.1 h9; exact ⟨(hx y hy).1, (hx y hy).2.1⟩) hl hm (by omega)
      clear ei
      obtain ⟨M4, hM4⟩ : ∃ M, wr.heap.size = M := ⟨_, rfl⟩
      have hl1 := hL.lt
      have hl2 := hS.lt
      have hl0 := hB.lt
      go_wp2_with (fail)
      refine hft.mono ?_
      clear hft
      rintro e w5 ⟨g1, c1, ys1, W1, rfl, hL5, hC1, hg1, hW1, hW1b, hW1c, hF5⟩
      have hR5 := hS.fr hF5 (.inr ⟨by simp; omega, by simp⟩)
      have hB5 := hB.fr hF5 (.inr ⟨by simp; omega, by simp⟩)
      have hF05 : Fr 0 [] [] w w5 := hF.step hF5 (by simp) (fun y hy => .inr (.inl (by simp at hy; omega)))
      have hsz5 := hF5.size
      have hW0 : W1 ≠ 0 := hW1c (by omega) ⟨0, by rw [hn2]; exact hn0, by rw [List.getElem_map]; exact hx0 _ (List.getElem_mem _)⟩
      clear hF hF5 hL hS hB hW1c hi d1 hlt d2
      have d1 : ((W1 : Int) == 0) = false := (int_ne (by omega)).1
      have hft := formatTexts_n hn3 (max - W1) hR5 (fun x h9 => by obtain ⟨y, hy, rfl⟩ := List.mem_map.1 h9; exact ⟨(hx y hy).2.2.1, (hx y hy).2.2.2⟩) hl (by omega) (by omega)
      obtain ⟨M5, hM5⟩ : ∃ M, w5.heap.size = M := ⟨_, rfl⟩
      have hl3 := hL5.lt
      go_wp2_with (fail)
      refine hft.mono ?_
      clear hft
      rintro e w6 ⟨g2, c2, ys2, W2, rfl, hR6, hC2, hg2, hW2, hW2b, -, hF6⟩
      have hL6 := hL5.fr hF6 (.inr ⟨by simp; omega, by simp⟩)
      have hB6 := hB5.fr hF6 (.inr ⟨by simp; omega, by simp⟩)
      have hF06 : Fr 0 [] [] w w6 := hF05.step hF6 (by simp) (fun y hy => .inr (.inl (by simp at hy; omega)))
      clear hF05 hF6 hL5 hR5 hB5
      have hcap1 : n ≤ c1 := by obtain ⟨c9, e9, h9⟩ := hL6.form; simp only [Value.slice.injEq] at e9; omega
      have hshw : Shw (List.replicate n ((.empty, .empty) : Pk)) n := ⟨by simp, fun x h9 => by
        obtain ⟨-, rfl⟩ := List.mem_replicate.1 h9
        have he : Prn .empty := fun i h => absurd h (by simp)
        exact ⟨he, by show (0 : Nat) ≤ 200; omega, he, by show (0 : Nat) ≤ 200; omega⟩⟩
      have hg01 : N0 ≠ g1 := by omega
      have hg02 : N0 ≠ g2 := by omega
      go_wp2_with (fail)
      go_loopw [13] (fun v13 w' => ∃ (i : Nat) (fs : List Pk), i ≤ n ∧ v13 = .int .i64 i ∧ Shw fs n ∧ PB w' N0 fs ∧ SRow w' g1 (.slice (some ⟨g1, 0, none⟩) n c1) ys1 ∧ SRow w' g2 (.slice (some ⟨g2, 0, none⟩) n c2) ys2 ∧ Fr 0 [] [] w w') (fun v13 _ => n - (intOf v13).toNat)
      case atStart => exact ⟨0, _, by omega, rfl, hshw, hB6, hL6, hR6, hF06⟩
      clear hB6 hL6 hR6 hF06 hshw
      obtain ⟨i, fs, hi, rfl, hsh, hB, hL, hR, hF⟩ := hrel
      by_cases hlt : i < n
      · have d1 : decide ((i : Int) < n) = true := by simpa using hlt
        have d2 : (i : Int) < n := by omega
        obtain ⟨e1, -⟩ := hL.get i (by rw [hC1.1]; exact hlt)
        obtain ⟨e2, -⟩ := hR.get i (by rw [hC2.1]; exact hlt)
        have q1 := hC1.2 _ (List.getElem_mem (show i < ys1.length by rw [hC1.1]; exact hlt))
        have q2 := hC2.2 _ (List.getElem_mem (show i < ys2.length by rw [hC2.1]; exact hlt))
        obtain ⟨t1, ht1⟩ : ∃ t, ys1[i]'(by rw [hC1.1]; exact hlt) = t := ⟨_, rfl⟩
        obtain ⟨t2, ht2⟩ : ∃ t, ys2[i]'(by rw [hC2.1]; exact hlt) = t := ⟨_, rfl⟩
        rw [ht1] at e1 q1
        rw [ht2] at e2 q2
        clear ht1 ht2
        have Q := Lib.hid (And.intro q1 q2)
        clear q1 q2
        obtain ⟨e3, e4, e5, e6⟩ := hB.get i (by rw [hsh.1]; exact hlt)
        have blt := hB.lt
        go_wp2_with (fail)
        have hS : (fun w' : World => w'.cell? ⟨g1, i, none⟩ = some (.string t1) ∧ w'.cell? ⟨g2, i, none⟩ = some (.string t2)) wr.drew := ⟨e1, e2⟩
        refine wp_region_plan [5, 9] [12] (fun w' : World => w'.cell? ⟨g1, i, none⟩ = some (.string t1) ∧ w'.cell? ⟨g2, i, none⟩ = some (.string t2)) (.pure 0 (.pure 1 (.pure 2 (.pure 3 (.pure 4 (.take 5 (.pure 6 (.pure 7 (.pure 8 (.take 9 (.pure 10 (.pure 11 (.go 12 .done))))))))))))) hmix (by kernel_rfl) ?_
        refine plan_move rfl rfl rfl ?_; (try simp only [Act.put, List.setIfInBounds_toArray, List.set_cons_zero, List.set_cons_succ, Int.toNat_natCast, Int.toNat_sub, Int.toNat_zero])
        refine plan_move rfl rfl rfl ?_; (try simp only [Act.put, List.setIfInBounds_toArray, List.set_cons_zero, List.set_cons_succ, Int.toNat_natCast, Int.toNat_sub, Int.toNat_zero])
        refine plan_move rfl rfl rfl ?_; (try simp only [Act.put, List.setIfInBounds_toArray, List.set_cons_zero, List.set_cons_succ, Int.toNat_natCast, Int.toNat_sub, Int.toNat_zero])
        refine plan_move rfl rfl rfl ?_; (try simp only [Act.put, List.setIfInBounds_toArray, List.set_cons_zero, List.set_cons_succ, Int.toNat_natCast, Int.toNat_sub, Int.toNat_zero])
        first | (refine plan_pure (v := ?_) rfl rfl ?_ ?_; rotate_left; (intro w'; go_simp <;> with_reducible rfl); (try simp only [Act.put, List.setIfInBounds_toArray, List.set_cons_zero, List.set_cons_succ, Int.toNat_natCast, Int.toNat_sub, Int.toNat_zero]))
        first | (refine plan_take (v := ?_) rfl hS rfl ?_ ?_; rotate_left; (intro w' hSw; (try dsimp only at hSw); go_simp <;> with_reducible rfl); (try simp only [Act.put, List.setIfInBounds_toArray, List.set_cons_zero, List.set_cons_succ, Int.toNat_natCast, Int.toNat_sub, Int.toNat_zero]))
        refine plan_move rfl rfl rfl ?_; (try simp only [Act.put, List.setIfInBounds_toArray, List.set_cons_zero, List.set_cons_succ, Int.toNat_natCast, Int.toNat_sub, Int.toNat_zero])
        refine plan_move rfl rfl rfl ?_; (try simp only [Act.put, List.setIfInBounds_toArray, List.set_cons_zero, List.set_cons_succ, Int.toNat_natCast, Int.toNat_sub, Int.toNat_zero])
        first | (refine plan_pure (v := ?_) rfl rfl ?_ ?_; rotate_left; (intro w'; go_simp <;> with_reducible rfl); (try simp only [Act.put, List.setIfInBounds_toArray, List.set_cons_zero, List.set_cons_succ, Int.toNat_natCast, Int.toNat_sub, Int.toNat_zero]))
        first | (refine plan_take (v := ?_) rfl hS rfl ?_ ?_; rotate_left; (intro w' hSw; (try dsimp only at hSw); go_simp <;> with_reducible rfl); (try simp only [Act.put, List.setIfInBounds_toArray, List.set_cons_zero, List.set_cons_succ, Int.toNat_natCast, Int.toNat_sub, Int.toNat_zero]))
        first | (refine plan_pure (v := ?_) rfl rfl ?_ ?_; rotate_left; (intro w'; go_simp <;> with_reducible rfl); (try simp only [Act.put, List.setIfInBounds_toArray, List.set_cons_zero, List.set_cons_succ, Int.toNat_natCast, Int.toNat_sub, Int.toNat_zero]))
        first | (refine plan_pure (v := ?_) rfl rfl ?_ ?_; rotate_left; (intro w'; go_simp <;> with_reducible rfl); (try simp only [Act.put, List.setIfInBounds_toArray, List.set_cons_zero, List.set_cons_succ, Int.toNat_natCast, Int.toNat_sub, Int.toNat_zero]))
        refine plan_go rfl (by kernel_rfl) rfl (fun K hK => ?_)
        go_simp; refine hK _ _ ?_; clear hK K; (try simp only [Act.put, List.setIfInBounds_toArray, List.set_cons_zero, List.set_cons_succ, Int.toNat_natCast, Int.toNat_sub, Int.toNat_zero])
        refine plan_done ?_
        go_wp2
        go_roundw
        case rel =>
          have hfs : Fr 0 [] [N0] wr ((wr.setCell ⟨N0, i * 2, none⟩ (.string t1)).setCell ⟨N0, i * 2 + 1, none⟩ (.string t2)) := ((Fr.refl _ _ _ _).setCell (a := ⟨N0, i * 2, none⟩) (Nat.zero_le _) (.inl (by simp)) _).setCell (a := ⟨N0, i * 2 + 1, none⟩) (Nat.zero_le _) (.inl (by simp)) _
          have hfw : Fr 0 [] [] w ((wr.setCell ⟨N0, i * 2, none⟩ (.string t1)).setCell ⟨N0, i * 2 + 1, none⟩ (.string t2)) := (hF.setCell (a := ⟨N0, i * 2, none⟩) (Nat.zero_le _) (.inr (.inl (by show w.heap.size ≤ N0; omega))) _).setCell (a := ⟨N0, i * 2 + 1, none⟩) (Nat.zero_le _) (.inr (.inl (by show w.heap.size ≤ N0; omega))) _
          refine ⟨i + 1, fs.set i (t1, t2), by omega, by simp, ⟨by simpa using hsh.1, fun x h9 => ?_⟩, hB.set i (by rw [hsh.1]; exact hlt) (t1, t2), hL.fr hfs.drew (.inr ⟨by simp; omega, by simp⟩), hR.fr hfs.drew (.inr ⟨by simp; omega, by simp⟩), hfw.drew⟩
          rcases List.mem_or_eq_of_mem_set h9 with h9 | rfl
          · exact hsh.2 x h9
          · exact ⟨Q.out.1.1, Q.out.1.2, Q.out.2.1, Q.out.2.2⟩
        case measure => simp [intOf]; omega
      · have d1 : decide ((i : Int) < n) = false := by simpa using hlt
        have d2 : ¬ (i : Int) < n := by omega
        go_wp2_with (fail)
        go_ret2
        exact ⟨N0, W1 + W2, fs, by simp, hB, hsh, by omega, by omega, hF⟩
end Go.Proofs.YtiepopbmbgfhkaaGreat

namespace Go.Proofs.YtiepopbmbgfhkaaGreat
open Go.RowKit
set_option maxHeartbeats 4000000
set_option maxRecDepth 20000
set_option linter.unusedVariables false
set_option linter.unusedSimpArgs false

def flt (n : Nat) : Nat := floatOfInt .f64 (n : Int)
def one : Nat := 4607182418800017408
/-- What clamp gives. -/
def clampF (a b x : Nat) : Nat := if FloatKind.f64.format.order a x == some .lt then a else if FloatKind.f64.format.order x b == some .lt then b else x

theorem clamp_c (a b x : Nat) (w : World) : Calls Tryz.prog 116 #[.float .f64 a, .float .f64 b, .float .f64 x] w fun e w' => e = .returned (.float .f64 (clampF a b x)) ∧ w = w' := by
  unfold clampF
  by_cases h1 : (FloatKind.f64.format.order a x == some .lt) = true
  · rw [if_pos h1]
    go_enter Tryz.func116, Tryz.ntmps116
    go_wp2
    go_ret
    exact ⟨rfl, rfl⟩
  · rw [if_neg h1]
    have h1' : (FloatKind.f64.format.order a x == some .lt) = false := by simpa using h1
    by_cases h2 : (FloatKind.f64.format.order x b == some .lt) = true
    · rw [if_pos h2]
      go_enter Tryz.func116, Tryz.ntmps116
      go_wp2
      go_ret
      exact ⟨rfl, rfl⟩
    · rw [if_neg h2]
      have h2' : (FloatKind.f64.format.order x b == some .lt) = false := by simpa using h2
      go_enter Tryz.func116, Tryz.ntmps116
      go_wp2
      go_ret
      exact ⟨rfl, rfl⟩

/-- The numbers of the bar's height and of its top exist. -/
def barH (a b : Nat) : Bool :=
  match floatBits .quo .f64 (flt a) (flt b) with
  | some d => match floatBits .mul .f64 (flt a) d with
    | some m => (floatToIntVal .f64 (clampF (flt a) one m) .i64).isSome
    | none => false
  | none => false
def barT (a b v : Nat) : Bool :=
  match floatBits .quo .f64 (flt v) (flt b) with
  | some d => match floatBits .mul .f64 (flt a) d with
    | some m => (floatToIntVal .f64 m .i64).isSome
    | none => false
  | none => false
theorem barH_all : ∀ a, a < 13 → ∀ b, b < 13 → b = 0 ∨ barH a b = true := by decide +kernel
theorem barT_all : ∀ a, a < 13 → ∀ b, b < 13 → ∀ v, v < 13 → b = 0 ∨ barT a b v = true := by decide +kernel

structure BarH (a b d m : Nat) (z : Int) : Prop where
  hq : floatBits .quo .f64 (floatOfInt .f64 a) (floatOfInt .f64 b) = some d
  hm : floatBits .mul .f64 (floatOfInt .f64 a) d = some m
  hz : floatToIntVal .f64 (clampF (floatOfInt .f64 a) one m) .i64 = some z
structure BarT (a b v d m : Nat) (z : Int) : Prop where
  hq : floatBits .quo .f64 (floatOfInt .f64 v) (floatOfInt .f64 b) = some d
  hm : floatBits .mul .f64 (floatOfInt .f64 a) d = some m
  hz : floatToIntVal .f64 m .i64 = some z
theorem bar_h {a b : Nat} (ha : a < 13) (hb : b < 13) (h0 : b ≠ 0) : ∃ d m z, BarH a b d m z := by
  have h := (barH_all a ha b hb).resolve_left h0
  unfold barH at h
  split at h
  · rename_i d hd
    split at h
    · rename_i m hm
      obtain ⟨z, hz⟩ := Option.isSome_iff_exists.1 h
      exact ⟨d, m, z, hd, hm, hz⟩
    · cases h
  · cases h
theorem bar_t {a b v : Nat} (ha : a < 13) (hb : b < 13) (hv : v < 13) (h0 : b ≠ 0) : ∃ d m z, BarT a b v d m z := by
  have h := (barT_all a ha b hb v hv).resolve_left h0
  unfold barT at h
  split at h
  · rename_i d hd
    split at h
    · rename_i m hm
      obtain ⟨z, hz⟩ := Option.isSome_iff_exists.1 h
      exact ⟨d, m, z, hd, hm, hz⟩
    · cases h
  · cases h

/-- Some Bool. -/
def BoolPost (w : World) (e : Ending) (w' : World) : Prop := (∃ B : Bool, e = .returned (.bool B)) ∧ w = w'
theorem thumb_c {w : World} {p1 p2 : Nat} {z1 z2 : Int} (row : Int) (h1 : w.cell? ⟨p1, 0, none⟩ = some (.int .i64 z1)) (h2 : w.cell? ⟨p2, 0, none⟩ = some (.int .i64 z2)) :
    Calls Tryz.prog 117 #[.int .i64 row, .pointer (some ⟨p1, 0, none⟩), .pointer (some ⟨p2, 0, none⟩)] w (BoolPost w) := by
  by_cases hz : z1 ≤ row
  · have d1 : decide (z1 ≤ row) = true := by simpa using hz
    go_enter Tryz.func117, Tryz.ntmps117
    go_wp2
    go_ret
    exact ⟨⟨_, rfl⟩, rfl⟩
  · have d1 : decide (z1 ≤ row) = false := by simpa using hz
    go_enter Tryz.func117, Tryz.ntmps117
    go_wp2
    go_ret
    exact ⟨⟨_, rfl⟩, rfl⟩
end Go.Proofs.YtiepopbmbgfhkaaGreat

namespace Go.Proofs.YtiepopbmbgfhkaaGreat
open Go.RowKit
set_option maxHeartbeats 40000000
set_option maxRecDepth 20000
set_option linter.unusedVariables false
set_option linter.unusedSimpArgs false

theorem under72 : Tryz.prog.underlying 72 = some (.slice (Tryz.prog.elem 72)) := by kernel_rfl
theorem elem72 : Tryz.prog.elem 72 = 73 := by kernel_rfl
theorem size73 (w : World) : (sizeOf 73).run Tryz.prog w = .ok 2 w := by kernel_rfl
/-- 's[i:j]' of suggestions. -/
theorem ex_cutP {o : Oper} {a : Act} {w : World} {g n cap i j : Nat} {x y z : Operand} (ho : o.op = .slice 72 x (some y) (some z) none) (hx : a.eval x = .slice (some ⟨g, 0, none⟩) n cap) (hy : a.eval y = .int .i64 i) (hz : a.eval z = .int .i64 j) (hij : i ≤ j) (hj : j ≤ cap) (hi : i < cap) :
    (execOp a.eval o).run Tryz.prog w = .ok (.value (.slice (some ⟨g, i * 2, none⟩) (j - i) (cap - i))) w := by
  have hr : (Instr.sliceAt 72 (.slice (some ⟨g, 0, none⟩) n cap) (some (.int .i64 i)) (some (.int .i64 j)) none).run Tryz.prog w = .ok (.slice (some ⟨g, i * 2, none⟩) (j - i) (cap - i)) w := by
    rw [run_sliceAt_slice (P := Tryz.prog) (t := 72) (h := under72), run_slice_lh (P := Tryz.prog) (t := 72) (ht := under72) (h0 := Int.natCast_nonneg i) (h1 := by omega) (h2 := by omega)]
    rw [elem72, size73]
    simp only [Result.andThen_ok, Int.toNat_natCast]
    unfold sliced
    rw [if_neg (by omega)]
    simp [Addr.add]
    omega
  unfold execOp
  simp only [ho, hx, hy, hz, Sem.run_bind, Option.map_some, Option.map_none, hr, Result.andThen_ok, Sem.run_pure]

/-- The other colours of a renderer. -/
structure RnD (w : World) (r : Nat) : Prop where
  c14 : w.cell? ⟨r, 14, none⟩ = some (.int .i64 16)
  c15 : w.cell? ⟨r, 15, none⟩ = some (.int .i64 7)
  c16 : w.cell? ⟨r, 16, none⟩ = some (.int .i64 1)
  c17 : w.cell? ⟨r, 17, none⟩ = some (.int .i64 15)
  c18 : w.cell? ⟨r, 18, none⟩ = some (.int .i64 1)
  c19 : w.cell? ⟨r, 19, none⟩ = some (.int .i64 15)
  c20 : w.cell? ⟨r, 20, none⟩ = some (.int .i64 16)
  c21 : w.cell? ⟨r, 21, none⟩ = some (.int .i64 7)
  c22 : w.cell? ⟨r, 22, none⟩ = some (.int .i64 9)
  c23 : w.cell? ⟨r, 23, none⟩ = some (.int .i64 7)
theorem Rn.cold {base : Nat} {w : World} {r o n : Nat} {pre : ByteArray} {cols : Nat} (h : Rn base w r o pre cols n) : RnD w r := by
  obtain ⟨pc, hpc, -, hB, hbr⟩ := h.ren
  exact ⟨hB.cell 14, hB.cell 15, hB.cell 16, hB.cell 17, hB.cell 18, hB.cell 19, hB.cell 20, hB.cell 21, hB.cell 22, hB.cell 23⟩

/-- What is asked of suggestions that are rendered. -/
structure Wnd (pre : ByteArray) (cols : Nat) (q : Cp) (vs : Int) (tmp : List Pk) : Prop where
  hx : ∀ x ∈ tmp, Prn x.1 ∧ x.1.size ≤ 100 ∧ Prn x.2 ∧ x.2.size ≤ 100
  hx0 : ∀ x ∈ tmp, x.1.size ≠ 0
  hl : tmp.length ≤ 12
  hm : 1 ≤ q.most
  hcol : pre.size + 13 ≤ cols
  v0 : 0 ≤ vs
  v1 : vs + (min q.most tmp.length : Nat) ≤ tmp.length

theorem wrapX {cols x WW XW BB : Nat} (h1 : x + WW = XW) (h2 : cols ≤ XW) (h3 : XW - cols = BB) (h4 : XW ≤ 240) (h5 : BB < 120) :
    -120 < (BB : Int) ∧ (BB : Int) < 120 ∧ IntKind.i64.wrap ((x : Int) + WW) = XW ∧ IntKind.i64.wrap ((XW : Int) - cols) = BB := by
  refine ⟨by omega, by omega, ?_, ?_⟩
  · rw [show (x : Int) + WW = (XW : Int) by omega]; exact wrap_in (by omega) (by omega)
  · rw [show (XW : Int) - cols = (BB : Int) by omega]; exact wrap_in (by omega) (by omega)

/-- What stands while suggestions are rendered. -/
structure RD (base : Nat) (w : World) (r o b L c : Nat) (pre : ByteArray) (cols : Nat) (t : ByteArray) (k : Nat) (q : Cp) (sel vs : Int) (tmp : List Pk) (g : Nat) (fs : List Pk) (P1 P2 : Nat) (z1 z2 : Int) (m : Nat) (wx : World) : Prop where
  scr : Scr base wx r o b L c pre cols m t k q sel vs tmp
  pb : PB wx g fs
  b1 : Blk wx P1 #[.int .i64 z1] 3
  b2 : Blk wx P2 #[.int .i64 z2] 3
  fr : Fr base [5, 143] [b] w wx
section
variable {base : Nat} {w wx w1 : World} {r o b L c : Nat} {pre : ByteArray} {cols : Nat} {t : ByteArray} {k : Nat} {q : Cp} {sel vs : Int} {tmp : List Pk} {g : Nat} {fs : List Pk} {P1 P2 : Nat} {z1 z2 : Int} {m m' : Nat}
theorem RD.outR (h : RD base w r o b L c pre cols t k q sel vs tmp g fs P1 P2 z1 z2 m wx) (hR : Rn base w1 r o pre cols m') (hF : Fr base [5, 143] [] wx w1) : RD base w r o b L c pre cols t k q sel vs tmp g fs P1 P2 z1 z2 m' w1 :=
  ⟨h.scr.out hR hF, h.pb.fr hF (.inr ⟨by simp, by decide⟩), hF.blk h.b1 (.inr ⟨by simp, by decide⟩), hF.blk h.b2 (.inr ⟨by simp, by decide⟩), h.fr.into hF (by simp) (by simp)⟩
theorem RD.out (h : RD base w r o b L c pre cols t k q sel vs tmp g fs P1 P2 z1 z2 m wx) (hW : Wr base w1 o m') (hF : Fr base [5, 143] [] wx w1) : RD base w r o b L c pre cols t k q sel vs tmp g fs P1 P2 z1 z2 m' w1 :=
  h.outR (h.scr.rn.after hF hW) hF
theorem RD.fr0 {base' : Nat} (h : RD base w r o b L c pre cols t k q sel vs tmp g fs P1 P2 z1 z2 m wx) (hF : Fr base' [] [] wx w1) : RD base w r o b L c pre cols t k q sel vs tmp g fs P1 P2 z1 z2 m w1 :=
  ⟨h.scr.fr0 hF, h.pb.fr0 hF, hF.blk0 h.b1, hF.blk0 h.b2, h.fr.ext hF⟩
theorem RD.drew (h : RD base w r o b L c pre cols t k q sel vs tmp g fs P1 P2 z1 z2 m wx) : RD base w r o b L c pre cols t k q sel vs tmp g fs P1 P2 z1 z2 m wx.drew := h.fr0 ((Fr.refl 0 [] [] wx).drew)
theorem RD.le (h : RD base w r o b L c pre cols t k q sel vs tmp g fs P1 P2 z1 z2 m wx) (hm : m ≤ m') : RD base w r o b L c pre cols t k q sel vs tmp g fs P1 P2 z1 z2 m' wx :=
  ⟨h.scr.le hm, h.pb, h.b1, h.b2, h.fr⟩
theorem RD.c0 (h : RD base w r o b L c pre cols t k q sel vs tmp g fs P1 P2 z1 z2 m wx) : wx.cell? ⟨r, 0, none⟩ = some (.iface 144 (.pointer (some ⟨o, 0, none⟩))) := by
  obtain ⟨pc, hpc, C, hB, hbr⟩ := h.scr.rn.ren
  exact C.c0
theorem RD.c6 (h : RD base w r o b L c pre cols t k q sel vs tmp g fs P1 P2 z1 z2 m wx) : wx.cell? ⟨r, 6, none⟩ = some (.int .u16 cols) := by
  obtain ⟨pc, hpc, C, hB, hbr⟩ := h.scr.rn.ren
  exact C.c6
theorem RD.rlt (h : RD base w r o b L c pre cols t k q sel vs tmp g fs P1 P2 z1 z2 m wx) : r < wx.heap.size := by
  obtain ⟨pc, hpc, C, hB, hbr⟩ := h.scr.rn.ren
  exact C.lt
end

theorem renderComp_c {base : Nat} {w : World} {r o b L c : Nat} {pre : ByteArray} {cols n : Nat} {t : ByteArray} {k : Nat} {q : Cp} {sel vs : Int} {tmp : List Pk} (h : Scr base w r o b L c pre cols n t k q sel vs tmp) (hok : ScrOk pre cols t k q) (hw : Wnd pre cols q vs tmp) (hne : tmp ≠ []) (hsel : -10 ≤ sel ∧ sel ≤ 1000) (hn : n + 20000 ≤ 1000000000) :
    Calls Tryz.prog 82 #[.pointer (some ⟨r, 0, none⟩), .pointer (some ⟨b, 0, none⟩), .pointer (some ⟨c, 0, none⟩)] w fun e w' => e = .returned (.tuple #[]) ∧ Scr base w' r o b L c pre cols (n + 20000) t k q sel vs tmp ∧ Fr base [5, 143] [b] w w' := by
  obtain ⟨hpre, hpres, hc1, hc2, ht, hts, hk, hq, hmost⟩ := hok
  obtain ⟨hx, hx0, hl, hm, hcol, v0, v1⟩ := hw
  have HX := Lib.hid hx
  have HX0 := Lib.hid hx0
  clear hx hx0
  obtain ⟨v, rfl⟩ : ∃ v : Nat, vs = v := ⟨vs.toNat, by omega⟩
  have hl0 : tmp.length ≠ 0 := by cases tmp; exact absurd rfl hne; simp
  have HNE := Lib.hid hne
  clear hne
  have m1 := md_SetColor
  have m2 := na_SetColor
  have m3 := md_WriteStr
  have m4 := na_WriteStr
  have m5 := md_CursorDown
  have m6 := na_CursorDown
  have m7 := md_CursorUp
  have m8 := na_CursorUp
  have m9 := md_CursorForward
  have m10 := na_CursorForward
  obtain ⟨e1, -⟩ := int_ne (a := (tmp.length : Int)) (b := 0) (by omega)
  have hw1 : IntKind.i64.wrap (q.most : Int) = q.most := wrap_in (by omega) (by omega)
  have hw2 : IntKind.i64.wrap (cols : Int) = cols := wrap_in (by omega) (by omega)
  obtain ⟨A, hA⟩ : ∃ A, cols - pre.size = A := ⟨_, rfl⟩
  obtain ⟨MX, hMX⟩ : ∃ MX, A - 1 = MX := ⟨_, rfl⟩
  have hMX2 : 12 ≤ MX ∧ MX + 1 = A ∧ A + pre.size = cols := by omega
  have hsA : IntKind.i64.wrap ((cols : Int) - pre.size) = A := by rw [show (cols : Int) - pre.size = (A : Int) by omega]; exact wrap_in (by omega) (by omega)
  have hsM : IntKind.i64.wrap ((A : Int) - 1) = MX := by rw [show (A : Int) - 1 = (MX : Int) by omega]; exact wrap_in (by omega) (by omega)
  clear hMX hA
  obtain ⟨N0, hN0⟩ : ∃ N, w.heap.size = N := ⟨_, rfl⟩
  have hbN : b < N0 := by obtain ⟨⟨cs, hb⟩, -⟩ := h.buf.blk; have := hb.lt; omega
  have HN0 := Lib.hid hN0
  clear hN0
  go_enter Tryz.func82, Tryz.ntmps82
  go_wp2_with (fail)
  refine (getSuggestions_c h.cm).mono ?_
  rintro e w1 ⟨⟨p1, k1, rfl, hP1⟩, rfl⟩
  go_wp2_with (fail)
  refine (getSuggestions_c h.cm).mono ?_
  rintro e w1 ⟨⟨p2, k2, rfl, hP2⟩, rfl⟩
  clear hP2
  go_wp2_with (fail)
  refine (prefix_c h.rn).mono ?_
  rintro e w1 ⟨rfl, hF1⟩
  have h1 := h.fr0 hF1
  have hP1' := hP1.fr0 hF1
  go_wp2_with (fail)
  have hS : (fun w' : World => w'.cell? ⟨r, 6, none⟩ = some (.int .u16 cols)) w1.drew := by
    obtain ⟨pc, hpc, ⟨c0, c1, c2, c3, c5, c6, c7, f7, hlt⟩, hB, hbr⟩ := h1.rn.ren
    exact c6
  refine wp_region_plan [4, 5] [7, 10] (fun w' : World => w'.cell? ⟨r, 6, none⟩ = some (.int .u16 cols)) (.pure 0 (.pure 1 (.pure 2 (.pure 3 (.take 4 (.take 5 (.pure 6 (.go 7 (.pure 8 (.pure 9 (.go 10 (.pure 11 (.pure 12 (.pure 13 (.pure 14 (.pure 15 .done)))))))))))))))) hmix (by kernel_rfl) ?_
  first | (refine plan_pure (v := ?_) rfl rfl ?_ ?_; rotate_left; (intro w'; go_simp <;> with_reducible rfl); (try simp only [Act.put, List.setIfInBounds_toArray, List.set_cons_zero, List.set_cons_succ, Int.toNat_natCast, Int.toNat_sub, Int.toNat_zero]))
  first | (refine plan_pure (v := ?_) rfl rfl ?_ ?_; rotate_left; (intro w'; go_simp <;> with_reducible rfl); (try simp only [Act.put, List.setIfInBounds_toArray, List.set_cons_zero, List.set_cons_succ, Int.toNat_natCast, Int.toNat_sub, Int.toNat_zero]))
  first | (refine plan_pure (v := ?_) rfl rfl ?_ ?_; rotate_left; (intro w'; go_simp <;> with_reducible rfl); (try simp only [Act.put, List.setIfInBounds_toArray, List.set_cons_zero, List.set_cons_succ, Int.toNat_natCast, Int.toNat_sub, Int.toNat_zero]))
  first | (refine plan_pure (v := ?_) rfl rfl ?_ ?_; rotate_left; (intro w'; go_simp <;> with_reducible rfl); (try simp only [Act.put, List.setIfInBounds_toArray, List.set_cons_zero, List.set_cons_succ, Int.toNat_natCast, Int.toNat_sub, Int.toNat_zero]))
  first | (refine plan_take (v := ?_) rfl hS rfl ?_ ?_; rotate_left; (intro w' hSw; (try dsimp only at hSw); go_simp <;> with_reducible rfl); (try simp only [Act.put, List.setIfInBounds_toArray, List.set_cons_zero, List.set_cons_succ, Int.toNat_natCast, Int.toNat_sub, Int.toNat_zero]))
  first | (refine plan_take (v := ?_) rfl hS rfl ?_ ?_; rotate_left; (intro w' hSw; (try dsimp only at hSw); go_simp <;> with_reducible rfl); (try simp only [Act.put, List.setIfInBounds_toArray, List.set_cons_zero, List.set_cons_succ, Int.toNat_natCast, Int.toNat_sub, Int.toNat_zero]))
  first | (refine plan_pure (v := ?_) rfl rfl ?_ ?_; rotate_left; (intro w'; go_simp <;> with_reducible rfl); (try simp only [Act.put, List.setIfInBounds_toArray, List.set_cons_zero, List.set_cons_succ, Int.toNat_natCast, Int.toNat_sub, Int.toNat_zero]))
  refine plan_goS rfl rfl (fun K hK => ?_)
  go_simp; refine (width_c pre hpre (by omega) _).mono ?_; rintro e w2 ⟨rfl, hF2⟩; refine hK _ _ (hF2.cell0 hS) ?_; clear hK K; (try simp only [Act.put, List.setIfInBounds_toArray, List.set_cons_zero, List.set_cons_succ, Int.toNat_natCast, Int.toNat_sub, Int.toNat_zero])
  first | (refine plan_pure (v := ?_) rfl rfl ?_ ?_; rotate_left; (intro w'; go_simp <;> with_reducible rfl); (try simp only [Act.put, List.setIfInBounds_toArray, List.set_cons_zero, List.set_cons_succ, Int.toNat_natCast, Int.toNat_sub, Int.toNat_zero]))
  first | (refine plan_pure (v := ?_) rfl rfl ?_ ?_; rotate_left; (intro w'; go_simp <;> with_reducible rfl); (try simp only [Act.put, List.setIfInBounds_toArray, List.set_cons_zero, List.set_cons_succ, Int.toNat_natCast, Int.toNat_sub, Int.toNat_zero]))
  refine plan_go rfl (by kernel_rfl) rfl (fun K hK => ?_)
  go_simp; refine (formatSuggestions_c (MX : Int) ((hP1'.fr0 ((Fr.refl 0 [] [] w1).drew)).fr0 hF2) HX.out HX0.out HNE.out (by omega) (by omega) (by omega)).mono ?_; rintro e w3 ⟨g, W, fs, rfl, hB3, hsh, hg, hW, hF3⟩; refine hK _ _ ?_; clear hK K; (try simp only [Act.put, List.setIfInBounds_toArray, List.set_cons_zero, List.set_cons_succ, Int.toNat_natCast, Int.toNat_sub, Int.toNat_zero])
  first | (refine plan_pure (v := ?_) rfl rfl ?_ ?_; rotate_left; (intro w'; go_simp <;> with_reducible rfl); (try simp only [Act.put, List.setIfInBounds_toArray, List.set_cons_zero, List.set_cons_succ, Int.toNat_natCast, Int.toNat_sub, Int.toNat_zero]))
  first | (refine plan_pure (v := ?_) rfl rfl ?_ ?_; rotate_left; (intro w'; go_simp <;> with_reducible rfl); (try simp only [Act.put, List.setIfInBounds_toArray, List.set_cons_zero, List.set_cons_succ, Int.toNat_natCast, Int.toNat_sub, Int.toNat_zero]))
  first | (refine plan_pure (v := ?_) rfl rfl ?_ ?_; rotate_left; (intro w'; go_simp <;> with_reducible rfl); (try simp only [Act.put, List.setIfInBounds_toArray, List.set_cons_zero, List.set_cons_succ, Int.toNat_natCast, Int.toNat_sub, Int.toNat_zero]))
  first | (refine plan_pure (v := ?_) rfl rfl ?_ ?_; rotate_left; (intro w'; go_simp <;> with_reducible rfl); (try simp only [Act.put, List.setIfInBounds_toArray, List.set_cons_zero, List.set_cons_succ, Int.toNat_natCast, Int.toNat_sub, Int.toNat_zero]))
  first | (refine plan_pure (v := ?_) rfl rfl ?_ ?_; rotate_left; (intro w'; go_simp <;> with_reducible rfl); (try simp only [Act.put, List.setIfInBounds_toArray, List.set_cons_zero, List.set_cons_succ, Int.toNat_natCast, Int.toNat_sub, Int.toNat_zero]))
  refine plan_done ?_
  have h3 := (h1.drew.fr0 hF2).fr0 hF3
  have hF03 : Fr base [5, 143] [b] w w3 := ((((Fr.refl base [5, 143] [b] w).ext hF1).drew.ext hF2)).ext hF3
  have hgN : N0 ≤ g := by have := HN0.out; have := hF1.size; have := hF2.size; simp at this; omega
  clear hF1 hF2 hF3 h h1 hP1 hP1' hS
  obtain ⟨n9, hn9⟩ : ∃ n, tmp.length = n := ⟨_, rfl⟩
  have HN9 := Lib.hid hn9
  rw [hn9] at hsh hl v1 e1 hl0
  obtain ⟨wh, hwh⟩ : ∃ wh, min q.most n9 = wh := ⟨_, rfl⟩
  rw [hwh] at v1
  have hwh2 : 1 ≤ wh ∧ wh ≤ q.most ∧ wh ≤ n9 := by omega
  have HWH := Lib.hid hwh
  clear hwh hn9
  obtain ⟨p3, k3, ⟨g0, g1, g2, g3, g4, g5, g6, gf0, gf1, gf4, glt⟩, hC3, hP3, -⟩ := h3.cm.ren
  simp only [HN9.out]
  obtain ⟨WW, hWW⟩ : ∃ WW, W + 1 = WW := ⟨_, rfl⟩
  have hww : (W : Int) + 1 = WW := by omega
  have hW2 : 1 ≤ WW ∧ WW + pre.size ≤ cols := by omega
  clear hWW hW
  go_upto_if 54 with (fail)
  clear hww
  go_cut [10] from 54 to 59 (fun v10 wx => wx = w3 ∧ v10 = .int .i64 wh)
  case first =>
    by_cases hmn : q.most < n9
    · have d1 : decide ((q.most : Int) < n9) = true := by simpa using hmn
      have e9 : q.most = wh := by have := HWH.out; omega
      have E9 := Lib.hid e9
      clear e9
      go_wp2_with (fail)
      go_meet
      exact ⟨rfl, by rw [E9.out]⟩
    · have d1 : decide ((q.most : Int) < n9) = false := by simpa using hmn
      have e9 : n9 = wh := by have := HWH.out; omega
      have E9 := Lib.hid e9
      clear e9
      go_wp2_with (fail)
      go_meet
      exact ⟨rfl, by rw [E9.out]⟩
  case rest =>
    obtain ⟨rfl, rfl⟩ := hcut
    obtain ⟨VW, hVW⟩ : ∃ VW, v + wh = VW := ⟨_, rfl⟩
    have hsV : IntKind.i64.wrap ((v : Int) + wh) = VW := by rw [show (v : Int) + wh = (VW : Int) by omega]; exact wrap_in (by omega) (by omega)
    have hVW2 : VW ≤ n9 ∧ v ≤ VW ∧ v < n9 ∧ VW - v = wh := by omega
    clear hVW
    go_wp2_with (fail)
    have hS : (fun w' : World => w'.cell? ⟨c, 4, none⟩ = some (.int .i64 v)) wc.drew := g4
    refine wp_region_plan [4, 8] [] (fun w' : World => w'.cell? ⟨c, 4, none⟩ = some (.int .i64 v)) (.pure 0 (.pure 1 (.pure 2 (.pure 3 (.take 4 (.pure 5 (.pure 6 (.pure 7 (.take 8 (.pure 9 (.pure 10 (.pure 11 (.pure 12 .done))))))))))))) hmix (by kernel_rfl) ?_
    first | (refine plan_pure rfl rfl (fun w' => ex_cutP rfl rfl rfl rfl ?_ ?_ ?_) ?_; omega; omega; omega; (try simp only [Act.put, List.setIfInBounds_toArray, List.set_cons_zero, List.set_cons_succ, Int.toNat_natCast, Int.toNat_sub, Int.toNat_zero])) | (refine plan_pure (v := ?_) rfl rfl ?_ ?_; rotate_left; (intro w'; go_simp <;> with_reducible rfl); (try simp only [Act.put, List.setIfInBounds_toArray, List.set_cons_zero, List.set_cons_succ, Int.toNat_natCast, Int.toNat_sub, Int.toNat_zero]))
    first | (refine plan_pure rfl rfl (fun w' => ex_cutP rfl rfl rfl rfl ?_ ?_ ?_) ?_; omega; omega; omega; (try simp only [Act.put, List.setIfInBounds_toArray, List.set_cons_zero, List.set_cons_succ, Int.toNat_natCast, Int.toNat_sub, Int.toNat_zero])) | (refine plan_pure (v := ?_) rfl rfl ?_ ?_; rotate_left; (intro w'; go_simp <;> with_reducible rfl); (try simp only [Act.put, List.setIfInBounds_toArray, List.set_cons_zero, List.set_cons_succ, Int.toNat_natCast, Int.toNat_sub, Int.toNat_zero]))
    first | (refine plan_pure rfl rfl (fun w' => ex_cutP rfl rfl rfl rfl ?_ ?_ ?_) ?_; omega; omega; omega; (try simp only [Act.put, List.setIfInBounds_toArray, List.set_cons_zero, List.set_cons_succ, Int.toNat_natCast, Int.toNat_sub, Int.toNat_zero])) | (refine plan_pure (v := ?_) rfl rfl ?_ ?_; rotate_left; (intro w'; go_simp <;> with_reducible rfl); (try simp only [Act.put, List.setIfInBounds_toArray, List.set_cons_zero, List.set_cons_succ, Int.toNat_natCast, Int.toNat_sub, Int.toNat_zero]))
    first | (refine plan_pure rfl rfl (fun w' => ex_cutP rfl rfl rfl rfl ?_ ?_ ?_) ?_; omega; omega; omega; (try simp only [Act.put, List.setIfInBounds_toArray, List.set_cons_zero, List.set_cons_succ, Int.toNat_natCast, Int.toNat_sub, Int.toNat_zero])) | (refine plan_pure (v := ?_) rfl rfl ?_ ?_; rotate_left; (intro w'; go_simp <;> with_reducible rfl); (try simp only [Act.put, List.setIfInBounds_toArray, List.set_cons_zero, List.set_cons_succ, Int.toNat_natCast, Int.toNat_sub, Int.toNat_zero]))
    first | (refine plan_pure rfl rfl (fun w' => ex_cutP rfl rfl rfl rfl ?_ ?_ ?_) ?_; omega; omega; omega; (try simp only [Act.put, List.setIfInBounds_toArray, List.set_cons_zero, List.set_cons_succ, Int.toNat_natCast, Int.toNat_sub, Int.toNat_zero])) | (refine plan_take (v := ?_) rfl hS rfl ?_ ?_; rotate_left; (intro w' hSw; (try dsimp only at hSw); go_simp <;> with_reducible rfl); (try simp only [Act.put, List.setIfInBounds_toArray, List.set_cons_zero, List.set_cons_succ, Int.toNat_natCast, Int.toNat_sub, Int.toNat_zero]))
    first | (refine plan_pure rfl rfl (fun w' => ex_cutP rfl rfl rfl rfl ?_ ?_ ?_) ?_; omega; omega; omega; (try simp only [Act.put, List.setIfInBounds_toArray, List.set_cons_zero, List.set_cons_succ, Int.toNat_natCast, Int.toNat_sub, Int.toNat_zero])) | (refine plan_pure (v := ?_) rfl rfl ?_ ?_; rotate_left; (intro w'; go_simp <;> with_reducible rfl); (try simp only [Act.put, List.setIfInBounds_toArray, List.set_cons_zero, List.set_cons_succ, Int.toNat_natCast, Int.toNat_sub, Int.toNat_zero]))
    first | (refine plan_pure rfl rfl (fun w' => ex_cutP rfl rfl rfl rfl ?_ ?_ ?_) ?_; omega; omega; omega; (try simp only [Act.put, List.setIfInBounds_toArray, List.set_cons_zero, List.set_cons_succ, Int.toNat_natCast, Int.toNat_sub, Int.toNat_zero])) | (refine plan_pure (v := ?_) rfl rfl ?_ ?_; rotate_left; (intro w'; go_simp <;> with_reducible rfl); (try simp only [Act.put, List.setIfInBounds_toArray, List.set_cons_zero, List.set_cons_succ, Int.toNat_natCast, Int.toNat_sub, Int.toNat_zero]))
    first | (refine plan_pure rfl rfl (fun w' => ex_cutP rfl rfl rfl rfl ?_ ?_ ?_) ?_; omega; omega; omega; (try simp only [Act.put, List.setIfInBounds_toArray, List.set_cons_zero, List.set_cons_succ, Int.toNat_natCast, Int.toNat_sub, Int.toNat_zero])) | (refine plan_pure (v := ?_) rfl rfl ?_ ?_; rotate_left; (intro w'; go_simp <;> with_reducible rfl); (try simp only [Act.put, List.setIfInBounds_toArray, List.set_cons_zero, List.set_cons_succ, Int.toNat_natCast, Int.toNat_sub, Int.toNat_zero]))
    first | (refine plan_pure rfl rfl (fun w' => ex_cutP rfl rfl rfl rfl ?_ ?_ ?_) ?_; omega; omega; omega; (try simp only [Act.put, List.setIfInBounds_toArray, List.set_cons_zero, List.set_cons_succ, Int.toNat_natCast, Int.toNat_sub, Int.toNat_zero])) | (refine plan_take (v := ?_) rfl hS rfl ?_ ?_; rotate_left; (intro w' hSw; (try dsimp only at hSw); go_simp <;> with_reducible rfl); (try simp only [Act.put, List.setIfInBounds_toArray, List.set_cons_zero, List.set_cons_succ, Int.toNat_natCast, Int.toNat_sub, Int.toNat_zero]))
    first | (refine plan_pure rfl rfl (fun w' => ex_cutP rfl rfl rfl rfl ?_ ?_ ?_) ?_; omega; omega; omega; (try simp only [Act.put, List.setIfInBounds_toArray, List.set_cons_zero, List.set_cons_succ, Int.toNat_natCast, Int.toNat_sub, Int.toNat_zero])) | (refine plan_pure (v := ?_) rfl rfl ?_ ?_; rotate_left; (intro w'; go_simp <;> with_reducible rfl); (try simp only [Act.put, List.setIfInBounds_toArray, List.set_cons_zero, List.set_cons_succ, Int.toNat_natCast, Int.toNat_sub, Int.toNat_zero]))
    first | (refine plan_pure rfl rfl (fun w' => ex_cutP rfl rfl rfl rfl ?_ ?_ ?_) ?_; omega; omega; omega; (try simp only [Act.put, List.setIfInBounds_toArray, List.set_cons_zero, List.set_cons_succ, Int.toNat_natCast, Int.toNat_sub, Int.toNat_zero])) | (refine plan_pure (v := ?_) rfl rfl ?_ ?_; rotate_left; (intro w'; go_simp <;> with_reducible rfl); (try simp only [Act.put, List.setIfInBounds_toArray, List.set_cons_zero, List.set_cons_succ, Int.toNat_natCast, Int.toNat_sub, Int.toNat_zero]))
    first | (refine plan_pure rfl rfl (fun w' => ex_cutP rfl rfl rfl rfl ?_ ?_ ?_) ?_; omega; omega; omega; (try simp only [Act.put, List.setIfInBounds_toArray, List.set_cons_zero, List.set_cons_succ, Int.toNat_natCast, Int.toNat_sub, Int.toNat_zero])) | (refine plan_pure (v := ?_) rfl rfl ?_ ?_; rotate_left; (intro w'; go_simp <;> with_reducible rfl); (try simp only [Act.put, List.setIfInBounds_toArray, List.set_cons_zero, List.set_cons_succ, Int.toNat_natCast, Int.toNat_sub, Int.toNat_zero]))
    first | (refine plan_pure rfl rfl (fun w' => ex_cutP rfl rfl rfl rfl ?_ ?_ ?_) ?_; omega; omega; omega; (try simp only [Act.put, List.setIfInBounds_toArray, List.set_cons_zero, List.set_cons_succ, Int.toNat_natCast, Int.toNat_sub, Int.toNat_zero])) | (refine plan_pure (v := ?_) rfl rfl ?_ ?_; rotate_left; (intro w'; go_simp <;> with_reducible rfl); (try simp only [Act.put, List.setIfInBounds_toArray, List.set_cons_zero, List.set_cons_succ, Int.toNat_natCast, Int.toNat_sub, Int.toNat_zero]))
    refine plan_done ?_
    have hgb : g ≠ b := by omega
    have h4 := h3.drew
    have hB4 : PB wc.drew g fs := hB3
    have hF04 := hF03.drew
    clear h3 hB3 hF03 hS p3 k3 g0 g1 g2 g3 g4 g5 g6 gf0 gf1 gf4 glt hC3 hP3 hsV
    go_wp2_with (fail)
    refine (prepareArea_c h4.rn wh (by omega) (by omega)).mono ?_
    rintro e w5 ⟨rfl, hR5, hF5⟩
    have h5 := h4.out hR5 hF5
    have hB5 := hB4.fr hF5 (.inr ⟨by simp, by decide⟩)
    have hF05 := hF04.into hF5 (by simp) (by simp)
    clear h4 hB4 hF04 hR5 hF5
    go_wp2_with (fail)
    refine (width_c pre hpre (by omega) _).mono ?_
    rintro e w6 ⟨rfl, hF6⟩
    have h6 := h5.fr0 hF6
    have hB6 := hB5.fr0 hF6
    have hF06 := hF05.ext hF6
    clear h5 hB5 hF05 hF6
    go_wp2_with (fail)
    refine (doc_c h6.buf).mono ?_
    rintro e w7 ⟨d, rfl, hd, hU7, hF7⟩
    have h7 := h6.doc hU7 hF7
    have hB7 := hB6.fr hF7 (.inr ⟨by simpa using hgb, by simp⟩)
    have hF07 := hF06.into hF7 (by simp) (by simp)
    clear h6 hB6 hF06 hF7 hU7
    go_wp2_with (fail)
    refine (before_c hd ht.asc (by omega) hk).mono ?_
    rintro e w8 ⟨rfl, hF8⟩
    have h8 := h7.fr0 hF8
    have hB8 := hB7.fr0 hF8
    have hF08 := hF07.ext hF8
    clear h7 hB7 hF07 hF8 hd
    have hex : (t.extract 0 k).size = k := by simp; omega
    go_wp2_with (fail)
    refine (width_c (t.extract 0 k) (ht.extract _ _) (by omega) _).mono ?_
    rintro e w9 ⟨rfl, hF9⟩
    have h9 := h8.fr0 hF9
    have hB9 := hB8.fr0 hF9
    have hF09 := hF08.ext hF9
    clear h8 hB8 hF08 hF9
    obtain ⟨CU, hCU⟩ : ∃ CU, pre.size + k = CU := ⟨_, rfl⟩
    have hcu : (pre.size : Int) + k = CU := by omega
    go_wp2_with (fail)
    refine (toPos_c h9.rn hc1 hc2 CU (by omega)).mono ?_
    rintro e wa ⟨x, y, rfl, hx, hxa, hy, hFa⟩
    have ha := h9.fr0 hFa
    have hBa := hB9.fr0 hFa
    have hF0a := hF09.ext hFa
    clear h9 hB9 hF09 hFa hcu hex
    obtain ⟨pc, hpc, ⟨c0, c1, c2, c3, c5, c6, c7, f7, hlt⟩, hRB, hbr⟩ := ha.rn.ren
    go_upto_if 96 with (fail)
    clear pc hpc c0 c1 c2 c3 c5 c7 f7 hRB hbr
    have hCU2 : CU ≤ 1100 := by omega
    clear hCU
    go_cut [11] from 88 to 108 (fun v11 wx => ∃ cu m : Nat, v11 = .int .i64 cu ∧ cu ≤ CU ∧ m = n + 2500 ∧ Scr base wx r o b L c pre cols m t k q sel v tmp ∧ PB wx g fs ∧ Fr base [5, 143] [b] w wx)
    case first =>
      by_cases hge : cols ≤ x + WW
      · have d1 : decide ((cols : Int) ≤ (x : Int) + WW) = true := by simp; omega
        obtain ⟨XW, hXW⟩ : ∃ XW, x + WW = XW := ⟨_, rfl⟩
        have hxw : (x : Int) + WW = XW := by omega
        rw [hxw] at d1
        have hge2 : cols ≤ XW ∧ XW - cols ≤ CU := by omega
        obtain ⟨BB, hBB⟩ : ∃ BB, XW - cols = BB := ⟨_, rfl⟩
        have hbb : (XW : Int) - cols = BB := by omega
        have hBB2 : BB ≤ CU := by omega
        clear hXW hBB hge hge2
        go_wp2_with (fail)
        refine (backward_c ha.rn hc1 hc2 CU BB (by omega) hBB2 (by omega)).mono ?_
        rintro e wb ⟨rfl, hRb, hFb⟩
        go_wp2_with (fail)
        go_meet
        exact ⟨CU - BB, n + 2500, rfl, by omega, rfl, (ha.out hRb hFb).le (by omega), hBa.fr hFb (.inr ⟨by simp, by decide⟩), hF0a.into hFb (by simp) (by simp)⟩
      · have d1 : decide ((cols : Int) ≤ (x : Int) + WW) = false := by simp; omega
        go_wp2_with (fail)
        go_meet
        exact ⟨CU, n + 2500, rfl, Nat.le_refl _, rfl, ha.le (by omega), hBa, hF0a⟩
    case rest =>
      obtain ⟨cu, m, rfl, hcu, hm2, h1, hB1, hF1⟩ := hcut
      clear ha hBa hF0a c6 hlt
      obtain ⟨dh, mh, zh, hBH⟩ := bar_h (a := wh) (b := n9) (by omega) (by omega) (by omega)
      obtain ⟨dt, mt, zt, hBT⟩ := bar_t (a := wh) (b := n9) (v := v) (by omega) (by omega) (by omega) (by omega)
      have r1 : ∀ (a : Int) w, (convert 3 169 (.int .i64 a)).run Tryz.prog w = .ok (.float .f64 (floatOfInt .f64 a)) w := fun a w => run_convert_int_float (P := Tryz.prog) w 3 169 .i64 .f64 a (by kernel_rfl) (by kernel_rfl)
      have r2 : ∀ t w, (binOp .quo t (.float .f64 (floatOfInt .f64 wh)) (.float .f64 (floatOfInt .f64 n9))).run Tryz.prog w = .ok (.float .f64 dh) w := fun t w => run_float_arith (P := Tryz.prog) w .quo t .f64 _ _ _ hBH.hq
      have r3 : ∀ t w, (binOp .mul t (.float .f64 (floatOfInt .f64 wh)) (.float .f64 dh)).run Tryz.prog w = .ok (.float .f64 mh) w := fun t w => run_float_arith (P := Tryz.prog) w .mul t .f64 _ _ _ hBH.hm
      have r4 : ∀ w, (convert 169 3 (.float .f64 (clampF (floatOfInt .f64 wh) 4607182418800017408 mh))).run Tryz.prog w = .ok (.int .i64 zh) w := fun w => run_convert_float_int (P := Tryz.prog) w 169 3 .f64 .i64 _ _ (by kernel_rfl) (by kernel_rfl) hBH.hz
      have r5 : ∀ t w, (binOp .quo t (.float .f64 (floatOfInt .f64 v)) (.float .f64 (floatOfInt .f64 n9))).run Tryz.prog w = .ok (.float .f64 dt) w := fun t w => run_float_arith (P := Tryz.prog) w .quo t .f64 _ _ _ hBT.hq
      have r6 : ∀ t w, (binOp .mul t (.float .f64 (floatOfInt .f64 wh)) (.float .f64 dt)).run Tryz.prog w = .ok (.float .f64 mt) w := fun t w => run_float_arith (P := Tryz.prog) w .mul t .f64 _ _ _ hBT.hm
      have r7 : ∀ w, (convert 169 3 (.float .f64 mt)).run Tryz.prog w = .ok (.int .i64 zt) w := fun w => run_convert_float_int (P := Tryz.prog) w 169 3 .f64 .i64 _ _ (by kernel_rfl) (by kernel_rfl) hBT.hz
      clear hBH hBT
      obtain ⟨p3, k3, ⟨g0, g1, g2, g3, g4, g5, g6, gf0, gf1, gf4, glt⟩, hC3, hP3, -⟩ := h1.cm.ren
      rw [HN9.out] at g1
      go_wp2_with (fail)
      refine (clamp_c _ _ _ _).mono ?_
      rintro e wb ⟨rfl, rfl⟩
      obtain ⟨P1, hP1⟩ : ∃ P, wc.heap.size = P := ⟨_, rfl⟩
      rw [hP1] at glt
      go_wp2_with (fail)
      have hFz : Fr 0 [] [] wc ((wc.alloc (.cells #[.int .i64 zh] 3)).alloc (.cells #[.int .i64 zt] 3)) := ((Fr.refl 0 [] [] wc).alloc _).alloc _
      have h2 : RD base w r o b L c pre cols t k q sel v tmp g fs P1 (P1 + 1) zh zt m ((wc.alloc (.cells #[.int .i64 zh] 3)).alloc (.cells #[.int .i64 zt] 3)) :=
        ⟨h1.fr0 hFz, hB1.fr0 hFz, (Blk.new' hP1.symm _ _).alloc _, Blk.new' (by simp [hP1]) _ _, hF1.ext hFz⟩
      obtain ⟨P2, hP2⟩ : ∃ P, P1 + 1 = P := ⟨_, rfl⟩
      rw [hP2] at h2
      simp only [hP2]
      obtain ⟨W2, hW2⟩ : ∃ W, ((wc.alloc (.cells #[.int .i64 zh] 3)).alloc (.cells #[.int .i64 zt] 3)) = W := ⟨_, rfl⟩
      rw [hW2] at h2 ⊢
      obtain ⟨SV, hSV⟩ : ∃ SV : Int, IntKind.i64.wrap (sel - (v : Int)) = SV := ⟨_, rfl⟩
      clear hW2 hP1 hP2 hFz h1 hB1 hF1 r1 r2 r3 r4 r5 r6 r7 g0 g1 g2 g3 g4 g5 g6 gf0 gf1 gf4 glt hC3 hP3
      have hS : (fun w' : World => w'.cell? ⟨c, 0, none⟩ = some (.int .i64 sel) ∧ w'.cell? ⟨c, 4, none⟩ = some (.int .i64 v)) W2.drew := by
        obtain ⟨p3, k3, ⟨g0, g1, g2, g3, g4, g5, g6, gf0, gf1, gf4, glt⟩, hC3, hP3, -⟩ := h2.scr.cm.ren
        exact ⟨g0, g4⟩
      refine wp_region_plan [3, 7] [] (fun w' : World => w'.cell? ⟨c, 0, none⟩ = some (.int .i64 sel) ∧ w'.cell? ⟨c, 4, none⟩ = some (.int .i64 v)) (.pure 0 (.pure 1 (.pure 2 (.take 3 (.pure 4 (.pure 5 (.pure 6 (.take 7 (.pure 8 (.pure 9 .done)))))))))) hmix (by kernel_rfl) ?_
      first | (refine plan_pure (v := ?_) rfl rfl ?_ ?_; rotate_left; (intro w'; go_simp <;> with_reducible rfl); (try simp only [Act.put, List.setIfInBounds_toArray, List.set_cons_zero, List.set_cons_succ, Int.toNat_natCast, Int.toNat_sub, Int.toNat_zero]))
      first | (refine plan_pure (v := ?_) rfl rfl ?_ ?_; rotate_left; (intro w'; go_simp <;> with_reducible rfl); (try simp only [Act.put, List.setIfInBounds_toArray, List.set_cons_zero, List.set_cons_succ, Int.toNat_natCast, Int.toNat_sub, Int.toNat_zero]))
      first | (refine plan_pure (v := ?_) rfl rfl ?_ ?_; rotate_left; (intro w'; go_simp <;> with_reducible rfl); (try simp only [Act.put, List.setIfInBounds_toArray, List.set_cons_zero, List.set_cons_succ, Int.toNat_natCast, Int.toNat_sub, Int.toNat_zero]))
      first | (refine plan_take (v := ?_) rfl hS rfl ?_ ?_; rotate_left; (intro w' hSw; (try dsimp only at hSw); go_simp <;> with_reducible rfl); (try simp only [Act.put, List.setIfInBounds_toArray, List.set_cons_zero, List.set_cons_succ, Int.toNat_natCast, Int.toNat_sub, Int.toNat_zero]))
      first | (refine plan_pure (v := ?_) rfl rfl ?_ ?_; rotate_left; (intro w'; go_simp <;> with_reducible rfl); (try simp only [Act.put, List.setIfInBounds_toArray, List.set_cons_zero, List.set_cons_succ, Int.toNat_natCast, Int.toNat_sub, Int.toNat_zero]))
      first | (refine plan_pure (v := ?_) rfl rfl ?_ ?_; rotate_left; (intro w'; go_simp <;> with_reducible rfl); (try simp only [Act.put, List.setIfInBounds_toArray, List.set_cons_zero, List.set_cons_succ, Int.toNat_natCast, Int.toNat_sub, Int.toNat_zero]))
      first | (refine plan_pure (v := ?_) rfl rfl ?_ ?_; rotate_left; (intro w'; go_simp <;> with_reducible rfl); (try simp only [Act.put, List.setIfInBounds_toArray, List.set_cons_zero, List.set_cons_succ, Int.toNat_natCast, Int.toNat_sub, Int.toNat_zero]))
      first | (refine plan_take (v := ?_) rfl hS rfl ?_ ?_; rotate_left; (intro w' hSw; (try dsimp only at hSw); go_simp <;> with_reducible rfl); (try simp only [Act.put, List.setIfInBounds_toArray, List.set_cons_zero, List.set_cons_succ, Int.toNat_natCast, Int.toNat_sub, Int.toNat_zero]))
      first | (refine plan_pure (v := ?_) rfl rfl ?_ ?_; rotate_left; (intro w'; go_simp <;> with_reducible rfl); (try simp only [Act.put, List.setIfInBounds_toArray, List.set_cons_zero, List.set_cons_succ, Int.toNat_natCast, Int.toNat_sub, Int.toNat_zero]))
      first | (refine plan_pure (v := ?_) rfl rfl ?_ ?_; rotate_left; (intro w'; go_simp <;> with_reducible rfl); (try simp only [Act.put, List.setIfInBounds_toArray, List.set_cons_zero, List.set_cons_succ, Int.toNat_natCast, Int.toNat_sub, Int.toNat_zero]))
      refine plan_done ?_
      replace h2 := h2.drew
      clear hSV hS
      have c0 := h2.c0
      have hlt := h2.rlt
      go_wp2_with (fail)
      refine (setColor_c (f := 16) (b := 7) h2.scr.rn.wr (by omega) (by omega) (by omega)).mono ?_
      rintro e w3 ⟨rfl, hW3, hF3⟩
      have h3 := h2.out hW3 hF3
      clear h2 c0 hlt hW3 hF3
      go_wp2_with (fail)
      obtain ⟨n3, hn3⟩ : ∃ n3, m + 30 = n3 := ⟨_, rfl⟩
      rw [hn3] at h3
      have hn3b : n3 ≤ n + 3000 := by omega
      clear hn3 hm2
      go_loopw [21] (fun v21 w' => ∃ i : Nat, i ≤ wh ∧ v21 = .int .i64 i ∧ RD base w r o b L c pre cols t k q sel v tmp g fs P1 P2 zh zt (n3 + 1000 * i) w') (fun v21 _ => wh - (intOf v21).toNat)
      case atStart => exact ⟨0, by omega, rfl, h3⟩
      clear h3
      obtain ⟨i, hi, rfl, h4⟩ := hrel
      by_cases hlt : i < wh
      · have d1 : decide ((i : Int) < wh) = true := by simpa using hlt
        have d2 : (i : Int) < wh := by omega
        obtain ⟨m4, hm4⟩ : ∃ m4, n3 + 1000 * i = m4 := ⟨_, rfl⟩
        rw [hm4] at h4
        have hm4b : m4 ≤ n + 3000 + 1000 * i := by omega
        have HM4 := Lib.hid hm4
        clear hm4
        have hvi : v + i < fs.length := by rw [hsh.1]; omega
        have hq9 := hsh.2 _ (List.getElem_mem hvi)
        obtain ⟨t1, ht1⟩ : ∃ t, (fs[v + i]'hvi).1 = t := ⟨_, rfl⟩
        obtain ⟨t2, ht2⟩ : ∃ t, (fs[v + i]'hvi).2 = t := ⟨_, rfl⟩
        have HT1 := Lib.hid (show ∀ wx, PB wx g fs → wx.cell? ⟨g, v * 2 + i * 2, none⟩ = some (.string t1) from fun wx h => by have h9 := (h.get (v + i) hvi).1; rw [ht1, Nat.add_mul] at h9; exact h9)
        have HT2 := Lib.hid (show ∀ wx, PB wx g fs → wx.cell? ⟨g, v * 2 + i * 2 + 1, none⟩ = some (.string t2) from fun wx h => by have h9 := (h.get (v + i) hvi).2.1; rw [ht2, Nat.add_mul] at h9; exact h9)
        rw [ht1, ht2] at hq9
        have HQ := Lib.hid hq9
        clear hq9 ht1 ht2 hvi
        have c0 := h4.c0
        have rlt := h4.rlt
        obtain ⟨B, hB⟩ : ∃ B, ((i : Int) == SV) = B := ⟨_, rfl⟩
        go_wp2_with (fail)
        refine (down_c h4.scr.rn.wr 1 (by omega) (by omega) (by omega)).mono ?_
        rintro e w5 ⟨rfl, hW5, hF5⟩
        have h5 := h4.out hW5 hF5
        clear h4 c0 rlt hW5 hF5
        go_upto_if 167 with (fail)
        go_cut [] from 167 to 197 (fun wx => RD base w r o b L c pre cols t k q sel v tmp g fs P1 P2 zh zt (m4 + 40) wx)
        case first =>
          cases B with
          | true =>
            go_wp2_with (fail)
            have hS : (fun w' : World => w'.cell? ⟨r, 0, none⟩ = some (.iface 144 (.pointer (some ⟨o, 0, none⟩))) ∧ w'.cell? ⟨r, 16, none⟩ = some (.int .i64 1) ∧ w'.cell? ⟨r, 17, none⟩ = some (.int .i64 15)) w5.drew := ⟨h5.c0, h5.scr.rn.cold.c16, h5.scr.rn.cold.c17⟩
            refine wp_region_plan [3, 7, 11] [14] (fun w' : World => w'.cell? ⟨r, 0, none⟩ = some (.iface 144 (.pointer (some ⟨o, 0, none⟩))) ∧ w'.cell? ⟨r, 16, none⟩ = some (.int .i64 1) ∧ w'.cell? ⟨r, 17, none⟩ = some (.int .i64 15)) (.pure 0 (.pure 1 (.pure 2 (.take 3 (.pure 4 (.pure 5 (.pure 6 (.take 7 (.pure 8 (.pure 9 (.pure 10 (.take 11 (.pure 12 (.pure 13 (.go 14 .done))))))))))))))) hmix (by kernel_rfl) ?_
            first | (refine plan_pure (v := ?_) rfl rfl ?_ ?_; rotate_left; (intro w'; go_simp <;> with_reducible rfl); (try simp only [Act.put, List.setIfInBounds_toArray, List.set_cons_zero, List.set_cons_succ, Int.toNat_natCast, Int.toNat_sub, Int.toNat_zero]))
            first | (refine plan_pure (v := ?_) rfl rfl ?_ ?_; rotate_left; (intro w'; go_simp <;> with_reducible rfl); (try simp only [Act.put, List.setIfInBounds_toArray, List.set_cons_zero, List.set_cons_succ, Int.toNat_natCast, Int.toNat_sub, Int.toNat_zero]))
            first | (refine plan_pure (v := ?_) rfl rfl ?_ ?_; rotate_left; (intro w'; go_simp <;> with_reducible rfl); (try simp only [Act.put, List.setIfInBounds_toArray, List.set_cons_zero, List.set_cons_succ, Int.toNat_natCast, Int.toNat_sub, Int.toNat_zero]))
            first | (refine plan_take (v := ?_) rfl hS rfl ?_ ?_; rotate_left; (intro w' hSw; (try dsimp only at hSw); go_simp <;> with_reducible rfl); (try simp only [Act.put, List.setIfInBounds_toArray, List.set_cons_zero, List.set_cons_succ, Int.toNat_natCast, Int.toNat_sub, Int.toNat_zero]))
            first | (refine plan_pure (v := ?_) rfl rfl ?_ ?_; rotate_left; (intro w'; go_simp <;> with_reducible rfl); (try simp only [Act.put, List.setIfInBounds_toArray, List.set_cons_zero, List.set_cons_succ, Int.toNat_natCast, Int.toNat_sub, Int.toNat_zero]))
            first | (refine plan_pure (v := ?_) rfl rfl ?_ ?_; rotate_left; (intro w'; go_simp <;> with_reducible rfl); (try simp only [Act.put, List.setIfInBounds_toArray, List.set_cons_zero, List.set_cons_succ, Int.toNat_natCast, Int.toNat_sub, Int.toNat_zero]))
            first | (refine plan_pure (v := ?_) rfl rfl ?_ ?_; rotate_left; (intro w'; go_simp <;> with_reducible rfl); (try simp only [Act.put, List.setIfInBounds_toArray, List.set_cons_zero, List.set_cons_succ, Int.toNat_natCast, Int.toNat_sub, Int.toNat_zero]))
            first | (refine plan_take (v := ?_) rfl hS rfl ?_ ?_; rotate_left; (intro w' hSw; (try dsimp only at hSw); go_simp <;> with_reducible rfl); (try simp only [Act.put, List.setIfInBounds_toArray, List.set_cons_zero, List.set_cons_succ, Int.toNat_natCast, Int.toNat_sub, Int.toNat_zero]))
            first | (refine plan_pure (v := ?_) rfl rfl ?_ ?_; rotate_left; (intro w'; go_simp <;> with_reducible rfl); (try simp only [Act.put, List.setIfInBounds_toArray, List.set_cons_zero, List.set_cons_succ, Int.toNat_natCast, Int.toNat_sub, Int.toNat_zero]))
            first | (refine plan_pure (v := ?_) rfl rfl ?_ ?_; rotate_left; (intro w'; go_simp <;> with_reducible rfl); (try simp only [Act.put, List.setIfInBounds_toArray, List.set_cons_zero, List.set_cons_succ, Int.toNat_natCast, Int.toNat_sub, Int.toNat_zero]))
            first | (refine plan_pure (v := ?_) rfl rfl ?_ ?_; rotate_left; (intro w'; go_simp <;> with_reducible rfl); (try simp only [Act.put, List.setIfInBounds_toArray, List.set_cons_zero, List.set_cons_succ, Int.toNat_natCast, Int.toNat_sub, Int.toNat_zero]))
            first | (refine plan_take (v := ?_) rfl hS rfl ?_ ?_; rotate_left; (intro w' hSw; (try dsimp only at hSw); go_simp <;> with_reducible rfl); (try simp only [Act.put, List.setIfInBounds_toArray, List.set_cons_zero, List.set_cons_succ, Int.toNat_natCast, Int.toNat_sub, Int.toNat_zero]))
            first | (refine plan_pure (v := ?_) rfl rfl ?_ ?_; rotate_left; (intro w'; go_simp <;> with_reducible rfl); (try simp only [Act.put, List.setIfInBounds_toArray, List.set_cons_zero, List.set_cons_succ, Int.toNat_natCast, Int.toNat_sub, Int.toNat_zero]))
            first | (refine plan_pure (v := ?_) rfl rfl ?_ ?_; rotate_left; (intro w'; go_simp <;> with_reducible rfl); (try simp only [Act.put, List.setIfInBounds_toArray, List.set_cons_zero, List.set_cons_succ, Int.toNat_natCast, Int.toNat_sub, Int.toNat_zero]))
            refine plan_go rfl (by kernel_rfl) rfl (fun K hK => ?_)
            go_simp; refine (setColor_c (f := 1) (b := 15) h5.drew.scr.rn.wr (by omega) (by omega) (by omega)).mono ?_; rintro e wz ⟨rfl, hW9, hF9⟩; refine hK _ _ ?_; clear hK K; (try simp only [Act.put, List.setIfInBounds_toArray, List.set_cons_zero, List.set_cons_succ, Int.toNat_natCast, Int.toNat_sub, Int.toNat_zero])
            refine plan_done ?_
            have hz := h5.drew.out hW9 hF9
            clear hW9 hF9 hS
            go_wp2_with (fail)
            go_meet
            exact hz.le (by omega)
          | false =>
            go_wp2_with (fail)
            have hS : (fun w' : World => w'.cell? ⟨r, 0, none⟩ = some (.iface 144 (.pointer (some ⟨o, 0, none⟩))) ∧ w'.cell? ⟨r, 14, none⟩ = some (.int .i64 16) ∧ w'.cell? ⟨r, 15, none⟩ = some (.int .i64 7)) w5.drew := ⟨h5.c0, h5.scr.rn.cold.c14, h5.scr.rn.cold.c15⟩
            refine wp_region_plan [3, 7, 11] [14] (fun w' : World => w'.cell? ⟨r, 0, none⟩ = some (.iface 144 (.pointer (some ⟨o, 0, none⟩))) ∧ w'.cell? ⟨r, 14, none⟩ = some (.int .i64 16) ∧ w'.cell? ⟨r, 15, none⟩ = some (.int .i64 7)) (.pure 0 (.pure 1 (.pure 2 (.take 3 (.pure 4 (.pure 5 (.pure 6 (.take 7 (.pure 8 (.pure 9 (.pure 10 (.take 11 (.pure 12 (.pure 13 (.go 14 .done))))))))))))))) hmix (by kernel_rfl) ?_
            first | (refine plan_pure (v := ?_) rfl rfl ?_ ?_; rotate_left; (intro w'; go_simp <;> with_reducible rfl); (try simp only [Act.put, List.setIfInBounds_toArray, List.set_cons_zero, List.set_cons_succ, Int.toNat_natCast, Int.toNat_sub, Int.toNat_zero]))
            first | (refine plan_pure (v := ?_) rfl rfl ?_ ?_; rotate_left; (intro w'; go_simp <;> with_reducible rfl); (try simp only [Act.put, List.setIfInBounds_toArray, List.set_cons_zero, List.set_cons_succ, Int.toNat_natCast, Int.toNat_sub, Int.toNat_zero]))
            first | (refine plan_pure (v := ?_) rfl rfl ?_ ?_; rotate_left; (intro w'; go_simp <;> with_reducible rfl); (try simp only [Act.put, List.setIfInBounds_toArray, List.set_cons_zero, List.set_cons_succ, Int.toNat_natCast, Int.toNat_sub, Int.toNat_zero]))
            first | (refine plan_take (v := ?_) rfl hS rfl ?_ ?_; rotate_left; (intro w' hSw; (try dsimp only at hSw); go_simp <;> with_reducible rfl); (try simp only [Act.put, List.setIfInBounds_toArray, List.set_cons_zero, List.set_cons_succ, Int.toNat_natCast, Int.toNat_sub, Int.toNat_zero]))
            first | (refine plan_pure (v := ?_) rfl rfl ?_ ?_; rotate_left; (intro w'; go_simp <;> with_reducible rfl); (try simp only [Act.put, List.setIfInBounds_toArray, List.set_cons_zero, List.set_cons_succ, Int.toNat_natCast, Int.toNat_sub, Int.toNat_zero]))
            first | (refine plan_pure (v := ?_) rfl rfl ?_ ?_; rotate_left; (intro w'; go_simp <;> with_reducible rfl); (try simp only [Act.put, List.setIfInBounds_toArray, List.set_cons_zero, List.set_cons_succ, Int.toNat_natCast, Int.toNat_sub, Int.toNat_zero]))
            first | (refine plan_pure (v := ?_) rfl rfl ?_ ?_; rotate_left; (intro w'; go_simp <;> with_reducible rfl); (try simp only [Act.put, List.setIfInBounds_toArray, List.set_cons_zero, List.set_cons_succ, Int.toNat_natCast, Int.toNat_sub, Int.toNat_zero]))
            first | (refine plan_take (v := ?_) rfl hS rfl ?_ ?_; rotate_left; (intro w' hSw; (try dsimp only at hSw); go_simp <;> with_reducible rfl); (try simp only [Act.put, List.setIfInBounds_toArray, List.set_cons_zero, List.set_cons_succ, Int.toNat_natCast, Int.toNat_sub, Int.toNat_zero]))
            first | (refine plan_pure (v := ?_) rfl rfl ?_ ?_; rotate_left; (intro w'; go_simp <;> with_reducible rfl); (try simp only [Act.put, List.setIfInBounds_toArray, List.set_cons_zero, List.set_cons_succ, Int.toNat_natCast, Int.toNat_sub, Int.toNat_zero]))
            first | (refine plan_pure (v := ?_) rfl rfl ?_ ?_; rotate_left; (intro w'; go_simp <;> with_reducible rfl); (try simp only [Act.put, List.setIfInBounds_toArray, List.set_cons_zero, List.set_cons_succ, Int.toNat_natCast, Int.toNat_sub, Int.toNat_zero]))
            first | (refine plan_pure (v := ?_) rfl rfl ?_ ?_; rotate_left; (intro w'; go_simp <;> with_reducible rfl); (try simp only [Act.put, List.setIfInBounds_toArray, List.set_cons_zero, List.set_cons_succ, Int.toNat_natCast, Int.toNat_sub, Int.toNat_zero]))
            first | (refine plan_take (v := ?_) rfl hS rfl ?_ ?_; rotate_left; (intro w' hSw; (try dsimp only at hSw); go_simp <;> with_reducible rfl); (try simp only [Act.put, List.setIfInBounds_toArray, List.set_cons_zero, List.set_cons_succ, Int.toNat_natCast, Int.toNat_sub, Int.toNat_zero]))
            first | (refine plan_pure (v := ?_) rfl rfl ?_ ?_; rotate_left; (intro w'; go_simp <;> with_reducible rfl); (try simp only [Act.put, List.setIfInBounds_toArray, List.set_cons_zero, List.set_cons_succ, Int.toNat_natCast, Int.toNat_sub, Int.toNat_zero]))
            first | (refine plan_pure (v := ?_) rfl rfl ?_ ?_; rotate_left; (intro w'; go_simp <;> with_reducible rfl); (try simp only [Act.put, List.setIfInBounds_toArray, List.set_cons_zero, List.set_cons_succ, Int.toNat_natCast, Int.toNat_sub, Int.toNat_zero]))
            refine plan_go rfl (by kernel_rfl) rfl (fun K hK => ?_)
            go_simp; refine (setColor_c (f := 16) (b := 7) h5.drew.scr.rn.wr (by omega) (by omega) (by omega)).mono ?_; rintro e wz ⟨rfl, hW9, hF9⟩; refine hK _ _ ?_; clear hK K; (try simp only [Act.put, List.setIfInBounds_toArray, List.set_cons_zero, List.set_cons_succ, Int.toNat_natCast, Int.toNat_sub, Int.toNat_zero])
            refine plan_done ?_
            have hz := h5.drew.out hW9 hF9
            clear hW9 hF9 hS
            go_wp2_with (fail)
            go_meet
            exact hz.le (by omega)
        case rest =>
        have h6 := hcut
        clear hcut h5
        go_wp2_with (fail)
        have hS : (fun w' : World => w'.cell? ⟨r, 0, none⟩ = some (.iface 144 (.pointer (some ⟨o, 0, none⟩))) ∧ w'.cell? ⟨g, v * 2 + i * 2, none⟩ = some (.string t1)) wc.drew := ⟨h6.c0, HT1.out _ h6.pb⟩
        refine wp_region_plan [3, 8] [11] (fun w' : World => w'.cell? ⟨r, 0, none⟩ = some (.iface 144 (.pointer (some ⟨o, 0, none⟩))) ∧ w'.cell? ⟨g, v * 2 + i * 2, none⟩ = some (.string t1)) (.pure 0 (.pure 1 (.pure 2 (.take 3 (.pure 4 (.pure 5 (.pure 6 (.pure 7 (.take 8 (.pure 9 (.pure 10 (.go 11 .done)))))))))))) hmix (by kernel_rfl) ?_
        first | (refine plan_pure (v := ?_) rfl rfl ?_ ?_; rotate_left; (intro w'; go_simp <;> with_reducible rfl); (try simp only [Act.put, List.setIfInBounds_toArray, List.set_cons_zero, List.set_cons_succ, Int.toNat_natCast, Int.toNat_sub, Int.toNat_zero]))
        first | (refine plan_pure (v := ?_) rfl rfl ?_ ?_; rotate_left; (intro w'; go_simp <;> with_reducible rfl); (try simp only [Act.put, List.setIfInBounds_toArray, List.set_cons_zero, List.set_cons_succ, Int.toNat_natCast, Int.toNat_sub, Int.toNat_zero]))
        first | (refine plan_pure (v := ?_) rfl rfl ?_ ?_; rotate_left; (intro w'; go_simp <;> with_reducible rfl); (try simp only [Act.put, List.setIfInBounds_toArray, List.set_cons_zero, List.set_cons_succ, Int.toNat_natCast, Int.toNat_sub, Int.toNat_zero]))
        first | (refine plan_take (v := ?_) rfl hS rfl ?_ ?_; rotate_left; (intro w' hSw; (try dsimp only at hSw); go_simp <;> with_reducible rfl); (try simp only [Act.put, List.setIfInBounds_toArray, List.set_cons_zero, List.set_cons_succ, Int.toNat_natCast, Int.toNat_sub, Int.toNat_zero]))
        first | (refine plan_pure (v := ?_) rfl rfl ?_ ?_; rotate_left; (intro w'; go_simp <;> with_reducible rfl); (try simp only [Act.put, List.setIfInBounds_toArray, List.set_cons_zero, List.set_cons_succ, Int.toNat_natCast, Int.toNat_sub, Int.toNat_zero]))
        first | (refine plan_pure (v := ?_) rfl rfl ?_ ?_; rotate_left; (intro w'; go_simp <;> with_reducible rfl); (try simp only [Act.put, List.setIfInBounds_toArray, List.set_cons_zero, List.set_cons_succ, Int.toNat_natCast, Int.toNat_sub, Int.toNat_zero]))
        first | (refine plan_pure (v := ?_) rfl rfl ?_ ?_; rotate_left; (intro w'; go_simp <;> with_reducible rfl); (try simp only [Act.put, List.setIfInBounds_toArray, List.set_cons_zero, List.set_cons_succ, Int.toNat_natCast, Int.toNat_sub, Int.toNat_zero]))
        first | (refine plan_pure (v := ?_) rfl rfl ?_ ?_; rotate_left; (intro w'; go_simp <;> with_reducible rfl); (try simp only [Act.put, List.setIfInBounds_toArray, List.set_cons_zero, List.set_cons_succ, Int.toNat_natCast, Int.toNat_sub, Int.toNat_zero]))
        first | (refine plan_take (v := ?_) rfl hS rfl ?_ ?_; rotate_left; (intro w' hSw; (try dsimp only at hSw); go_simp <;> with_reducible rfl); (try simp only [Act.put, List.setIfInBounds_toArray, List.set_cons_zero, List.set_cons_succ, Int.toNat_natCast, Int.toNat_sub, Int.toNat_zero]))
        first | (refine plan_pure (v := ?_) rfl rfl ?_ ?_; rotate_left; (intro w'; go_simp <;> with_reducible rfl); (try simp only [Act.put, List.setIfInBounds_toArray, List.set_cons_zero, List.set_cons_succ, Int.toNat_natCast, Int.toNat_sub, Int.toNat_zero]))
        first | (refine plan_pure (v := ?_) rfl rfl ?_ ?_; rotate_left; (intro w'; go_simp <;> with_reducible rfl); (try simp only [Act.put, List.setIfInBounds_toArray, List.set_cons_zero, List.set_cons_succ, Int.toNat_natCast, Int.toNat_sub, Int.toNat_zero]))
        refine plan_go rfl (by kernel_rfl) rfl (fun K hK => ?_)
        go_simp; refine (writeStr_c h6.drew.scr.rn.wr HQ.out.1.noEsc (by have := HQ.out; omega)).mono ?_; rintro e w7 ⟨rfl, hW9, hF9⟩; refine hK _ _ ?_; clear hK K; (try simp only [Act.put, List.setIfInBounds_toArray, List.set_cons_zero, List.set_cons_succ, Int.toNat_natCast, Int.toNat_sub, Int.toNat_zero])
        refine plan_done ?_
        have h7 := (h6.drew.out hW9 hF9).le (show _ ≤ m4 + 240 by have := HQ.out; omega)
        clear hW9 hF9 hS
        clear h6
        go_upto_if 212 with (fail)
        go_cut [] from 212 to 242 (fun wx => RD base w r o b L c pre cols t k q sel v tmp g fs P1 P2 zh zt (m4 + 270) wx)
        case first =>
          cases B with
          | true =>
            go_wp2_with (fail)
            have hS : (fun w' : World => w'.cell? ⟨r, 0, none⟩ = some (.iface 144 (.pointer (some ⟨o, 0, none⟩))) ∧ w'.cell? ⟨r, 20, none⟩ = some (.int .i64 16) ∧ w'.cell? ⟨r, 21, none⟩ = some (.int .i64 7)) w7.drew := ⟨h7.c0, h7.scr.rn.cold.c20, h7.scr.rn.cold.c21⟩
            refine wp_region_plan [3, 7, 11] [14] (fun w' : World => w'.cell? ⟨r, 0, none⟩ = some (.iface 144 (.pointer (some ⟨o, 0, none⟩))) ∧ w'.cell? ⟨r, 20, none⟩ = some (.int .i64 16) ∧ w'.cell? ⟨r, 21, none⟩ = some (.int .i64 7)) (.pure 0 (.pure 1 (.pure 2 (.take 3 (.pure 4 (.pure 5 (.pure 6 (.take 7 (.pure 8 (.pure 9 (.pure 10 (.take 11 (.pure 12 (.pure 13 (.go 14 .done))))))))))))))) hmix (by kernel_rfl) ?_
            first | (refine plan_pure (v := ?_) rfl rfl ?_ ?_; rotate_left; (intro w'; go_simp <;> with_reducible rfl); (try simp only [Act.put, List.setIfInBounds_toArray, List.set_cons_zero, List.set_cons_succ, Int.toNat_natCast, Int.toNat_sub, Int.toNat_zero]))
            first | (refine plan_pure (v := ?_) rfl rfl ?_ ?_; rotate_left; (intro w'; go_simp <;> with_reducible rfl); (try simp only [Act.put, List.setIfInBounds_toArray, List.set_cons_zero, List.set_cons_succ, Int.toNat_natCast, Int.toNat_sub, Int.toNat_zero]))
            first | (refine plan_pure (v := ?_) rfl rfl ?_ ?_; rotate_left; (intro w'; go_simp <;> with_reducible rfl); (try simp only [Act.put, List.setIfInBounds_toArray, List.set_cons_zero, List.set_cons_succ, Int.toNat_natCast, Int.toNat_sub, Int.toNat_zero]))
            first | (refine plan_take (v := ?_) rfl hS rfl ?_ ?_; rotate_left; (intro w' hSw; (try dsimp only at hSw); go_simp <;> with_reducible rfl); (try simp only [Act.put, List.setIfInBounds_toArray, List.set_cons_zero, List.set_cons_succ, Int.toNat_natCast, Int.toNat_sub, Int.toNat_zero]))
            first | (refine plan_pure (v := ?_) rfl rfl ?_ ?_; rotate_left; (intro w'; go_simp <;> with_reducible rfl); (try simp only [Act.put, List.setIfInBounds_toArray, List.set_cons_zero, List.set_cons_succ, Int.toNat_natCast, Int.toNat_sub, Int.toNat_zero]))
            first | (refine plan_pure (v := ?_) rfl rfl ?_ ?_; rotate_left; (intro w'; go_simp <;> with_reducible rfl); (try simp only [Act.put, List.setIfInBounds_toArray, List.set_cons_zero, List.set_cons_succ, Int.toNat_natCast, Int.toNat_sub, Int.toNat_zero]))
            first | (refine plan_pure (v := ?_) rfl rfl ?_ ?_; rotate_left; (intro w'; go_simp <;> with_reducible rfl); (try simp only [Act.put, List.setIfInBounds_toArray, List.set_cons_zero, List.set_cons_succ, Int.toNat_natCast, Int.toNat_sub, Int.toNat_zero]))
            first | (refine plan_take (v := ?_) rfl hS rfl ?_ ?_; rotate_left; (intro w' hSw; (try dsimp only at hSw); go_simp <;> with_reducible rfl); (try simp only [Act.put, List.setIfInBounds_toArray, List.set_cons_zero, List.set_cons_succ, Int.toNat_natCast, Int.toNat_sub, Int.toNat_zero]))
            first | (refine plan_pure (v := ?_) rfl rfl ?_ ?_; rotate_left; (intro w'; go_simp <;> with_reducible rfl); (try simp only [Act.put, List.setIfInBounds_toArray, List.set_cons_zero, List.set_cons_succ, Int.toNat_natCast, Int.toNat_sub, Int.toNat_zero]))
            first | (refine plan_pure (v := ?_) rfl rfl ?_ ?_; rotate_left; (intro w'; go_simp <;> with_reducible rfl); (try simp only [Act.put, List.setIfInBounds_toArray, List.set_cons_zero, List.set_cons_succ, Int.toNat_natCast, Int.toNat_sub, Int.toNat_zero]))
            first | (refine plan_pure (v := ?_) rfl rfl ?_ ?_; rotate_left; (intro w'; go_simp <;> with_reducible rfl); (try simp only [Act.put, List.setIfInBounds_toArray, List.set_cons_zero, List.set_cons_succ, Int.toNat_natCast, Int.toNat_sub, Int.toNat_zero]))
            first | (refine plan_take (v := ?_) rfl hS rfl ?_ ?_; rotate_left; (intro w' hSw; (try dsimp only at hSw); go_simp <;> with_reducible rfl); (try simp only [Act.put, List.setIfInBounds_toArray, List.set_cons_zero, List.set_cons_succ, Int.toNat_natCast, Int.toNat_sub, Int.toNat_zero]))
            first | (refine plan_pure (v := ?_) rfl rfl ?_ ?_; rotate_left; (intro w'; go_simp <;> with_reducible rfl); (try simp only [Act.put, List.setIfInBounds_toArray, List.set_cons_zero, List.set_cons_succ, Int.toNat_natCast, Int.toNat_sub, Int.toNat_zero]))
            first | (refine plan_pure (v := ?_) rfl rfl ?_ ?_; rotate_left; (intro w'; go_simp <;> with_reducible rfl); (try simp only [Act.put, List.setIfInBounds_toArray, List.set_cons_zero, List.set_cons_succ, Int.toNat_natCast, Int.toNat_sub, Int.toNat_zero]))
            refine plan_go rfl (by kernel_rfl) rfl (fun K hK => ?_)
            go_simp; refine (setColor_c (f := 16) (b := 7) h7.drew.scr.rn.wr (by omega) (by omega) (by omega)).mono ?_; rintro e wz ⟨rfl, hW9, hF9⟩; refine hK _ _ ?_; clear hK K; (try simp only [Act.put, List.setIfInBounds_toArray, List.set_cons_zero, List.set_cons_succ, Int.toNat_natCast, Int.toNat_sub, Int.toNat_zero])
            refine plan_done ?_
            have hz := h7.drew.out hW9 hF9
            clear hW9 hF9 hS
            go_wp2_with (fail)
            go_meet
            exact hz.le (by omega)
          | false =>
            go_wp2_with (fail)
            have hS : (fun w' : World => w'.cell? ⟨r, 0, none⟩ = some (.iface 144 (.pointer (some ⟨o, 0, none⟩))) ∧ w'.cell? ⟨r, 18, none⟩ = some (.int .i64 1) ∧ w'.cell? ⟨r, 19, none⟩ = some (.int .i64 15)) w7.drew := ⟨h7.c0, h7.scr.rn.cold.c18, h7.scr.rn.cold.c19⟩
            refine wp_region_plan [3, 7, 11] [14] (fun w' : World => w'.cell? ⟨r, 0, none⟩ = some (.iface 144 (.pointer (some ⟨o, 0, none⟩))) ∧ w'.cell? ⟨r, 18, none⟩ = some (.int .i64 1) ∧ w'.cell? ⟨r, 19, none⟩ = some (.int .i64 15)) (.pure 0 (.pure 1 (.pure 2 (.take 3 (.pure 4 (.pure 5 (.pure 6 (.take 7 (.pure 8 (.pure 9 (.pure 10 (.take 11 (.pure 12 (.pure 13 (.go 14 .done))))))))))))))) hmix (by kernel_rfl) ?_
            first | (refine plan_pure (v := ?_) rfl rfl ?_ ?_; rotate_left; (intro w'; go_simp <;> with_reducible rfl); (try simp only [Act.put, List.setIfInBounds_toArray, List.set_cons_zero, List.set_cons_succ, Int.toNat_natCast, Int.toNat_sub, Int.toNat_zero]))
            first | (refine plan_pure (v := ?_) rfl rfl ?_ ?_; rotate_left; (intro w'; go_simp <;> with_reducible rfl); (try simp only [Act.put, List.setIfInBounds_toArray, List.set_cons_zero, List.set_cons_succ, Int.toNat_natCast, Int.toNat_sub, Int.toNat_zero]))
            first | (refine plan_pure (v := ?_) rfl rfl ?_ ?_; rotate_left; (intro w'; go_simp <;> with_reducible rfl); (try simp only [Act.put, List.setIfInBounds_toArray, List.set_cons_zero, List.set_cons_succ, Int.toNat_natCast, Int.toNat_sub, Int.toNat_zero]))
            first | (refine plan_take (v := ?_) rfl hS rfl ?_ ?_; rotate_left; (intro w' hSw; (try dsimp only at hSw); go_simp <;> with_reducible rfl); (try simp only [Act.put, List.setIfInBounds_toArray, List.set_cons_zero, List.set_cons_succ, Int.toNat_natCast, Int.toNat_sub, Int.toNat_zero]))
            first | (refine plan_pure (v := ?_) rfl rfl ?_ ?_; rotate_left; (intro w'; go_simp <;> with_reducible rfl); (try simp only [Act.put, List.setIfInBounds_toArray, List.set_cons_zero, List.set_cons_succ, Int.toNat_natCast, Int.toNat_sub, Int.toNat_zero]))
            first | (refine plan_pure (v := ?_) rfl rfl ?_ ?_; rotate_left; (intro w'; go_simp <;> with_reducible rfl); (try simp only [Act.put, List.setIfInBounds_toArray, List.set_cons_zero, List.set_cons_succ, Int.toNat_natCast, Int.toNat_sub, Int.toNat_zero]))
            first | (refine plan_pure (v := ?_) rfl rfl ?_ ?_; rotate_left; (intro w'; go_simp <;> with_reducible rfl); (try simp only [Act.put, List.setIfInBounds_toArray, List.set_cons_zero, List.set_cons_succ, Int.toNat_natCast, Int.toNat_sub, Int.toNat_zero]))
            first | (refine plan_take (v := ?_) rfl hS rfl ?_ ?_; rotate_left; (intro w' hSw; (try dsimp only at hSw); go_simp <;> with_reducible rfl); (try simp only [Act.put, List.setIfInBounds_toArray, List.set_cons_zero, List.set_cons_succ, Int.toNat_natCast, Int.toNat_sub, Int.toNat_zero]))
            first | (refine plan_pure (v := ?_) rfl rfl ?_ ?_; rotate_left; (intro w'; go_simp <;> with_reducible rfl); (try simp only [Act.put, List.setIfInBounds_toArray, List.set_cons_zero, List.set_cons_succ, Int.toNat_natCast, Int.toNat_sub, Int.toNat_zero]))
            first | (refine plan_pure (v := ?_) rfl rfl ?_ ?_; rotate_left; (intro w'; go_simp <;> with_reducible rfl); (try simp only [Act.put, List.setIfInBounds_toArray, List.set_cons_zero, List.set_cons_succ, Int.toNat_natCast, Int.toNat_sub, Int.toNat_zero]))
            first | (refine plan_pure (v := ?_) rfl rfl ?_ ?_; rotate_left; (intro w'; go_simp <;> with_reducible rfl); (try simp only [Act.put, List.setIfInBounds_toArray, List.set_cons_zero, List.set_cons_succ, Int.toNat_natCast, Int.toNat_sub, Int.toNat_zero]))
            first | (refine plan_take (v := ?_) rfl hS rfl ?_ ?_; rotate_left; (intro w' hSw; (try dsimp only at hSw); go_simp <;> with_reducible rfl); (try simp only [Act.put, List.setIfInBounds_toArray, List.set_cons_zero, List.set_cons_succ, Int.toNat_natCast, Int.toNat_sub, Int.toNat_zero]))
            first | (refine plan_pure (v := ?_) rfl rfl ?_ ?_; rotate_left; (intro w'; go_simp <;> with_reducible rfl); (try simp only [Act.put, List.setIfInBounds_toArray, List.set_cons_zero, List.set_cons_succ, Int.toNat_natCast, Int.toNat_sub, Int.toNat_zero]))
            first | (refine plan_pure (v := ?_) rfl rfl ?_ ?_; rotate_left; (intro w'; go_simp <;> with_reducible rfl); (try simp only [Act.put, List.setIfInBounds_toArray, List.set_cons_zero, List.set_cons_succ, Int.toNat_natCast, Int.toNat_sub, Int.toNat_zero]))
            refine plan_go rfl (by kernel_rfl) rfl (fun K hK => ?_)
            go_simp; refine (setColor_c (f := 1) (b := 15) h7.drew.scr.rn.wr (by omega) (by omega) (by omega)).mono ?_; rintro e wz ⟨rfl, hW9, hF9⟩; refine hK _ _ ?_; clear hK K; (try simp only [Act.put, List.setIfInBounds_toArray, List.set_cons_zero, List.set_cons_succ, Int.toNat_natCast, Int.toNat_sub, Int.toNat_zero])
            refine plan_done ?_
            have hz := h7.drew.out hW9 hF9
            clear hW9 hF9 hS
            go_wp2_with (fail)
            go_meet
            exact hz.le (by omega)
        case rest =>
        have h8 := hcut
        clear hcut h7
        go_wp2_with (fail)
        have hS : (fun w' : World => w'.cell? ⟨r, 0, none⟩ = some (.iface 144 (.pointer (some ⟨o, 0, none⟩))) ∧ w'.cell? ⟨g, v * 2 + i * 2 + 1, none⟩ = some (.string t2)) wc.drew := ⟨h8.c0, HT2.out _ h8.pb⟩
        refine wp_region_plan [3, 8] [11] (fun w' : World => w'.cell? ⟨r, 0, none⟩ = some (.iface 144 (.pointer (some ⟨o, 0, none⟩))) ∧ w'.cell? ⟨g, v * 2 + i * 2 + 1, none⟩ = some (.string t2)) (.pure 0 (.pure 1 (.pure 2 (.take 3 (.pure 4 (.pure 5 (.pure 6 (.pure 7 (.take 8 (.pure 9 (.pure 10 (.go 11 .done)))))))))))) hmix (by kernel_rfl) ?_
        first | (refine plan_pure (v := ?_) rfl rfl ?_ ?_; rotate_left; (intro w'; go_simp <;> with_reducible rfl); (try simp only [Act.put, List.setIfInBounds_toArray, List.set_cons_zero, List.set_cons_succ, Int.toNat_natCast, Int.toNat_sub, Int.toNat_zero]))
        first | (refine plan_pure (v := ?_) rfl rfl ?_ ?_; rotate_left; (intro w'; go_simp <;> with_reducible rfl); (try simp only [Act.put, List.setIfInBounds_toArray, List.set_cons_zero, List.set_cons_succ, Int.toNat_natCast, Int.toNat_sub, Int.toNat_zero]))
        first | (refine plan_pure (v := ?_) rfl rfl ?_ ?_; rotate_left; (intro w'; go_simp <;> with_reducible rfl); (try simp only [Act.put, List.setIfInBounds_toArray, List.set_cons_zero, List.set_cons_succ, Int.toNat_natCast, Int.toNat_sub, Int.toNat_zero]))
        first | (refine plan_take (v := ?_) rfl hS rfl ?_ ?_; rotate_left; (intro w' hSw; (try dsimp only at hSw); go_simp <;> with_reducible rfl); (try simp only [Act.put, List.setIfInBounds_toArray, List.set_cons_zero, List.set_cons_succ, Int.toNat_natCast, Int.toNat_sub, Int.toNat_zero]))
        first | (refine plan_pure (v := ?_) rfl rfl ?_ ?_; rotate_left; (intro w'; go_simp <;> with_reducible rfl); (try simp only [Act.put, List.setIfInBounds_toArray, List.set_cons_zero, List.set_cons_succ, Int.toNat_natCast, Int.toNat_sub, Int.toNat_zero]))
        first | (refine plan_pure (v := ?_) rfl rfl ?_ ?_; rotate_left; (intro w'; go_simp <;> with_reducible rfl); (try simp only [Act.put, List.setIfInBounds_toArray, List.set_cons_zero, List.set_cons_succ, Int.toNat_natCast, Int.toNat_sub, Int.toNat_zero]))
        first | (refine plan_pure (v := ?_) rfl rfl ?_ ?_; rotate_left; (intro w'; go_simp <;> with_reducible rfl); (try simp only [Act.put, List.setIfInBounds_toArray, List.set_cons_zero, List.set_cons_succ, Int.toNat_natCast, Int.toNat_sub, Int.toNat_zero]))
        first | (refine plan_pure (v := ?_) rfl rfl ?_ ?_; rotate_left; (intro w'; go_simp <;> with_reducible rfl); (try simp only [Act.put, List.setIfInBounds_toArray, List.set_cons_zero, List.set_cons_succ, Int.toNat_natCast, Int.toNat_sub, Int.toNat_zero]))
        first | (refine plan_take (v := ?_) rfl hS rfl ?_ ?_; rotate_left; (intro w' hSw; (try dsimp only at hSw); go_simp <;> with_reducible rfl); (try simp only [Act.put, List.setIfInBounds_toArray, List.set_cons_zero, List.set_cons_succ, Int.toNat_natCast, Int.toNat_sub, Int.toNat_zero]))
        first | (refine plan_pure (v := ?_) rfl rfl ?_ ?_; rotate_left; (intro w'; go_simp <;> with_reducible rfl); (try simp only [Act.put, List.setIfInBounds_toArray, List.set_cons_zero, List.set_cons_succ, Int.toNat_natCast, Int.toNat_sub, Int.toNat_zero]))
        first | (refine plan_pure (v := ?_) rfl rfl ?_ ?_; rotate_left; (intro w'; go_simp <;> with_reducible rfl); (try simp only [Act.put, List.setIfInBounds_toArray, List.set_cons_zero, List.set_cons_succ, Int.toNat_natCast, Int.toNat_sub, Int.toNat_zero]))
        refine plan_go rfl (by kernel_rfl) rfl (fun K hK => ?_)
        go_simp; refine (writeStr_c h8.drew.scr.rn.wr HQ.out.2.2.1.noEsc (by have := HQ.out; omega)).mono ?_; rintro e w9 ⟨rfl, hW9, hF9⟩; refine hK _ _ ?_; clear hK K; (try simp only [Act.put, List.setIfInBounds_toArray, List.set_cons_zero, List.set_cons_succ, Int.toNat_natCast, Int.toNat_sub, Int.toNat_zero])
        refine plan_done ?_
        have h9 := (h8.drew.out hW9 hF9).le (show _ ≤ m4 + 470 by have := HQ.out; omega)
        clear hW9 hF9 hS
        clear h8
        have q1 := h9.b1.c1.1
        have q2 := h9.b2.c1.1
        go_wp2_with (fail)
        refine (thumb_c (i : Int) q2 q1).mono ?_
        rintro e wa ⟨⟨B2, rfl⟩, rfl⟩
        clear q1 q2
        go_upto_if 257 with (fail)
        go_cut [] from 255 to 279 (fun wx => RD base w r o b L c pre cols t k q sel v tmp g fs P1 P2 zh zt (m4 + 500) wx)
        case first =>
          cases B2 with
          | true =>
            go_wp2_with (fail)
            have hS : (fun w' : World => w'.cell? ⟨r, 0, none⟩ = some (.iface 144 (.pointer (some ⟨o, 0, none⟩))) ∧ w'.cell? ⟨r, 22, none⟩ = some (.int .i64 9)) w9.drew := ⟨h9.c0, h9.scr.rn.cold.c22⟩
            refine wp_region_plan [3, 7] [10] (fun w' : World => w'.cell? ⟨r, 0, none⟩ = some (.iface 144 (.pointer (some ⟨o, 0, none⟩))) ∧ w'.cell? ⟨r, 22, none⟩ = some (.int .i64 9)) (.pure 0 (.pure 1 (.pure 2 (.take 3 (.pure 4 (.pure 5 (.pure 6 (.take 7 (.pure 8 (.pure 9 (.go 10 .done))))))))))) hmix (by kernel_rfl) ?_
            first | (refine plan_pure (v := ?_) rfl rfl ?_ ?_; rotate_left; (intro w'; go_simp <;> with_reducible rfl); (try simp only [Act.put, List.setIfInBounds_toArray, List.set_cons_zero, List.set_cons_succ, Int.toNat_natCast, Int.toNat_sub, Int.toNat_zero]))
            first | (refine plan_pure (v := ?_) rfl rfl ?_ ?_; rotate_left; (intro w'; go_simp <;> with_reducible rfl); (try simp only [Act.put, List.setIfInBounds_toArray, List.set_cons_zero, List.set_cons_succ, Int.toNat_natCast, Int.toNat_sub, Int.toNat_zero]))
            first | (refine plan_pure (v := ?_) rfl rfl ?_ ?_; rotate_left; (intro w'; go_simp <;> with_reducible rfl); (try simp only [Act.put, List.setIfInBounds_toArray, List.set_cons_zero, List.set_cons_succ, Int.toNat_natCast, Int.toNat_sub, Int.toNat_zero]))
            first | (refine plan_take (v := ?_) rfl hS rfl ?_ ?_; rotate_left; (intro w' hSw; (try dsimp only at hSw); go_simp <;> with_reducible rfl); (try simp only [Act.put, List.setIfInBounds_toArray, List.set_cons_zero, List.set_cons_succ, Int.toNat_natCast, Int.toNat_sub, Int.toNat_zero]))
            first | (refine plan_pure (v := ?_) rfl rfl ?_ ?_; rotate_left; (intro w'; go_simp <;> with_reducible rfl); (try simp only [Act.put, List.setIfInBounds_toArray, List.set_cons_zero, List.set_cons_succ, Int.toNat_natCast, Int.toNat_sub, Int.toNat_zero]))
            first | (refine plan_pure (v := ?_) rfl rfl ?_ ?_; rotate_left; (intro w'; go_simp <;> with_reducible rfl); (try simp only [Act.put, List.setIfInBounds_toArray, List.set_cons_zero, List.set_cons_succ, Int.toNat_natCast, Int.toNat_sub, Int.toNat_zero]))
            first | (refine plan_pure (v := ?_) rfl rfl ?_ ?_; rotate_left; (intro w'; go_simp <;> with_reducible rfl); (try simp only [Act.put, List.setIfInBounds_toArray, List.set_cons_zero, List.set_cons_succ, Int.toNat_natCast, Int.toNat_sub, Int.toNat_zero]))
            first | (refine plan_take (v := ?_) rfl hS rfl ?_ ?_; rotate_left; (intro w' hSw; (try dsimp only at hSw); go_simp <;> with_reducible rfl); (try simp only [Act.put, List.setIfInBounds_toArray, List.set_cons_zero, List.set_cons_succ, Int.toNat_natCast, Int.toNat_sub, Int.toNat_zero]))
            first | (refine plan_pure (v := ?_) rfl rfl ?_ ?_; rotate_left; (intro w'; go_simp <;> with_reducible rfl); (try simp only [Act.put, List.setIfInBounds_toArray, List.set_cons_zero, List.set_cons_succ, Int.toNat_natCast, Int.toNat_sub, Int.toNat_zero]))
            first | (refine plan_pure (v := ?_) rfl rfl ?_ ?_; rotate_left; (intro w'; go_simp <;> with_reducible rfl); (try simp only [Act.put, List.setIfInBounds_toArray, List.set_cons_zero, List.set_cons_succ, Int.toNat_natCast, Int.toNat_sub, Int.toNat_zero]))
            refine plan_go rfl (by kernel_rfl) rfl (fun K hK => ?_)
            go_simp; refine (setColor_c (f := 0) (b := 9) h9.drew.scr.rn.wr (by omega) (by omega) (by omega)).mono ?_; rintro e wz ⟨rfl, hW9, hF9⟩; refine hK _ _ ?_; clear hK K; (try simp only [Act.put, List.setIfInBounds_toArray, List.set_cons_zero, List.set_cons_succ, Int.toNat_natCast, Int.toNat_sub, Int.toNat_zero])
            refine plan_done ?_
            have hz := h9.drew.out hW9 hF9
            clear hW9 hF9 hS
            go_wp2_with (fail)
            go_meet
            exact hz.le (by omega)
          | false =>
            go_wp2_with (fail)
            have hS : (fun w' : World => w'.cell? ⟨r, 0, none⟩ = some (.iface 144 (.pointer (some ⟨o, 0, none⟩))) ∧ w'.cell? ⟨r, 23, none⟩ = some (.int .i64 7)) w9.drew := ⟨h9.c0, h9.scr.rn.cold.c23⟩
            refine wp_region_plan [3, 7] [10] (fun w' : World => w'.cell? ⟨r, 0, none⟩ = some (.iface 144 (.pointer (some ⟨o, 0, none⟩))) ∧ w'.cell? ⟨r, 23, none⟩ = some (.int .i64 7)) (.pure 0 (.pure 1 (.pure 2 (.take 3 (.pure 4 (.pure 5 (.pure 6 (.take 7 (.pure 8 (.pure 9 (.go 10 .done))))))))))) hmix (by kernel_rfl) ?_
            first | (refine plan_pure (v := ?_) rfl rfl ?_ ?_; rotate_left; (intro w'; go_simp <;> with_reducible rfl); (try simp only [Act.put, List.setIfInBounds_toArray, List.set_cons_zero, List.set_cons_succ, Int.toNat_natCast, Int.toNat_sub, Int.toNat_zero]))
            first | (refine plan_pure (v := ?_) rfl rfl ?_ ?_; rotate_left; (intro w'; go_simp <;> with_reducible rfl); (try simp only [Act.put, List.setIfInBounds_toArray, List.set_cons_zero, List.set_cons_succ, Int.toNat_natCast, Int.toNat_sub, Int.toNat_zero]))
            first | (refine plan_pure (v := ?_) rfl rfl ?_ ?_; rotate_left; (intro w'; go_simp <;> with_reducible rfl); (try simp only [Act.put, List.setIfInBounds_toArray, List.set_cons_zero, List.set_cons_succ, Int.toNat_natCast, Int.toNat_sub, Int.toNat_zero]))
            first | (refine plan_take (v := ?_) rfl hS rfl ?_ ?_; rotate_left; (intro w' hSw; (try dsimp only at hSw); go_simp <;> with_reducible rfl); (try simp only [Act.put, List.setIfInBounds_toArray, List.set_cons_zero, List.set_cons_succ, Int.toNat_natCast, Int.toNat_sub, Int.toNat_zero]))
            first | (refine plan_pure (v := ?_) rfl rfl ?_ ?_; rotate_left; (intro w'; go_simp <;> with_reducible rfl); (try simp only [Act.put, List.setIfInBounds_toArray, List.set_cons_zero, List.set_cons_succ, Int.toNat_natCast, Int.toNat_sub, Int.toNat_zero]))
            first | (refine plan_pure (v := ?_) rfl rfl ?_ ?_; rotate_left; (intro w'; go_simp <;> with_reducible rfl); (try simp only [Act.put, List.setIfInBounds_toArray, List.set_cons_zero, List.set_cons_succ, Int.toNat_natCast, Int.toNat_sub, Int.toNat_zero]))
            first | (refine plan_pure (v := ?_) rfl rfl ?_ ?_; rotate_left; (intro w'; go_simp <;> with_reducible rfl); (try simp only [Act.put, List.setIfInBounds_toArray, List.set_cons_zero, List.set_cons_succ, Int.toNat_natCast, Int.toNat_sub, Int.toNat_zero]))
            first | (refine plan_take (v := ?_) rfl hS rfl ?_ ?_; rotate_left; (intro w' hSw; (try dsimp only at hSw); go_simp <;> with_reducible rfl); (try simp only [Act.put, List.setIfInBounds_toArray, List.set_cons_zero, List.set_cons_succ, Int.toNat_natCast, Int.toNat_sub, Int.toNat_zero]))
            first | (refine plan_pure (v := ?_) rfl rfl ?_ ?_; rotate_left; (intro w'; go_simp <;> with_reducible rfl); (try simp only [Act.put, List.setIfInBounds_toArray, List.set_cons_zero, List.set_cons_succ, Int.toNat_natCast, Int.toNat_sub, Int.toNat_zero]))
            first | (refine plan_pure (v := ?_) rfl rfl ?_ ?_; rotate_left; (intro w'; go_simp <;> with_reducible rfl); (try simp only [Act.put, List.setIfInBounds_toArray, List.set_cons_zero, List.set_cons_succ, Int.toNat_natCast, Int.toNat_sub, Int.toNat_zero]))
            refine plan_go rfl (by kernel_rfl) rfl (fun K hK => ?_)
            go_simp; refine (setColor_c (f := 0) (b := 7) h9.drew.scr.rn.wr (by omega) (by omega) (by omega)).mono ?_; rintro e wz ⟨rfl, hW9, hF9⟩; refine hK _ _ ?_; clear hK K; (try simp only [Act.put, List.setIfInBounds_toArray, List.set_cons_zero, List.set_cons_succ, Int.toNat_natCast, Int.toNat_sub, Int.toNat_zero])
            refine plan_done ?_
            have hz := h9.drew.out hW9 hF9
            clear hW9 hF9 hS
            go_wp2_with (fail)
            go_meet
            exact hz.le (by omega)
        case rest =>
        have ha := hcut
        clear hcut h9
        have c0 := ha.c0
        have rlt := ha.rlt
        go_wp2_with (fail)
        refine (writeStr_c (t := sp1) ha.scr.rn.wr sp1_prn.noEsc (by show _ + 1 ≤ _; omega)).mono ?_
        rintro e wb ⟨rfl, hWb, hFb⟩
        have hb := (ha.out hWb hFb).le (show _ ≤ m4 + 501 by show m4 + 500 + 1 ≤ _; omega)
        clear ha c0 rlt hWb hFb
        have c0 := hb.c0
        have rlt := hb.rlt
        go_wp2_with (fail)
        refine (setColor_c (f := 0) (b := 0) hb.scr.rn.wr (by omega) (by omega) (by omega)).mono ?_
        rintro e wd ⟨rfl, hWd, hFd⟩
        have hd := hb.out hWd hFd
        clear hb c0 rlt hWd hFd
        obtain ⟨CW, hCW⟩ : ∃ CW, cu + WW = CW := ⟨_, rfl⟩
        have hcw : (cu : Int) + WW = CW := by omega
        have hCW2 : CW ≤ 1300 ∧ WW ≤ CW := by omega
        clear hCW
        go_wp2_with (fail)
        refine (lineWrap_c hd.scr.rn hc1 hc2 CW (by omega) (by omega)).mono ?_
        rintro e we ⟨rfl, hRe, hFe⟩
        have he := hd.outR hRe hFe
        clear hd hRe hFe
        go_wp2_with (fail)
        refine (backward_c he.scr.rn hc1 hc2 CW WW (by omega) hCW2.2 (by omega)).mono ?_
        rintro e wf ⟨rfl, hRf, hFf⟩
        have hf := he.outR hRf hFf
        clear he hRf hFf hcw
        go_wp2_with (fail)
        go_roundw
        case rel => exact ⟨i + 1, by omega, by simp, hf.le (by have := HM4.out; omega)⟩
        case measure => simp [intOf]; omega
      · have d1 : decide ((i : Int) < wh) = false := by simpa using hlt
        have d2 : ¬ (i : Int) < wh := by omega
        obtain ⟨m5, hm5⟩ : ∃ m5, m5 = n3 + 1000 * wh := ⟨_, rfl⟩
        replace h4 := h4.le (show _ ≤ m5 by rw [hm5]; have : i ≤ wh := hi; omega)
        have hm5b : m5 ≤ n + 15000 := by omega
        clear hm5
        obtain ⟨XW, hXW⟩ : ∃ XW, x + WW = XW := ⟨_, rfl⟩
        have hXW2 : XW ≤ 240 := by omega
        have HXW := Lib.hid hXW
        clear hXW
        have c6 := h4.c6
        have rlt := h4.rlt
        go_upto_if 309 with (fail)
        go_cut [] from 309 to 325 (fun wx => RD base w r o b L c pre cols t k q sel v tmp g fs P1 P2 zh zt (m5 + 10) wx)
        case first =>
          by_cases hge : cols ≤ XW
          · have g1 : decide ((cols : Int) ≤ (x : Int) + WW) = true := by have := HXW.out; simp; omega
            have g2 : (cols : Int) ≤ (x : Int) + WW := by have := HXW.out; omega
            obtain ⟨BB, hBB⟩ : ∃ BB, XW - cols = BB := ⟨_, rfl⟩
            have hB3 : m5 + 10 ≤ 1000000000 := by omega
            have hB0 := wrapX HXW.out hge hBB hXW2 (by have := HXW.out; omega)
            clear hBB hge
            obtain ⟨hB1, hB2, hsX, hsB⟩ := hB0
            go_wp2_with (fail)
            have hS : (fun w' : World => w'.cell? ⟨r, 0, none⟩ = some (.iface 144 (.pointer (some ⟨o, 0, none⟩))) ∧ w'.cell? ⟨r, 6, none⟩ = some (.int .u16 cols)) wr.drew := ⟨h4.c0, h4.c6⟩
            refine wp_region_plan [3, 10, 11] [15] (fun w' : World => w'.cell? ⟨r, 0, none⟩ = some (.iface 144 (.pointer (some ⟨o, 0, none⟩))) ∧ w'.cell? ⟨r, 6, none⟩ = some (.int .u16 cols)) (.pure 0 (.pure 1 (.pure 2 (.take 3 (.pure 4 (.pure 5 (.pure 6 (.pure 7 (.pure 8 (.pure 9 (.take 10 (.take 11 (.pure 12 (.pure 13 (.pure 14 (.go 15 .done)))))))))))))))) hmix (by kernel_rfl) ?_
            first | (refine plan_pure (v := ?_) rfl rfl ?_ ?_; rotate_left; (intro w'; go_simp <;> with_reducible rfl); (try simp only [Act.put, List.setIfInBounds_toArray, List.set_cons_zero, List.set_cons_succ, Int.toNat_natCast, Int.toNat_sub, Int.toNat_zero]))
            first | (refine plan_pure (v := ?_) rfl rfl ?_ ?_; rotate_left; (intro w'; go_simp <;> with_reducible rfl); (try simp only [Act.put, List.setIfInBounds_toArray, List.set_cons_zero, List.set_cons_succ, Int.toNat_natCast, Int.toNat_sub, Int.toNat_zero]))
            first | (refine plan_pure (v := ?_) rfl rfl ?_ ?_; rotate_left; (intro w'; go_simp <;> with_reducible rfl); (try simp only [Act.put, List.setIfInBounds_toArray, List.set_cons_zero, List.set_cons_succ, Int.toNat_natCast, Int.toNat_sub, Int.toNat_zero]))
            first | (refine plan_take (v := ?_) rfl hS rfl ?_ ?_; rotate_left; (intro w' hSw; (try dsimp only at hSw); go_simp <;> with_reducible rfl); (try simp only [Act.put, List.setIfInBounds_toArray, List.set_cons_zero, List.set_cons_succ, Int.toNat_natCast, Int.toNat_sub, Int.toNat_zero]))
            first | (refine plan_pure (v := ?_) rfl rfl ?_ ?_; rotate_left; (intro w'; go_simp <;> with_reducible rfl); (try simp only [Act.put, List.setIfInBounds_toArray, List.set_cons_zero, List.set_cons_succ, Int.toNat_natCast, Int.toNat_sub, Int.toNat_zero]))
            first | (refine plan_pure (v := ?_) rfl rfl ?_ ?_; rotate_left; (intro w'; go_simp <;> with_reducible rfl); (try simp only [Act.put, List.setIfInBounds_toArray, List.set_cons_zero, List.set_cons_succ, Int.toNat_natCast, Int.toNat_sub, Int.toNat_zero]))
            first | (refine plan_pure (v := ?_) rfl rfl ?_ ?_; rotate_left; (intro w'; go_simp <;> with_reducible rfl); (try simp only [Act.put, List.setIfInBounds_toArray, List.set_cons_zero, List.set_cons_succ, Int.toNat_natCast, Int.toNat_sub, Int.toNat_zero]))
            first | (refine plan_pure (v := ?_) rfl rfl ?_ ?_; rotate_left; (intro w'; go_simp <;> with_reducible rfl); (try simp only [Act.put, List.setIfInBounds_toArray, List.set_cons_zero, List.set_cons_succ, Int.toNat_natCast, Int.toNat_sub, Int.toNat_zero]))
            first | (refine plan_pure (v := ?_) rfl rfl ?_ ?_; rotate_left; (intro w'; go_simp <;> with_reducible rfl); (try simp only [Act.put, List.setIfInBounds_toArray, List.set_cons_zero, List.set_cons_succ, Int.toNat_natCast, Int.toNat_sub, Int.toNat_zero]))
            first | (refine plan_pure (v := ?_) rfl rfl ?_ ?_; rotate_left; (intro w'; go_simp <;> with_reducible rfl); (try simp only [Act.put, List.setIfInBounds_toArray, List.set_cons_zero, List.set_cons_succ, Int.toNat_natCast, Int.toNat_sub, Int.toNat_zero]))
            first | (refine plan_take (v := ?_) rfl hS rfl ?_ ?_; rotate_left; (intro w' hSw; (try dsimp only at hSw); go_simp <;> with_reducible rfl); (try simp only [Act.put, List.setIfInBounds_toArray, List.set_cons_zero, List.set_cons_succ, Int.toNat_natCast, Int.toNat_sub, Int.toNat_zero]))
            first | (refine plan_take (v := ?_) rfl hS rfl ?_ ?_; rotate_left; (intro w' hSw; (try dsimp only at hSw); go_simp <;> with_reducible rfl); (try simp only [Act.put, List.setIfInBounds_toArray, List.set_cons_zero, List.set_cons_succ, Int.toNat_natCast, Int.toNat_sub, Int.toNat_zero]))
            first | (refine plan_pure (v := ?_) rfl rfl ?_ ?_; rotate_left; (intro w'; go_simp <;> with_reducible rfl); (try simp only [Act.put, List.setIfInBounds_toArray, List.set_cons_zero, List.set_cons_succ, Int.toNat_natCast, Int.toNat_sub, Int.toNat_zero]))
            first | (refine plan_pure (v := ?_) rfl rfl ?_ ?_; rotate_left; (intro w'; go_simp <;> with_reducible rfl); (try simp only [Act.put, List.setIfInBounds_toArray, List.set_cons_zero, List.set_cons_succ, Int.toNat_natCast, Int.toNat_sub, Int.toNat_zero]))
            first | (refine plan_pure (v := ?_) rfl rfl ?_ ?_; rotate_left; (intro w'; go_simp <;> with_reducible rfl); (try simp only [Act.put, List.setIfInBounds_toArray, List.set_cons_zero, List.set_cons_succ, Int.toNat_natCast, Int.toNat_sub, Int.toNat_zero]))
            refine plan_go rfl (by kernel_rfl) rfl (fun K hK => ?_)
            go_simp; refine (fwd_c h4.drew.scr.rn.wr (BB : Int) hB1 hB2 hB3).mono ?_; rintro e wz ⟨rfl, hW9, hF9⟩; refine hK _ _ ?_; clear hK K; (try simp only [Act.put, List.setIfInBounds_toArray, List.set_cons_zero, List.set_cons_succ, Int.toNat_natCast, Int.toNat_sub, Int.toNat_zero])
            refine plan_done ?_
            have hz := h4.drew.out hW9 hF9
            clear hW9 hF9 hS
            go_wp2_with (fail)
            go_meet
            exact hz
          · have g1 : decide ((cols : Int) ≤ (x : Int) + WW) = false := by have := HXW.out; simp; omega
            have g2 : ¬ (cols : Int) ≤ (x : Int) + WW := by have := HXW.out; omega
            go_wp2_with (fail)
            go_meet
            exact h4.le (by omega)
        case rest =>
        have h5 := hcut
        clear hcut h4 c6 rlt
        have c0 := h5.c0
        have rlt := h5.rlt
        go_wp2_with (fail)
        refine (up_c h5.scr.rn.wr (wh : Int) (by omega) (by omega) (by omega)).mono ?_
        rintro e w6 ⟨rfl, hW6, hF6⟩
        have h6 := h5.out hW6 hF6
        clear h5 c0 rlt hW6 hF6
        have c0 := h6.c0
        have rlt := h6.rlt
        go_wp2_with (fail)
        refine (setColor_c (f := 0) (b := 0) h6.scr.rn.wr (by omega) (by omega) (by omega)).mono ?_
        rintro e w7 ⟨rfl, hW7, hF7⟩
        have h7 := h6.out hW7 hF7
        clear h6 c0 rlt hW7 hF7
        go_wp2_with (fail)
        go_end0
        exact ⟨rfl, h7.scr.le (by omega), h7.fr⟩
end Go.Proofs.YtiepopbmbgfhkaaGreat
