/-
  Texts in columns: Repeat, deleteBreakLineCharacters, Truncate, FillRight.
  formatTexts: texts in a column.
-/
import Derived.Test.YtiepopbmbgfhkaaGreatQ11
import Derived.Laws.Bits64b
import Derived.Test.YtiepopbmbgfhkaaGreatQ17
namespace Go.Proofs.YtiepopbmbgfhkaaGreat
open Go.RowKit
set_option maxHeartbeats 1000000
set_option maxRecDepth 20000
set_option linter.unusedVariables false
set_option linter.unusedSimpArgs false

theorem mul64_c (k : Nat) (hk : k ≤ 200) (w : World) : Calls Tryz.prog 193 #[.int .u64 1, .int .u64 k] w fun e w' => e = .returned (.tuple #[.int .u64 0, .int .u64 k]) ∧ w = w' := by
  have h1 : bits .and .u64 (1 : Int) 4294967295 = 1 := by kernel_rfl
  have h0 : bits .and .u64 (0 : Int) 4294967295 = 0 := by kernel_rfl
  have h2 : bits .and .u64 (k : Int) 4294967295 = k := by
    have h := bits_and_u64_nat k 4294967295 (by omega) (by omega)
    have e : k &&& 4294967295 = k % 4294967296 := Nat.and_two_pow_sub_one_eq_mod k 32
    rw [e, Nat.mod_eq_of_lt (by omega)] at h
    exact h
  have h3 : (k : Int) / 4294967296 = 0 := by omega
  have h4 : IntKind.u64.wrap (k : Int) = k := by rw [IntKind.wrap_u64]; omega
  have h5 : IntKind.u64.wrap (0 : Int) = 0 := by rw [IntKind.wrap_u64]; omega
  go_enter Tryz.func193, Tryz.ntmps193
  go_wp2
  go_ret2
  exact ⟨rfl, rfl⟩
theorem mul_c (k : Nat) (hk : k ≤ 200) (w : World) : Calls Tryz.prog 184 #[.int .u64 1, .int .u64 k] w fun e w' => e = .returned (.tuple #[.int .u64 0, .int .u64 k]) ∧ w = w' := by
  have h4 : IntKind.u64.wrap (k : Int) = k := by rw [IntKind.wrap_u64]; omega
  go_enter Tryz.func184, Tryz.ntmps184
  go_wp2_with (fail)
  refine (mul64_c k hk w).mono ?_
  rintro e w1 ⟨rfl, rfl⟩
  go_wp2
  go_ret2
  exact ⟨rfl, rfl⟩

/-- Blanks. -/
def blanks (k : Nat) : ByteArray := ⟨(List.replicate k 32).toArray⟩
theorem blanks_size (k : Nat) : (blanks k).size = k := by show (List.replicate k (32 : UInt8)).toArray.size = k; simp
theorem blanks_prn (k : Nat) : Prn (blanks k) := fun i hi => by
  have : (blanks k)[i] = 32 := by
    have hi' : i < (List.replicate k (32 : UInt8)).toArray.size := hi
    show (List.replicate k (32 : UInt8)).toArray[i] = 32
    simp
  rw [this]; decide
theorem blanks_cut (X : ByteArray) (k : Nat) (hk : k ≤ 128) (hX : X = blanks 128) : X.extract 0 k = blanks k := by
  subst hX
  apply ByteArray.ext
  rw [ByteArray.data_extract]
  unfold blanks
  apply Array.ext'
  simp only [Array.toList_extract, List.extract_eq_take_drop, List.drop_zero, Nat.sub_zero, List.take_replicate]
  rw [Nat.min_eq_left hk]
theorem repeat_c (k : Nat) (hk : k ≤ 120) (w : World) : Calls Tryz.prog 175 #[.string ⟨#[32]⟩, .int .i64 k] w fun e w' => e = .returned (.string (blanks k)) ∧ w = w' := by
  by_cases k0 : k = 0
  · subst k0
    go_enter Tryz.func175, Tryz.ntmps175
    go_wp2
    go_ret
    exact ⟨rfl, rfl⟩
  by_cases k1 : k = 1
  · subst k1
    go_enter Tryz.func175, Tryz.ntmps175
    go_wp2
    go_ret
    exact ⟨rfl, rfl⟩
  have h4 : IntKind.u64.wrap (k : Int) = k := by rw [IntKind.wrap_u64]; omega
  have h5 : IntKind.i64.wrap (k : Int) = k := wrap_in (by omega) (by omega)
  obtain ⟨e0, -⟩ := int_ne (a := (k : Int)) (b := 0) (by omega)
  obtain ⟨e1, -⟩ := int_ne (a := (k : Int)) (b := 1) (by omega)
  have d1 : decide ((k : Int) < 0) = false := by simp
  have d2 : decide ((9223372036854775807 : Int) < k) = false := by simp; omega
  have d3 : decide ((k : Int) ≤ 128) = true := by simp; omega
  go_enter Tryz.func175, Tryz.ntmps175
  go_wp2_with (fail)
  refine (mul_c k (by omega) w).mono ?_
  rintro e w1 ⟨rfl, rfl⟩
  go_wp2_with (fail)
  refine (((hasPrefix_c _ _ ?_ ?_ w).mono (fun e w' hh => (show e = .returned (.bool true) ∧ w = w' from ⟨hh.1.trans (by kernel_rfl), hh.2⟩)))).mono ?_
  · decide
  · decide
  rintro e w1 ⟨rfl, rfl⟩
  go_wp2_with (fail)
  go_ret
  refine ⟨congrArg (fun x => Ending.returned (Value.string x)) (blanks_cut _ k (by omega) ?_), rfl⟩
  kernel_rfl

theorem empty_pre : ∀ t : ByteArray, t ++ .empty = t := fun t => by simp

theorem prn_no {t : ByteArray} (h : Prn t) (c : UInt8) (hc : c.toNat < 32) : ∀ i (h : i < t.size), t[i] ≠ c := fun i hi e => by
  have := (h i hi).1
  rw [e] at this
  omega
theorem delBreak_c (t : ByteArray) (ht : Prn t) (hs : t.size ≤ 1000000) (w : World) : Calls Tryz.prog 174 #[.string t] w fun e w' => e = .returned (.string t) ∧ Fr 0 [] [] w w' := by
  go_enter Tryz.func174, Tryz.ntmps174
  go_wp2_with (fail)
  refine (replace_c t 10 .empty (by omega) (prn_no ht 10 (by decide)) _).mono ?_
  rintro e w1 ⟨rfl, hF1⟩
  go_wp2_with (fail)
  refine (replace_c t 13 .empty (by omega) (prn_no ht 13 (by decide)) _).mono ?_
  rintro e w2 ⟨rfl, hF2⟩
  go_wp2
  go_ret
  exact ⟨rfl, hF1.trans hF2⟩

def dots : ByteArray := ⟨#[46, 46, 46]⟩
theorem dots_prn : Prn dots := fun i hi => by
  have : dots.size = 3 := rfl
  have h9 : ∀ j (h : j < 3), 32 ≤ (#[46, 46, 46] : Array UInt8)[j].toNat ∧ (#[46, 46, 46] : Array UInt8)[j].toNat < 127 := by decide
  exact h9 i (by omega)

/-- A text that is too long for its column. -/
theorem trunc_c (s : ByteArray) (hp : Prn s) (hs : s.size ≤ 1000) (k : Nat) (hk : 3 ≤ k) (hks : k < s.size) (w : World) :
    Calls Tryz.prog 176 #[.string s, .int .i64 k, .string dots] w fun e w' => e = .returned (.string (s.extract 0 (k - 3) ++ dots)) ∧ Fr 0 [] [] w w' := by
  have d1 : decide ((s.size : Int) ≤ k) = false := by simp; omega
  have hk3 : (k : Int) - 3 = ((k - 3 : Nat) : Int) := by omega
  obtain ⟨m, hm⟩ : ∃ m, k - 3 = m := ⟨_, rfl⟩
  rw [hm] at hk3
  have hms : m + 3 < s.size := by omega
  rw [hm]
  clear hm
  have hds : dots.size = 3 := rfl
  go_enter Tryz.func176, Tryz.ntmps176
  go_wp2_with (fail)
  refine (width_c s hp (by omega) w).mono ?_
  rintro e w1 ⟨rfl, hF1⟩
  go_wp2_with (fail)
  refine (width_c dots dots_prn (by decide) w1).mono ?_
  rintro e w2 ⟨rfl, hF2⟩
  have hF := hF1.trans hF2
  clear hF1 hF2
  go_wp2_with (fail)
  go_loopw [7] (fun v7 w' => ∃ pos : Nat, pos ≤ m ∧ w' = w2.iter s pos ∧ v7 = .int .i64 pos) (fun _ w' => s.size - w'.iterPos w2.heap.size)
  case atStart => exact ⟨0, by omega, rfl, rfl⟩
  case round =>
    obtain ⟨pos, hpos, rfl, rfl⟩ := hrel
    have hlt : pos < s.size := by omega
    have hp1 := hp pos hlt
    have hnx : ∀ ty, (Instr.next (.pointer (some ⟨w2.heap.size, 0, none⟩)) true ty).run Tryz.prog (w2.iter s pos) = _ := fun ty => run_next_ascii w2 s pos ty hlt (by omega)
    by_cases hm : pos < m
    · have d2 : decide ((m : Int) < (pos : Int) + 1) = false := by simp; omega
      go_wp2_with (fail)
      refine (runeWidth_c _ (by exact Int.ofNat_le.2 hp1.1) (by exact Int.ofNat_lt.2 hp1.2) _).mono ?_
      rintro e w' ⟨rfl, rfl⟩
      go_wp2_with (fail)
      refine (runeWidth_c _ (by exact Int.ofNat_le.2 hp1.1) (by exact Int.ofNat_lt.2 hp1.2) _).mono ?_
      rintro e w' ⟨rfl, rfl⟩
      go_wp2_with (fail)
      go_roundw
      case rel => exact ⟨pos + 1, by omega, rfl, by go_num⟩
      case measure => simp; omega
    · have e : pos = m := by omega
      subst e
      have d2 : decide ((pos : Int) < (pos : Int) + 1) = true := by simp; omega
      go_wp2_with (fail)
      refine (runeWidth_c _ (by exact Int.ofNat_le.2 hp1.1) (by exact Int.ofNat_lt.2 hp1.2) _).mono ?_
      rintro e w' ⟨rfl, rfl⟩
      go_wp2_with (fail)
      go_ret
      exact ⟨rfl, hF.trans (iter_fr _ _ _ _ _ _)⟩

theorem fill_c (s : ByteArray) (hp : Prn s) (hs : s.size ≤ 1000) (k : Nat) (hk : k ≤ s.size) (w : World) :
    Calls Tryz.prog 177 #[.string s, .int .i64 k] w fun e w' => e = .returned (.string s) ∧ Fr 0 [] [] w w' := by
  have d1 : decide ((s.size : Int) < k) = false := by simp; omega
  go_enter Tryz.func177, Tryz.ntmps177
  go_wp2_with (fail)
  refine (width_c s hp (by omega) w).mono ?_
  rintro e w1 ⟨rfl, hF1⟩
  go_wp2_with (fail)
  go_loopw [0, 5] (fun v0 v5 w' => v0 = .string s ∧ v5 = .int .i64 s.size ∧ w' = w1) (fun _ _ _ => 0)
  case atStart => exact ⟨rfl, rfl, rfl⟩
  case round =>
    obtain ⟨rfl, rfl, rfl⟩ := hrel
    go_wp2_with (fail)
    go_ret
    exact ⟨rfl, hF1⟩
end Go.Proofs.YtiepopbmbgfhkaaGreat

namespace Go.Proofs.YtiepopbmbgfhkaaGreat
open Go.RowKit
set_option maxHeartbeats 4000000
set_option maxRecDepth 20000
set_option linter.unusedVariables false
set_option linter.unusedSimpArgs false

def sp1 : ByteArray := ⟨#[32]⟩
theorem sp1_prn : Prn sp1 := fun i hi => by
  have : sp1.size = 1 := rfl
  have h9 : ∀ j (h : j < 1), 32 ≤ (#[32] : Array UInt8)[j].toNat ∧ (#[32] : Array UInt8)[j].toNat < 127 := by decide
  exact h9 i (by omega)

/-- Texts as they stand in a column. -/
def Col (ys : List ByteArray) (n : Nat) : Prop := ys.length = n ∧ ∀ y ∈ ys, Prn y ∧ y.size ≤ 200
theorem Col.set {ys : List ByteArray} {n : Nat} (h : Col ys n) (i : Nat) {t : ByteArray} (ht : Prn t) (hs : t.size ≤ 200) : Col (ys.set i t) n :=
  ⟨by simpa using h.1, fun y hy => by
    rcases List.mem_or_eq_of_mem_set hy with h9 | rfl
    · exact h.2 y h9
    · exact ⟨ht, hs⟩⟩
theorem col_empty (n : Nat) : Col (List.replicate n .empty) n :=
  ⟨by simp, fun y hy => by
    obtain ⟨-, rfl⟩ := List.mem_replicate.1 hy
    exact ⟨(fun i h => absurd h (by simp)), by decide⟩⟩

/-- What formatTexts leaves. -/
def FmtPost (xs : List ByteArray) (n g : Nat) (max : Int) (w : World) (e : Ending) (w' : World) : Prop :=
  ∃ (g' : Nat) (c : Nat) (ys : List ByteArray) (W : Nat), e = .returned (.tuple #[.slice (some ⟨g', 0, none⟩) n c, .int .i64 W]) ∧ SRow w' g' (.slice (some ⟨g', 0, none⟩) n c) ys ∧ Col ys n ∧ w.heap.size ≤ g' ∧ (W = 0 ∨ (W : Int) ≤ max) ∧ W ≤ 120 ∧
    (5 < max → (∃ i, ∃ h : i < xs.length, xs[i].size ≠ 0) → W ≠ 0) ∧ Fr 0 [] [g] w w'

theorem formatTexts_c {w : World} {g cap : Nat} {xs : List ByteArray} (max : Int) (h : SRow w g (.slice (some ⟨g, 0, none⟩) xs.length cap) xs) (hx : ∀ x ∈ xs, Prn x ∧ x.size ≤ 100) (hl : xs.length ≤ 1000) (hm : max ≤ 120) (hm0 : -1000 ≤ max) :
    Calls Tryz.prog 143 #[.slice (some ⟨g, 0, none⟩) xs.length cap, .int .i64 max, .string sp1, .string sp1] w (FmtPost xs xs.length g max w) := by
  obtain ⟨N, hN⟩ : ∃ N, w.heap.size = N := ⟨_, rfl⟩
  have hgN : g < N := by have := h.lt; omega
  have hgN2 : g ≠ N := by omega
  go_enter Tryz.func143, Tryz.ntmps143
  go_wp2_with (first | (refine wpList_plain rfl (fun K hK => ?_); refine wp_makes xs.length _ _ rfl rfl rfl (by omega) ?_; intro w1 hS1 hF1 hlt1; refine hK _ _ ?_; clear hK K))
  rw [hN] at hS1
  refine (width_c sp1 sp1_prn (by decide) _).mono ?_
  rintro e w2 ⟨rfl, hF2⟩
  go_wp2_with (fail)
  refine (width_c sp1 sp1_prn (by decide) _).mono ?_
  rintro e w3 ⟨rfl, hF3⟩
  go_wp2_with (fail)
  refine (width_c dots dots_prn (by decide) _).mono ?_
  rintro e w4 ⟨rfl, hF4⟩
  have hF14 := (hF2.trans hF3).trans hF4
  have hS4 := hS1.fr0 hF14
  have hG4 := (h.fr0 hF1).fr0 hF14
  have hFr4 : Fr 0 [] [g] w w4 := hF1.any.ext hF14
  have hsp : sp1.size = 1 := rfl
  have hds : dots.size = 3 := rfl
  clear hF1 hF2 hF3 hF4 hF14 hS1 hlt1
  go_wp2_with (fail)
  go_loopw [9, 16, 17] (fun v9 v16 v17 w' => ∃ i W : Nat, i ≤ xs.length ∧ v16 = .int .i64 i ∧ v9 = .int .i64 W ∧ W ≤ 100 ∧ (∀ j (hj : j < xs.length), j < i → xs[j].size ≤ W) ∧ SRow w' g (.slice (some ⟨g, 0, none⟩) xs.length cap) xs ∧ SRow w' N (.slice (some ⟨N, 0, none⟩) xs.length xs.length) (List.replicate xs.length .empty) ∧ Fr 0 [] [g] w w') (fun _ v16 _ _ => xs.length - (intOf v16).toNat)
  case atStart => exact ⟨0, 0, by omega, rfl, rfl, by omega, (fun j hj hj0 => by omega), hG4, hS4, hFr4⟩
  clear hS4 hG4 hFr4 h
  obtain ⟨i, W, hi, rfl, rfl, hW, hmx, hG, hS, hF⟩ := hrel
  by_cases hlt : i < xs.length
  · have d1 : decide ((i : Int) < xs.length) = true := by simpa using hlt
    have d2 : (i : Int) < xs.length := by omega
    obtain ⟨e1, e2⟩ := hG.get i hlt
    have hxi := hx _ (List.getElem_mem hlt)
    obtain ⟨t, ht⟩ : ∃ t, xs[i] = t := ⟨_, rfl⟩
    have hset : xs.set i t = xs := by rw [← ht]; simp
    have HT := Lib.hid ht
    rw [ht] at e1 hxi
    clear ht
    have HX := Lib.hid hxi
    clear hxi
    go_wp2_with (fail)
    refine (delBreak_c t HX.out.1 (by have := HX.out.2; omega) _).mono ?_
    rintro e w5 ⟨rfl, hF5⟩
    have hG5 := hG.fr0 hF5
    have hS5 := hS.fr0 hF5
    obtain ⟨e3, e4⟩ := hG5.get i hlt
    have glt := hG5.lt
    have hG6 := hG5.set i t
    rw [hset] at hG6
    have hfs : Fr 0 [] [g] w5 (w5.setCell ⟨g, i, none⟩ (.string t)) := (Fr.refl _ _ _ _).setCell (Nat.zero_le _) (.inl (by simp)) _
    have hS6 := hS5.fr hfs (.inr ⟨by simp; omega, by simp⟩)
    have hF6 : Fr 0 [] [g] w (w5.setCell ⟨g, i, none⟩ (.string t)) := (hF.ext hF5).trans hfs
    clear hset e1 e2 hF5 hG5 hS5 hfs
    obtain ⟨W6, hW6⟩ : ∃ W6, w5.setCell ⟨g, i, none⟩ (.string t) = W6 := ⟨_, rfl⟩
    rw [hW6] at hG6 hS6 hF6
    obtain ⟨e5, e6⟩ := hG6.get i hlt
    rw [HT.out] at e5
    go_wp2_with (fail)
    refine (width_c t HX.out.1 (by have := HX.out.2; omega) _).mono ?_
    rintro e w7 ⟨rfl, hF7⟩
    have hG7 := hG6.fr0 hF7
    have hS7 := hS6.fr0 hF7
    have hF07 := hF6.ext hF7
    clear hG6 hS6 hF6 hF7 hG hS hF
    by_cases hWt : W < t.size
    · have d3 : decide ((W : Int) < t.size) = true := by simpa using hWt
      go_wp2_with (fail)
      go_roundw
      case rel =>
        refine ⟨i + 1, t.size, by omega, by simp, rfl, HX.out.2, fun j hj hj1 => ?_, hG7, hS7, hF07⟩
        by_cases e : j = i
        · subst e; rw [HT.out]; exact Nat.le_refl _
        · have := hmx j hj (by omega); omega
      case measure => simp [intOf]; omega
    · have d3 : decide ((W : Int) < t.size) = false := by simpa using hWt
      go_wp2_with (fail)
      go_roundw
      case rel =>
        refine ⟨i + 1, W, by omega, by simp, rfl, hW, fun j hj hj1 => ?_, hG7, hS7, hF07⟩
        by_cases e : j = i
        · subst e; rw [HT.out]; omega
        · exact hmx j hj (by omega)
      case measure => simp [intOf]; omega
  · have d1 : decide ((i : Int) < xs.length) = false := by simpa using hlt
    have d2 : ¬ (i : Int) < xs.length := by omega
    have HM := Lib.hid (show ∀ j (hj : j < xs.length), xs[j].size ≤ W from fun j hj => hmx j hj (by omega))
    clear hmx
    by_cases hW0 : W = 0
    · subst hW0
      go_wp2_with (fail)
      go_ret2
      refine ⟨N, xs.length, _, 0, rfl, hS, col_empty _, by omega, .inl rfl, by omega, fun _ ⟨j, hj, hj0⟩ => ?_, hF⟩
      have := HM.out j hj
      omega
    · have d3 : ((W : Int) == 0) = false := (int_ne (by omega)).1
      by_cases hm5 : max ≤ 5
      · have d4 : decide (max ≤ 5) = true := by simpa using hm5
        go_wp2_with (fail)
        go_ret2
        exact ⟨N, xs.length, _, 0, rfl, hS, col_empty _, by omega, .inl rfl, by omega, fun h9 _ => by omega, hF⟩
      · have d4 : decide (max ≤ 5) = false := by simpa using hm5
        obtain ⟨MX, rfl⟩ : ∃ MX : Nat, max = MX := ⟨max.toNat, by omega⟩
        by_cases hbig : MX < 1 + W + 1
        · have d5 : decide ((MX : Int) < 1 + (W : Int) + 1) = true := by simp; omega
          have hk : (MX : Int) - 1 - 1 = ((MX - 2 : Nat) : Int) := by omega
          obtain ⟨C, hC⟩ : ∃ C, MX - 2 = C := ⟨_, rfl⟩
          rw [hC] at hk
          have hC2 : 4 ≤ C ∧ C + 2 ≤ MX ∧ C ≤ 100 := by omega
          clear hC
          go_wp2_with (fail)
          go_loopw [18] (fun v18 w' => ∃ (i : Nat) (ys : List ByteArray), i ≤ xs.length ∧ v18 = .int .i64 i ∧ Col ys xs.length ∧ SRow w' g (.slice (some ⟨g, 0, none⟩) xs.length cap) xs ∧ SRow w' N (.slice (some ⟨N, 0, none⟩) xs.length xs.length) ys ∧ Fr 0 [] [g] w w') (fun v18 _ => xs.length - (intOf v18).toNat)
          case atStart => exact ⟨0, _, by omega, rfl, col_empty _, hG, hS, hF⟩
          clear hG hS hF hlt d1 d2 hi
          obtain ⟨i, ys, hi, rfl, hC, hG, hS, hF⟩ := hrel
          by_cases hlt : i < xs.length
          · have d1 : decide ((i : Int) < xs.length) = true := by simpa using hlt
            have d2 : (i : Int) < xs.length := by omega
            obtain ⟨e1, e2⟩ := hG.get i hlt
            have hxi := hx _ (List.getElem_mem hlt)
            obtain ⟨t, ht⟩ : ∃ t, xs[i] = t := ⟨_, rfl⟩
            have hMt := HM.out i hlt
            rw [ht] at e1 hxi hMt
            clear ht
            have HX := Lib.hid hxi
            clear hxi
            go_wp2_with (fail)
            refine (width_c t HX.out.1 (by have := HX.out.2; omega) _).mono ?_
            rintro e w5 ⟨rfl, hF5⟩
            have hG5 := hG.fr0 hF5
            have hS5 := hS.fr0 hF5
            have hF05 := hF.ext hF5
            have e5 := hF5.cell0 e1
            clear hG hS hF hF5 e1 e2
            by_cases hxc : t.size ≤ C
            · have d3 : decide ((t.size : Int) ≤ C) = true := by simpa using hxc
              have hD : (C : Int) - t.size = ((C - t.size : Nat) : Int) := by omega
              obtain ⟨D, hDe⟩ : ∃ D, C - t.size = D := ⟨_, rfl⟩
              rw [hDe] at hD
              have hD2 : D ≤ 100 := by omega
              clear hDe
              go_wp2_with (fail)
              refine (repeat_c D (by omega) _).mono ?_
              rintro e w6 ⟨rfl, rfl⟩
              obtain ⟨e3, e4⟩ := hS5.get i (by rw [hC.1]; exact hlt)
              have slt := hS5.lt
              go_wp2_with (first | (refine wpList_plain rfl (fun K hK => ?_); refine wp_of_exec (ex_add rfl rfl rfl ?_) ?_; (have := HX.out.2; simp only [ByteArray.size_append, blanks_size]; omega); refine hK _ _ ?_; clear hK K))
              go_roundw
              case rel =>
                have hfs : Fr 0 [] [N] w5 (w5.setCell ⟨N, i, none⟩ (.string (sp1 ++ t ++ blanks D ++ sp1))) := (Fr.refl _ _ _ _).setCell (Nat.zero_le _) (.inl (by simp)) _
                refine ⟨i + 1, ys.set i (sp1 ++ t ++ blanks D ++ sp1), by omega, by simp, hC.set i (prn_append (prn_append (prn_append sp1_prn HX.out.1) (blanks_prn D)) sp1_prn) ?_, hG5.fr hfs (.inr ⟨by simpa using hgN2, by simp⟩), hS5.set i _, hF05.setCell (a := ⟨N, i, none⟩) (Nat.zero_le _) (.inr (.inl (by show w.heap.size ≤ N; omega))) _⟩
                have := HX.out.2
                simp only [ByteArray.size_append, blanks_size]; omega
              case measure => simp [intOf]; omega
            · have d3 : decide ((t.size : Int) ≤ C) = false := by simpa using hxc
              have d4 : decide ((C : Int) < t.size) = true := by simp; omega
              have hTs : (t.extract 0 (C - 3) ++ dots).size = C := by simp only [ByteArray.size_append, ByteArray.size_extract]; omega
              have hTp : Prn (t.extract 0 (C - 3) ++ dots) := prn_append (HX.out.1.extract _ _) dots_prn
              have htr := trunc_c t HX.out.1 (by have := HX.out.2; omega) C (by omega) (by omega) w5
              obtain ⟨T, hT⟩ : ∃ T, t.extract 0 (C - 3) ++ dots = T := ⟨_, rfl⟩
              rw [hT] at hTs hTp htr
              clear hT
              go_wp2_with (fail)
              refine htr.mono ?_
              rintro e w6 ⟨rfl, hF6⟩
              clear htr
              have hG6 := hG5.fr0 hF6
              have hS6 := hS5.fr0 hF6
              have hF06 := hF05.ext hF6
              clear hG5 hS5 hF05 hF6 e5
              go_wp2_with (fail)
              refine (fill_c T hTp (by omega) C (by omega) w6).mono ?_
              rintro e w7 ⟨rfl, hF7⟩
              have hG7 := hG6.fr0 hF7
              have hS7 := hS6.fr0 hF7
              have hF07 := hF06.ext hF7
              clear hG6 hS6 hF06 hF7
              obtain ⟨e3, e4⟩ := hS7.get i (by rw [hC.1]; exact hlt)
              have slt := hS7.lt
              go_wp2_with (first | (refine wpList_plain rfl (fun K hK => ?_); refine wp_of_exec (ex_add rfl rfl rfl ?_) ?_; (simp only [ByteArray.size_append]; omega); refine hK _ _ ?_; clear hK K))
              go_roundw
              case rel =>
                have hfs : Fr 0 [] [N] w7 (w7.setCell ⟨N, i, none⟩ (.string (sp1 ++ T ++ sp1))) := (Fr.refl _ _ _ _).setCell (Nat.zero_le _) (.inl (by simp)) _
                refine ⟨i + 1, ys.set i (sp1 ++ T ++ sp1), by omega, by simp, hC.set i (prn_append (prn_append sp1_prn hTp) sp1_prn) ?_, hG7.fr hfs (.inr ⟨by simpa using hgN2, by simp⟩), hS7.set i _, hF07.setCell (a := ⟨N, i, none⟩) (Nat.zero_le _) (.inr (.inl (by show w.heap.size ≤ N; omega))) _⟩
                simp only [ByteArray.size_append]; omega
              case measure => simp [intOf]; omega
          · have d1 : decide ((i : Int) < xs.length) = false := by simpa using hlt
            have d2 : ¬ (i : Int) < xs.length := by omega
            go_wp2_with (fail)
            go_ret2
            refine ⟨N, xs.length, ys, C + 2, ?_, hS, hC, by omega, .inr (by omega), by omega, fun _ _ => by omega, hF⟩
            have e9 : ((C + 2 : Nat) : Int) = 1 + (C : Int) + 1 := by omega
            rw [e9]
            rfl
        · have d5 : decide ((MX : Int) < 1 + (W : Int) + 1) = false := by simp; omega
          go_wp2_with (fail)
          go_loopw [18] (fun v18 w' => ∃ (i : Nat) (ys : List ByteArray), i ≤ xs.length ∧ v18 = .int .i64 i ∧ Col ys xs.length ∧ SRow w' g (.slice (some ⟨g, 0, none⟩) xs.length cap) xs ∧ SRow w' N (.slice (some ⟨N, 0, none⟩) xs.length xs.length) ys ∧ Fr 0 [] [g] w w') (fun v18 _ => xs.length - (intOf v18).toNat)
          case atStart => exact ⟨0, _, by omega, rfl, col_empty _, hG, hS, hF⟩
          clear hG hS hF hlt d1 d2 hi
          obtain ⟨i, ys, hi, rfl, hC, hG, hS, hF⟩ := hrel
          by_cases hlt : i < xs.length
          · have d1 : decide ((i : Int) < xs.length) = true := by simpa using hlt
            have d2 : (i : Int) < xs.length := by omega
            obtain ⟨e1, e2⟩ := hG.get i hlt
            have hxi := hx _ (List.getElem_mem hlt)
            obtain ⟨t, ht⟩ : ∃ t, xs[i] = t := ⟨_, rfl⟩
            have hMt := HM.out i hlt
            rw [ht] at e1 hxi hMt
            clear ht
            have HX := Lib.hid hxi
            clear hxi
            go_wp2_with (fail)
            refine (width_c t HX.out.1 (by have := HX.out.2; omega) _).mono ?_
            rintro e w5 ⟨rfl, hF5⟩
            have hG5 := hG.fr0 hF5
            have hS5 := hS.fr0 hF5
            have hF05 := hF.ext hF5
            have e5 := hF5.cell0 e1
            clear hG hS hF hF5 e1 e2
            by_cases hxc : t.size ≤ W
            · have d3 : decide ((t.size : Int) ≤ W) = true := by simpa using hxc
              have hD : (W : Int) - t.size = ((W - t.size : Nat) : Int) := by omega
              obtain ⟨D, hDe⟩ : ∃ D, W - t.size = D := ⟨_, rfl⟩
              rw [hDe] at hD
              have hD2 : D ≤ 100 := by omega
              clear hDe
              go_wp2_with (fail)
              refine (repeat_c D (by omega) _).mono ?_
              rintro e w6 ⟨rfl, rfl⟩
              obtain ⟨e3, e4⟩ := hS5.get i (by rw [hC.1]; exact hlt)
              have slt := hS5.lt
              go_wp2_with (first | (refine wpList_plain rfl (fun K hK => ?_); refine wp_of_exec (ex_add rfl rfl rfl ?_) ?_; (have := HX.out.2; simp only [ByteArray.size_append, blanks_size]; omega); refine hK _ _ ?_; clear hK K))
              go_roundw
              case rel =>
                have hfs : Fr 0 [] [N] w5 (w5.setCell ⟨N, i, none⟩ (.string (sp1 ++ t ++ blanks D ++ sp1))) := (Fr.refl _ _ _ _).setCell (Nat.zero_le _) (.inl (by simp)) _
                refine ⟨i + 1, ys.set i (sp1 ++ t ++ blanks D ++ sp1), by omega, by simp, hC.set i (prn_append (prn_append (prn_append sp1_prn HX.out.1) (blanks_prn D)) sp1_prn) ?_, hG5.fr hfs (.inr ⟨by simpa using hgN2, by simp⟩), hS5.set i _, hF05.setCell (a := ⟨N, i, none⟩) (Nat.zero_le _) (.inr (.inl (by show w.heap.size ≤ N; omega))) _⟩
                have := HX.out.2
                simp only [ByteArray.size_append, blanks_size]; omega
              case measure => simp [intOf]; omega
            · exact absurd hMt hxc
          · have d1 : decide ((i : Int) < xs.length) = false := by simpa using hlt
            have d2 : ¬ (i : Int) < xs.length := by omega
            go_wp2_with (fail)
            go_ret2
            refine ⟨N, xs.length, ys, W + 2, ?_, hS, hC, by omega, .inr (by omega), by omega, fun _ _ => by omega, hF⟩
            have e9 : ((W + 2 : Nat) : Int) = 1 + (W : Int) + 1 := by omega
            rw [e9]
            rfl

theorem formatTexts_n {w : World} {g cap n : Nat} {xs : List ByteArray} (hn : xs.length = n) (max : Int) (h : SRow w g (.slice (some ⟨g, 0, none⟩) n cap) xs) (hx : ∀ x ∈ xs, Prn x ∧ x.size ≤ 100) (hl : n ≤ 1000) (hm : max ≤ 120) (hm0 : -1000 ≤ max) :
    Calls Tryz.prog 143 #[.slice (some ⟨g, 0, none⟩) n cap, .int .i64 max, .string sp1, .string sp1] w (FmtPost xs n g max w) := by
  subst hn
  exact formatTexts_c max h hx hl hm hm0
end Go.Proofs.YtiepopbmbgfhkaaGreat
