/-
  The set's player: what stands around a cursor.
  The set's player: the last sign of a set.
  The set's documents of one line: how far a cursor goes; where a word begins.
-/
import Derived.Test.YtiepopbmbgfhkaaGreatQ11
import Derived.Test.YtiepopbmbgfhkaaGreatQ34
namespace Go.Proofs.YtiepopbmbgfhkaaGreat
open Go.RowKit
set_option maxHeartbeats 2000000
set_option maxRecDepth 20000
set_option linter.unusedVariables false
set_option linter.unusedSimpArgs false

theorem sCount_c (t : ByteArray) (ht : Prn t) (hs : t.size ≤ 1000000) (w : World) : Calls Tryz.prog 53 #[.string t] w fun e w' => e = .returned (.int .i64 t.size) ∧ Fr 0 [] [] w w' := by
  have ha := ht.asc
  have hs' : t.size ≤ 70368744177664 := by omega
  go_enter Tryz.func53, Tryz.ntmps53
  go_wp2_with (first | (refine wpList_plain rfl (fun K hK => ?_); refine wp_runes _ _ rfl rfl ha hs' ?_; intro rb rc w1 hcap hB hF; refine hK _ _ ?_; clear hK K; skip))
  go_ret
  exact ⟨rfl, hF⟩
theorem sBefore_c (t : ByteArray) (k : Nat) (ht : Prn t) (hs : t.size ≤ 1000000) (hk : k ≤ t.size) (w : World) : Calls Tryz.prog 103 #[.agg #[.string t, .int .i64 k]] w fun e w' => e = .returned (.string (t.extract 0 k)) ∧ Fr 0 [] [] w w' := by
  have ha := ht.asc
  have hs' : t.size ≤ 70368744177664 := by omega
  have hB0 : Blk (w.alloc (.cells #[.string t, .int .i64 k] 61)) w.heap.size #[.string t, .int .i64 k] 61 := Blk.new _ _ _
  go_enter Tryz.func103, Tryz.ntmps103
  go_wp2_with (first | (refine wpList_plain rfl (fun K hK => ?_); refine wp_runes _ _ rfl rfl ha hs' ?_; intro rb rc w1 hcap hB hF; refine hK _ _ ?_; clear hK K; have hB2 := hF.blk0 hB0; obtain ⟨g0, g1, -, -⟩ := hB2.c2; have glt := hB2.lt) | (refine wpList_plain rfl (fun K hK => ?_); refine wp_runesTo _ _ _ _ _ _ rfl rfl rfl ?_ ?_ ?_; omega; omega; refine hK _ _ ?_; clear hK K) | (refine wpList_plain rfl (fun K hK => ?_); refine wp_textOf _ _ _ _ _ _ rfl rfl hB ha ?_ ?_ hcap ?_; omega; omega; refine hK _ _ ?_; clear hK K))
  go_ret
  exact ⟨rfl, ((Fr.refl 0 [] [] w).alloc _).trans hF⟩
theorem sAfter_c (t : ByteArray) (k : Nat) (ht : Prn t) (hs : t.size ≤ 1000000) (hk : k ≤ t.size) (w : World) : Calls Tryz.prog 98 #[.agg #[.string t, .int .i64 k]] w fun e w' => e = .returned (.string (t.extract k t.size)) ∧ Fr 0 [] [] w w' := by
  have ha := ht.asc
  have hs' : t.size ≤ 70368744177664 := by omega
  have hB0 : Blk (w.alloc (.cells #[.string t, .int .i64 k] 61)) w.heap.size #[.string t, .int .i64 k] 61 := Blk.new _ _ _
  go_enter Tryz.func98, Tryz.ntmps98
  go_wp2_with (first | (refine wpList_plain rfl (fun K hK => ?_); refine wp_runes _ _ rfl rfl ha hs' ?_; intro rb rc w1 hcap hB hF; refine hK _ _ ?_; clear hK K; have hB2 := hF.blk0 hB0; obtain ⟨g0, g1, -, -⟩ := hB2.c2; have glt := hB2.lt) | (refine wpList_plain rfl (fun K hK => ?_); refine wp_runesFrom _ _ _ _ _ _ rfl rfl rfl ?_ ?_ ?_; omega; omega; refine hK _ _ ?_; clear hK K) | (refine wpList_plain rfl (fun K hK => ?_); refine wp_textOf _ _ _ _ _ _ rfl rfl hB ha ?_ ?_ hcap ?_; omega; omega; refine hK _ _ ?_; clear hK K))
  go_ret
  exact ⟨rfl, ((Fr.refl 0 [] [] w).alloc _).trans hF⟩
end Go.Proofs.YtiepopbmbgfhkaaGreat

namespace Go.Proofs.YtiepopbmbgfhkaaGreat
open Go.RowKit
set_option maxHeartbeats 2000000
set_option maxRecDepth 20000
set_option linter.unusedVariables false
set_option linter.unusedSimpArgs false

theorem hasByte_c (set : ByteArray) (hz : set.size ≤ 1000000000) (c : UInt8) (w : World) : Calls Tryz.prog 139 #[.string set, .int .u8 (c.toNat : Int)] w fun e w' => e = .returned (.bool (inSet set c)) ∧ w = w' := by
  go_enter Tryz.func139, Tryz.ntmps139
  go_wp2_with (fail)
  go_loopw [5] (fun v5 w' => ∃ i : Nat, i ≤ set.size ∧ v5 = .int .i64 i ∧ w' = w ∧ Hid (inSetTo set c i = false)) (fun v5 _ => set.size - (intOf v5).toNat)
  case atStart => exact ⟨0, by omega, rfl, rfl, show inSetTo set c 0 = false from rfl⟩
  obtain ⟨i, hi, rfl, rfl, hno⟩ := hrel
  by_cases hlt : i < set.size
  · have d1 : decide ((i : Int) < set.size) = true := by simpa using hlt
    have d2 : (i : Int) < set.size := by omega
    by_cases hc : set[i] = c
    · have hcc : ((set[i].toNat : Int) == (c.toNat : Int)) = true := by simp [hc]
      have hr : inSet set c = true := by
        unfold inSet; rw [List.any_eq_true]
        exact ⟨set[i], Array.getElem_mem_toList (xs := set.data) hlt, by simp [hc]⟩
      have HR := Lib.hid hr
      clear hr hc
      go_wp2_with (fail)
      go_ret
      exact ⟨by rw [HR.out]; rfl, rfl⟩
    · obtain ⟨hcc, -⟩ := int_ne (a := (set[i].toNat : Int)) (b := (c.toNat : Int)) (fun e => hc (UInt8.toNat_inj.1 (by omega)))
      have hr : inSetTo set c (i + 1) = false := by rw [inSetTo_succ _ _ _ hlt, hno.out]; simp [hc]
      have HR := Lib.hid hr
      clear hr hc
      go_wp2_with (fail)
      go_roundw
      case rel => exact ⟨i + 1, by omega, by simp, by first | rfl | trivial, HR.out⟩
      case measure => simp [intOf]; omega
  · have d1 : decide ((i : Int) < set.size) = false := by simpa using hlt
    have d2 : ¬ (i : Int) < set.size := by omega
    have hr : inSet set c = false := by rw [← inSetTo_all set c i (by omega)]; exact hno.out
    have HR := Lib.hid hr
    clear hr
    go_wp2_with (fail)
    go_ret
    exact ⟨by rw [HR.out]; rfl, rfl⟩

theorem sLast_c (s set : ByteArray) (hs : s.size ≤ 1000000000) (hz : set.size ≤ 1000000000) (w : World) : Calls Tryz.prog 104 #[.string s, .string set, .bool false] w fun e w' => e = .returned (.int .i64 (lastIx (inSet set) s s.size)) ∧ w = w' := by
  go_enter Tryz.func104, Tryz.ntmps104
  go_wp2_with (fail)
  go_loopw [7] (fun v7 w' => ∃ k : Nat, k ≤ s.size ∧ v7 = .int .i64 ((k : Int) - 1) ∧ w' = w ∧ Hid (lastIx (inSet set) s s.size = lastIx (inSet set) s k)) (fun v7 _ => (intOf v7 + 1).toNat)
  case atStart => exact ⟨s.size, Nat.le_refl _, rfl, rfl, rfl⟩
  obtain ⟨k, hk, rfl, rfl, hH⟩ := hrel
  cases k with
  | zero =>
    have hr : lastIx (inSet set) s s.size = -1 := hH.out
    have hR := Lib.hid hr
    clear hH hr
    rw [show (((0 : Nat) : Int) - 1) = -1 by omega]
    go_wp2_with (fail)
    go_ret
    exact ⟨by rw [hR.out]; rfl, rfl⟩
  | succ m =>
    have hm : m < s.size := by omega
    have hm2 : (m : Int) < s.size := by omega
    rw [show (((m + 1 : Nat) : Int) - 1) = (m : Int) by omega]
    obtain ⟨B, hB⟩ : ∃ B, inSet set s[m] = B := ⟨_, rfl⟩
    have hb := hasByte_c set hz s[m]
    rw [hB] at hb
    cases B with
    | true =>
      have hr : lastIx (inSet set) s s.size = (m : Int) := by
        rw [hH.out]; unfold lastIx; rw [getD_lt hm]; simp [hB]
      have hR := Lib.hid hr
      clear hH hr hB
      go_wp2_with (fail)
      refine (hb _).mono ?_
      rintro e w1 ⟨rfl, rfl⟩
      go_wp2_with (fail)
      go_ret
      exact ⟨by rw [hR.out]; rfl, rfl⟩
    | false =>
      have hr : lastIx (inSet set) s s.size = lastIx (inSet set) s m := by
        rw [hH.out]; conv => lhs; unfold lastIx
        rw [getD_lt hm]; simp [hB]
      have hR := Lib.hid hr
      clear hH hr hB
      go_wp2_with (fail)
      refine (hb _).mono ?_
      rintro e w1 ⟨rfl, rfl⟩
      go_wp2_with (fail)
      go_roundw
      case rel => exact ⟨m, by omega, rfl, by first | rfl | trivial, hR⟩
      case measure => simp [intOf]
end Go.Proofs.YtiepopbmbgfhkaaGreat

namespace Go.Proofs.YtiepopbmbgfhkaaGreat
open Go.RowKit
set_option maxHeartbeats 4000000
set_option maxRecDepth 20000
set_option linter.unusedVariables false
set_option linter.unusedSimpArgs false

def nlT : ByteArray := ⟨#[10]⟩
def blT : ByteArray := ⟨#[32]⟩
theorem inSet_nl {c : UInt8} (h : 32 ≤ c.toNat) : inSet nlT c = false := by
  have : c ≠ 10 := fun e => by rw [e] at h; simp at h
  simp [inSet, nlT]
  exact fun e => this e.symm
theorem lastIx_none (p : UInt8 → Bool) (s : ByteArray) : ∀ n, (∀ j, j < n → p (s.data.getD j 0) = false) → lastIx p s n = -1
  | 0, _ => rfl
  | n + 1, h => by
    unfold lastIx
    rw [if_neg (by rw [h n (by omega)]; simp)]
    exact lastIx_none p s n (fun j hj => h j (by omega))
theorem last_nl {t : ByteArray} (ht : Prn t) : lastIx (inSet nlT) t t.size = -1 :=
  lastIx_none _ _ _ fun j hj => by rw [getD_lt hj]; exact inSet_nl (ht j hj).1

/-- No line ends behind. -/
theorem first_c (t : ByteArray) (ht : Prn t) (hs : t.size ≤ 1000000) (w : World) : Calls Tryz.prog 172 #[.string t, .string ⟨#[10]⟩, .bool false] w fun e w' => e = .returned (.int .i64 (-1)) ∧ w = w' := by
  go_enter Tryz.func172, Tryz.ntmps172
  go_wp2_with (fail)
  go_loopw [7] (fun v7 w' => ∃ i : Nat, i ≤ t.size ∧ v7 = .int .i64 i ∧ w' = w) (fun v7 _ => t.size - (intOf v7).toNat)
  case atStart => exact ⟨0, by omega, rfl, rfl⟩
  obtain ⟨i, hi, rfl, rfl⟩ := hrel
  by_cases hlt : i < t.size
  · have d1 : decide ((i : Int) < t.size) = true := by simpa using hlt
    have d2 : (i : Int) < t.size := by omega
    have hb := hasByte_c ⟨#[10]⟩ (by decide) t[i] wr
    rw [show inSet ⟨#[10]⟩ t[i] = false from inSet_nl (ht i hlt).1] at hb
    go_wp2_with (fail)
    refine hb.mono ?_
    rintro e w1 ⟨rfl, rfl⟩
    go_wp2_with (fail)
    go_roundw
    case rel => exact ⟨i + 1, by omega, by simp, by first | rfl | trivial⟩
    case measure => simp [intOf]; omega
  · have d1 : decide ((i : Int) < t.size) = false := by simpa using hlt
    have d2 : ¬ (i : Int) < t.size := by omega
    go_wp2_with (fail)
    go_ret
    exact ⟨rfl, rfl⟩

theorem sLast2_c (s set : ByteArray) (hs : s.size ≤ 1000000000) (hz : set.size ≤ 1000000000) (w : World) : Calls Tryz.prog 104 #[.string s, .string set, .bool true] w fun e w' => e = .returned (.int .i64 (lastIx (fun c => !inSet set c) s s.size)) ∧ w = w' := by
  go_enter Tryz.func104, Tryz.ntmps104
  go_wp2_with (fail)
  go_loopw [7] (fun v7 w' => ∃ k : Nat, k ≤ s.size ∧ v7 = .int .i64 ((k : Int) - 1) ∧ w' = w ∧ Hid (lastIx (fun c => !inSet set c) s s.size = lastIx (fun c => !inSet set c) s k)) (fun v7 _ => (intOf v7 + 1).toNat)
  case atStart => exact ⟨s.size, Nat.le_refl _, rfl, rfl, rfl⟩
  obtain ⟨k, hk, rfl, rfl, hH⟩ := hrel
  cases k with
  | zero =>
    have hr : lastIx (fun c => !inSet set c) s s.size = -1 := hH.out
    have hR := Lib.hid hr
    clear hH hr
    rw [show (((0 : Nat) : Int) - 1) = -1 by omega]
    go_wp2_with (fail)
    go_ret
    exact ⟨by rw [hR.out]; rfl, rfl⟩
  | succ m =>
    have hm : m < s.size := by omega
    have hm2 : (m : Int) < s.size := by omega
    rw [show (((m + 1 : Nat) : Int) - 1) = (m : Int) by omega]
    obtain ⟨B, hB⟩ : ∃ B, inSet set s[m] = B := ⟨_, rfl⟩
    have hb := hasByte_c set hz s[m]
    rw [hB] at hb
    cases B with
    | false =>
      have hr : lastIx (fun c => !inSet set c) s s.size = (m : Int) := by
        rw [hH.out]; unfold lastIx; rw [getD_lt hm]; simp [hB]
      have hR := Lib.hid hr
      clear hH hr hB
      go_wp2_with (fail)
      refine (hb _).mono ?_
      rintro e w1 ⟨rfl, rfl⟩
      go_wp2_with (fail)
      go_ret
      exact ⟨by rw [hR.out]; rfl, rfl⟩
    | true =>
      have hr : lastIx (fun c => !inSet set c) s s.size = lastIx (fun c => !inSet set c) s m := by
        rw [hH.out]; conv => lhs; unfold lastIx
        rw [getD_lt hm]; simp [hB]
      have hR := Lib.hid hr
      clear hH hr hB
      go_wp2_with (fail)
      refine (hb _).mono ?_
      rintro e w1 ⟨rfl, rfl⟩
      go_wp2_with (fail)
      go_roundw
      case rel => exact ⟨m, by omega, rfl, by first | rfl | trivial, hR⟩
      case measure => simp [intOf]

theorem sLineB_c (t : ByteArray) (k : Nat) (ht : Prn t) (hs : t.size ≤ 1000000) (hk : k ≤ t.size) (w : World) : Calls Tryz.prog 131 #[.agg #[.string t, .int .i64 k]] w fun e w' => e = .returned (.string (t.extract 0 k)) ∧ Fr 0 [] [] w w' := by
  have esz : (t.extract 0 k).size = k := by simp; omega
  have hx := last_nl (ht.extract 0 k)
  obtain ⟨X, hX⟩ : ∃ X, t.extract 0 k = X := ⟨_, rfl⟩
  have hb := fun w => sBefore_c t k ht hs hk w
  rw [hX] at esz hx
  simp only [hX] at hb
  have hl := fun w => sLast_c X ⟨#[10]⟩ (by omega) (by decide) w
  have hx' : lastIx (inSet ⟨#[10]⟩) X X.size = -1 := hx
  simp only [hx'] at hl
  have ew : X.extract 0 X.size = X := by simp
  rw [hX]
  rw [esz] at ew
  clear hX hx hx'
  go_enter Tryz.func131, Tryz.ntmps131
  go_wp2_with (fail)
  refine (hb _).mono ?_
  rintro e w1 ⟨rfl, hF1⟩
  go_wp2_with (fail)
  refine (hl _).mono ?_
  rintro e w2 ⟨rfl, rfl⟩
  go_wp2_with (fail)
  go_ret
  exact ⟨by first | rfl | rw [ew] | simp, ((Fr.refl 0 [] [] w).alloc _).trans hF1⟩

theorem sLineA_c (t : ByteArray) (k : Nat) (ht : Prn t) (hs : t.size ≤ 1000000) (hk : k ≤ t.size) (w : World) : Calls Tryz.prog 132 #[.agg #[.string t, .int .i64 k]] w fun e w' => e = .returned (.string (t.extract k t.size)) ∧ Fr 0 [] [] w w' := by
  have esz : (t.extract k t.size).size = t.size - k := by simp
  have hpx := ht.extract k t.size
  obtain ⟨X, hX⟩ : ∃ X, t.extract k t.size = X := ⟨_, rfl⟩
  have hb := fun w => sAfter_c t k ht hs hk w
  rw [hX] at esz hpx
  simp only [hX] at hb
  have hl := fun w => first_c X hpx (by omega) w
  rw [hX]
  clear hX
  go_enter Tryz.func132, Tryz.ntmps132
  go_wp2_with (fail)
  refine (hb _).mono ?_
  rintro e w1 ⟨rfl, hF1⟩
  go_wp2_with (fail)
  refine (hl _).mono ?_
  rintro e w2 ⟨rfl, rfl⟩
  go_wp2_with (fail)
  go_ret
  exact ⟨rfl, ((Fr.refl 0 [] [] w).alloc _).trans hF1⟩

theorem sColumn_c (t : ByteArray) (k : Nat) (ht : Prn t) (hs : t.size ≤ 1000000) (hk : k ≤ t.size) (w : World) : Calls Tryz.prog 168 #[.agg #[.string t, .int .i64 k]] w fun e w' => e = .returned (.int .i64 k) ∧ Fr 0 [] [] w w' := by
  have esz : (t.extract 0 k).size = k := by simp; omega
  have hb := fun w => sLineB_c t k ht hs hk w
  have hc := fun w => sCount_c (t.extract 0 k) (ht.extract _ _) (by omega) w
  simp only [esz] at hc
  go_enter Tryz.func168, Tryz.ntmps168
  go_wp2_with (fail)
  refine (hb _).mono ?_
  rintro e w1 ⟨rfl, hF1⟩
  go_wp2_with (fail)
  refine (hc _).mono ?_
  rintro e w2 ⟨rfl, hF2⟩
  go_wp2_with (fail)
  go_ret
  exact ⟨rfl, (((Fr.refl 0 [] [] w).alloc _).trans hF1).trans hF2⟩

theorem sLeft_c (t : ByteArray) (k n : Nat) (ht : Prn t) (hs : t.size ≤ 1000000) (hk : k ≤ t.size) (hn : n ≤ 1000000) (w : World) : Calls Tryz.prog 135 #[.agg #[.string t, .int .i64 k], .int .i64 n] w fun e w' => e = .returned (.int .i64 (-((min n k : Nat) : Int))) ∧ Fr 0 [] [] w w' := by
  have hc := fun w => sColumn_c t k ht hs hk w
  obtain ⟨m, hm⟩ : ∃ m, min n k = m := ⟨_, rfl⟩
  have hmi : min (n : Int) (k : Int) = (m : Int) := by omega
  have hm9 : m ≤ 1000000 := by omega
  rw [hm]
  by_cases hle : (n : Int) ≤ k
  · obtain rfl : m = n := by omega
    go_enter Tryz.func135, Tryz.ntmps135
    go_wp2_with (fail)
    refine (hc _).mono ?_
    rintro e w1 ⟨rfl, hF1⟩
    go_wp2_with (fail)
    go_ret
    exact ⟨rfl, ((Fr.refl 0 [] [] w).alloc _).trans hF1⟩
  · obtain rfl : m = k := by omega
    go_enter Tryz.func135, Tryz.ntmps135
    go_wp2_with (fail)
    refine (hc _).mono ?_
    rintro e w1 ⟨rfl, hF1⟩
    go_wp2_with (fail)
    go_ret
    exact ⟨rfl, ((Fr.refl 0 [] [] w).alloc _).trans hF1⟩

theorem sRight_c (t : ByteArray) (k n : Nat) (ht : Prn t) (hs : t.size ≤ 1000000) (hk : k ≤ t.size) (hn : n ≤ 1000000) (w : World) : Calls Tryz.prog 134 #[.agg #[.string t, .int .i64 k], .int .i64 n] w fun e w' => e = .returned (.int .i64 ((min n (t.size - k) : Nat) : Int)) ∧ Fr 0 [] [] w w' := by
  have esz : (t.extract k t.size).size = t.size - k := by simp
  have hb := fun w => sLineA_c t k ht hs hk w
  have hc := fun w => sCount_c (t.extract k t.size) (ht.extract _ _) (by omega) w
  simp only [esz] at hc
  obtain ⟨r, hr⟩ : ∃ r, t.size - k = r := ⟨_, rfl⟩
  obtain ⟨m, hm⟩ : ∃ m, min n r = m := ⟨_, rfl⟩
  have hmi : min (n : Int) (r : Int) = (m : Int) := by omega
  have hm9 : m ≤ 1000000 := by omega
  simp only [hr] at hc
  rw [hr, hm]
  have hr9 : r ≤ 1000000 := by omega
  clear hr esz
  by_cases hle : (n : Int) ≤ r
  · obtain rfl : m = n := by omega
    go_enter Tryz.func134, Tryz.ntmps134
    go_wp2_with (fail)
    refine (hb _).mono ?_
    rintro e w1 ⟨rfl, hF1⟩
    go_wp2_with (fail)
    refine (hc _).mono ?_
    rintro e w2 ⟨rfl, hF2⟩
    go_wp2_with (fail)
    go_ret
    exact ⟨rfl, (((Fr.refl 0 [] [] w).alloc _).trans hF1).trans hF2⟩
  · obtain rfl : m = r := by omega
    go_enter Tryz.func134, Tryz.ntmps134
    go_wp2_with (fail)
    refine (hb _).mono ?_
    rintro e w1 ⟨rfl, hF1⟩
    go_wp2_with (fail)
    refine (hc _).mono ?_
    rintro e w2 ⟨rfl, hF2⟩
    go_wp2_with (fail)
    go_ret
    exact ⟨rfl, (((Fr.refl 0 [] [] w).alloc _).trans hF1).trans hF2⟩

/-- The beginning of the last word, the blanks behind it taken with it. -/
def startOf (b : ByteArray) : Nat :=
  if lastIx (· != 32) b b.size = -1 then 0 else (lastIx (· == 32) (b.extract 0 (lastIx (· != 32) b b.size).toNat) (b.extract 0 (lastIx (· != 32) b b.size).toNat).size + 1).toNat
theorem startOf_at (t : ByteArray) (k : Nat) : startOf (t.extract 0 k) = spaceAt t k := rfl
theorem inSet_bl : inSet ⟨#[32]⟩ = (· == 32) := by
  funext c
  show ((32 : UInt8) == c || false) = (c == 32)
  by_cases h : c = 32
  · subst h; rfl
  · have h2 : ¬ (32 : UInt8) = c := fun e => h e.symm
    rw [Bool.or_false, beq_eq_false_iff_ne.2 h, beq_eq_false_iff_ne.2 h2]
theorem inSet_bl2 : (fun c => !inSet ⟨#[32]⟩ c) = (· != 32) := by
  rw [inSet_bl]; rfl

theorem start_c (b : ByteArray) (hs : b.size ≤ 1000000) (w : World) : Calls Tryz.prog 136 #[.string b, .string ⟨#[32]⟩, .bool true] w fun e w' => e = .returned (.int .i64 (startOf b)) ∧ Fr 0 [] [] w w' := by
  have h1 := lastIx_range (· != 32) b b.size
  have hl2 := fun w => sLast2_c b ⟨#[32]⟩ (by omega) (by decide) w
  simp only [inSet_bl2] at hl2
  obtain ⟨x, hx⟩ : ∃ x, lastIx (· != 32) b b.size = x := ⟨_, rfl⟩
  rw [hx] at h1
  simp only [hx] at hl2
  by_cases hz : x = -1
  · have e9 : startOf b = 0 := by unfold startOf; rw [hx, if_pos hz]
    rw [e9]
    subst hz
    have HX := Lib.hid hx
    clear hx e9
    go_enter Tryz.func136, Tryz.ntmps136
    go_wp2_with (fail)
    refine (hl2 _).mono ?_
    rintro e w1 ⟨rfl, rfl⟩
    go_wp2_with (fail)
    go_ret
    exact ⟨rfl, Fr.refl _ _ _ _⟩
  · obtain ⟨X, rfl⟩ : ∃ X : Nat, x = X := ⟨x.toNat, by omega⟩
    obtain ⟨C, hC⟩ : ∃ C, b.extract 0 X = C := ⟨_, rfl⟩
    have hCs : C.size ≤ 1000000 := by rw [← hC, ByteArray.size_extract]; omega
    have h2 := lastIx_range (· == 32) C C.size
    have hl := fun w => sLast_c C ⟨#[32]⟩ (by omega) (by decide) w
    simp only [inSet_bl] at hl
    obtain ⟨y, hy⟩ : ∃ y, lastIx (· == 32) C C.size = y := ⟨_, rfl⟩
    simp only [hy] at hl
    rw [hy] at h2
    have e9 : (startOf b : Int) = y + 1 := by
      unfold startOf
      rw [hx, if_neg hz]
      simp only [Int.toNat_natCast, hC, hy]
      omega
    have hXs : (X : Int) ≤ b.size := by omega
    have x1 : ¬ (X : Int) < 0 := by omega
    have x0 : (0 : Int) ≤ (X : Int) := by omega
    rw [e9]
    have HX := Lib.hid hx
    have HY := Lib.hid hy
    clear hx hy e9 hz
    go_enter Tryz.func136, Tryz.ntmps136
    go_wp2_with (fail)
    refine (hl2 _).mono ?_
    rintro e w1 ⟨rfl, rfl⟩
    go_wp2_with (fail)
    refine (hl _).mono ?_
    rintro e w2 ⟨rfl, rfl⟩
    go_wp2_with (fail)
    go_ret
    exact ⟨rfl, Fr.refl _ _ _ _⟩
end Go.Proofs.YtiepopbmbgfhkaaGreat
