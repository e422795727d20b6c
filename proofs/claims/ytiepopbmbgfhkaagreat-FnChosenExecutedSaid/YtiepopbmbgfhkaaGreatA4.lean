/-
  Loops over texts of ASCII: the last place of a byte that a test lets by; widths; prefixes.
-/
import Derived.Test.YtiepopbmbgfhkaaGreatA1
namespace Go.Proofs.YtiepopbmbgfhkaaGreat
open Go.RowKit
set_option maxHeartbeats 1000000
set_option maxRecDepth 20000
set_option linter.unusedVariables false
set_option linter.unusedSimpArgs false

/-- A text of printable ASCII. -/
def Prn (t : ByteArray) : Prop := ∀ i (h : i < t.size), 32 ≤ t[i].toNat ∧ t[i].toNat < 127
theorem Prn.asc {t : ByteArray} (h : Prn t) : Asc t := fun i hi => by have := h i hi; omega

/-- The last place below n whose byte a test lets by; -1 without one. -/
def lastIx (p : UInt8 → Bool) (s : ByteArray) : Nat → Int
  | 0 => -1
  | k + 1 => if p (s.data.getD k 0) then (k : Int) else lastIx p s k

theorem getD_lt {s : ByteArray} {k : Nat} (h : k < s.size) : s.data.getD k 0 = s[k] := by
  have h' : k < s.data.size := h
  simp only [Array.getD, h', dif_pos]
  rfl

theorem lastIx_range (p : UInt8 → Bool) (s : ByteArray) : ∀ n, -1 ≤ lastIx p s n ∧ lastIx p s n < n
  | 0 => by simp [lastIx]
  | k + 1 => by
    unfold lastIx
    have := lastIx_range p s k
    split <;> omega

theorem byteIx_c (s : ByteArray) (c : UInt8) (hs : s.size ≤ 1000000000) (w : World) :
    Calls Tryz.prog 173 #[.string s, .int .u8 (c.toNat : Int)] w fun e w' => e = .returned (.int .i64 (lastIx (· == c) s s.size)) ∧ w = w' := by
  go_enter Tryz.func173, Tryz.ntmps173
  go_wp2
  go_loop [5] (fun v => ∃ k : Nat, k ≤ s.size ∧ v = .int .i64 ((k : Int) - 1) ∧ Hid (lastIx (· == c) s s.size = lastIx (· == c) s k)) (fun v => (intOf v + 1).toNat)
  case atStart => exact ⟨s.size, Nat.le_refl _, rfl, rfl⟩
  case round =>
    obtain ⟨k, hk, rfl, hH⟩ := hrel
    cases k with
    | zero =>
      have hr : lastIx (· == c) s s.size = -1 := hH.out
      have hR := Lib.hid hr
      clear hH hr
      rw [show (((0 : Nat) : Int) - 1) = -1 by omega]
      go_wp2
      go_ret
      exact ⟨by rw [hR.out]; rfl, rfl⟩
    | succ m =>
      have hm : m < s.size := by omega
      rw [show (((m + 1 : Nat) : Int) - 1) = (m : Int) by omega]
      by_cases hc : s[m] = c
      · have hr : lastIx (· == c) s s.size = (m : Int) := by
          rw [hH.out]; unfold lastIx; rw [getD_lt hm]; simp [hc]
        have hR := Lib.hid hr
        have hcc : ((s[m].toNat : Int) == (c.toNat : Int)) = true := by simp [hc]
        have hC := Lib.hid hc
        clear hH hr hc
        go_wp2
        go_ret
        exact ⟨by rw [hR.out]; rfl, rfl⟩
      · have hcc : ((s[m].toNat : Int) == (c.toNat : Int)) = false := by
          rw [beq_eq_false_iff_ne]
          intro e
          exact hc (UInt8.toNat_inj.1 (by omega))
        have hr : lastIx (· == c) s s.size = lastIx (· == c) s m := by
          rw [hH.out]; conv => lhs; unfold lastIx
          rw [getD_lt hm]; simp [hc]
        have hR := Lib.hid hr
        clear hH hr hc
        go_wp2
        go_round
        case rel => exact ⟨m, by omega, rfl, hR⟩
        case measure => simp [intOf]
theorem notByte_c (s : ByteArray) (c : UInt8) (hs : s.size ≤ 1000000000) (w : World) :
    Calls Tryz.prog 191 #[.string s, .int .u8 (c.toNat : Int)] w fun e w' => e = .returned (.int .i64 (lastIx (· != c) s s.size)) ∧ w = w' := by
  go_enter Tryz.func191, Tryz.ntmps191
  go_wp2
  go_loop [5] (fun v => ∃ k : Nat, k ≤ s.size ∧ v = .int .i64 ((k : Int) - 1) ∧ Hid (lastIx (· != c) s s.size = lastIx (· != c) s k)) (fun v => (intOf v + 1).toNat)
  case atStart => exact ⟨s.size, Nat.le_refl _, rfl, rfl⟩
  case round =>
    obtain ⟨k, hk, rfl, hH⟩ := hrel
    cases k with
    | zero =>
      have hr : lastIx (· != c) s s.size = -1 := hH.out
      have hR := Lib.hid hr
      clear hH hr
      rw [show (((0 : Nat) : Int) - 1) = -1 by omega]
      go_wp2
      go_ret
      exact ⟨by rw [hR.out]; rfl, rfl⟩
    | succ m =>
      have hm : m < s.size := by omega
      rw [show (((m + 1 : Nat) : Int) - 1) = (m : Int) by omega]
      by_cases hc : s[m] ≠ c
      · have hr : lastIx (· != c) s s.size = (m : Int) := by
          rw [hH.out]; unfold lastIx; rw [getD_lt hm]; simp [hc]
        have hR := Lib.hid hr
        obtain ⟨hcc, hcc2⟩ : ((s[m].toNat : Int) == (c.toNat : Int)) = false ∧ ((s[m].toNat : Int) != (c.toNat : Int)) = true := int_ne (fun e => hc (UInt8.toNat_inj.1 (by omega)))
        have hC := Lib.hid hc
        clear hH hr hc
        go_wp2
        go_ret
        exact ⟨by rw [hR.out]; rfl, rfl⟩
      · have hc : s[m] = c := by simpa using hc
        have hcc : ((s[m].toNat : Int) == (c.toNat : Int)) = true := by simp [hc]
        have hcc2 : ((s[m].toNat : Int) != (c.toNat : Int)) = false := by simp [hc]
        have hr : lastIx (· != c) s s.size = lastIx (· != c) s m := by
          rw [hH.out]; conv => lhs; unfold lastIx
          rw [getD_lt hm]; simp [hc]
        have hR := Lib.hid hr
        clear hH hr hc
        go_wp2
        go_round
        case rel => exact ⟨m, by omega, rfl, hR⟩
        case measure => simp [intOf]

theorem lastByte_c (s : ByteArray) (c : UInt8) (hs : s.size ≤ 1000000000) (w : World) :
    Calls Tryz.prog 140 #[.string s, .int .u8 (c.toNat : Int)] w fun e w' => e = .returned (.int .i64 (lastIx (· == c) s s.size)) ∧ w = w' := by
  go_enter Tryz.func140, Tryz.ntmps140
  go_wp2_with (fail)
  refine (byteIx_c s c hs w).mono ?_
  rintro e w' ⟨rfl, rfl⟩
  go_wp2
  go_ret
  exact ⟨rfl, rfl⟩

theorem runeWidth_c (c : Int) (h0 : 32 ≤ c) (h1 : c < 127) (w : World) :
    Calls Tryz.prog 111 #[.int .i32 c] w fun e w' => e = .returned (.int .i64 1) ∧ w = w' := by
  have e1 : ¬ c < 32 := by omega
  have e2 : ¬ 127 ≤ c := by omega
  have e3 := int_ne (a := c) (b := 173) (by omega)
  obtain ⟨e4, -⟩ := e3
  have d1 : decide (c < 32) = false := by simpa using e1
  have d2 : decide (127 ≤ c) = false := by simpa using e2
  go_enter Tryz.func111, Tryz.ntmps111
  go_wp2
  go_ret
  exact ⟨rfl, rfl⟩

theorem iter_fr (w : World) (s : ByteArray) (pos base : Nat) (ts bs : List Nat) : Fr base ts bs w (w.iter s pos) := (Fr.refl _ _ _ _).alloc _

theorem width_c (s : ByteArray) (hp : Prn s) (hs : s.size ≤ 1000000000) (w : World) :
    Calls Tryz.prog 75 #[.string s] w fun e w' => e = .returned (.int .i64 s.size) ∧ Fr 0 [] [] w w' := by
  go_enter Tryz.func75, Tryz.ntmps75
  go_wp2
  go_loopw [3] (fun n w' => ∃ pos : Nat, pos ≤ s.size ∧ w' = w.iter s pos ∧ n = .int .i64 pos) (fun _ w' => s.size - w'.iterPos w.heap.size)
  case atStart => exact ⟨0, by omega, rfl, rfl⟩
  case round =>
    obtain ⟨pos, hpos, rfl, rfl⟩ := hrel
    by_cases hlt : pos < s.size
    · have hp1 := hp pos hlt
      have hnx : ∀ ty, (Instr.next (.pointer (some ⟨w.heap.size, 0, none⟩)) true ty).run Tryz.prog (w.iter s pos) = _ := fun ty => run_next_ascii w s pos ty hlt (by omega)
      go_wp2_with (first | (go_at_call 111; refine (runeWidth_c _ (by omega) (by omega) _).mono ?_; rintro e w' ⟨rfl, rfl⟩))
      go_roundw
      case rel => exact ⟨pos + 1, by omega, rfl, by go_num⟩
      case measure => simp; omega
    · have hnx : ∀ ty, (Instr.next (.pointer (some ⟨w.heap.size, 0, none⟩)) true ty).run Tryz.prog (w.iter s pos) = _ := fun ty => run_next_end w s pos ty hlt
      have e : pos = s.size := by omega
      have E := Lib.hid e
      clear e
      go_wp2
      go_ret
      exact ⟨by rw [E.out]; rfl, iter_fr _ _ _ _ _ _⟩

/-- A set of ASCII has a byte. -/
def inSet (set : ByteArray) (c : UInt8) : Bool := set.data.toList.any (· == c)
/-- .. among its first k. -/
def inSetTo (set : ByteArray) (c : UInt8) (k : Nat) : Bool := (set.data.toList.take k).any (· == c)
theorem inSetTo_all (set : ByteArray) (c : UInt8) (k : Nat) (h : set.size ≤ k) : inSetTo set c k = inSet set c := by
  unfold inSetTo inSet; rw [List.take_of_length_le (by simpa using h)]
theorem inSetTo_succ (set : ByteArray) (c : UInt8) (k : Nat) (h : k < set.size) : inSetTo set c (k + 1) = (inSetTo set c k || set[k] == c) := by
  unfold inSetTo
  rw [List.take_succ_eq_append_getElem (by simpa using h)]
  simp
  rfl

theorem inSet_c (c : UInt8) (set : ByteArray) (ha : Asc set) (w : World) :
    Calls Tryz.prog 141 #[.int .i32 (c.toNat : Int), .string set] w fun e w' => e = .returned (.bool (inSet set c)) ∧ Fr 0 [] [] w w' := by
  go_enter Tryz.func141, Tryz.ntmps141
  go_wp2
  go_loopw [] (fun w' => ∃ pos : Nat, pos ≤ set.size ∧ w' = w.iter set pos ∧ inSetTo set c pos = false) (fun w' => set.size - w'.iterPos w.heap.size)
  case atStart => exact ⟨0, by omega, rfl, rfl⟩
  case round =>
    obtain ⟨pos, hpos, rfl, hno⟩ := hrel
    have HN := Lib.hid hno
    clear hno
    by_cases hlt : pos < set.size
    · have hp1 := ha pos hlt
      have hnx : ∀ ty, (Instr.next (.pointer (some ⟨w.heap.size, 0, none⟩)) true ty).run Tryz.prog (w.iter set pos) = _ := fun ty => run_next_ascii w set pos ty hlt hp1
      by_cases hc : set[pos] = c
      · have hcc : ((c.toNat : Int) == (set[pos].toNat : Int)) = true := by simp [hc]
        have hr : inSet set c = true := by
          unfold inSet; rw [List.any_eq_true]
          exact ⟨set[pos], Array.getElem_mem_toList (xs := set.data) hlt, by simp [hc]⟩
        have HR := Lib.hid hr
        clear hr hc
        go_wp2
        go_ret
        exact ⟨by rw [HR.out]; rfl, iter_fr _ _ _ _ _ _⟩
      · obtain ⟨hcc, -⟩ := int_ne (a := (c.toNat : Int)) (b := (set[pos].toNat : Int)) (fun e => hc (UInt8.toNat_inj.1 (by omega)))
        have hr : inSetTo set c (pos + 1) = false := by rw [inSetTo_succ _ _ _ hlt, HN.out]; simp [hc]
        have HR := Lib.hid hr
        clear hr hc
        go_wp2
        go_roundw
        case rel => exact ⟨pos + 1, by omega, rfl, HR.out⟩
        case measure => simp; omega
    · have hnx : ∀ ty, (Instr.next (.pointer (some ⟨w.heap.size, 0, none⟩)) true ty).run Tryz.prog (w.iter set pos) = _ := fun ty => run_next_end w set pos ty hlt
      have hr : inSet set c = false := by rw [← inSetTo_all set c pos (by omega)]; exact HN.out
      have HR := Lib.hid hr
      clear hr
      go_wp2
      go_ret
      exact ⟨by rw [HR.out]; rfl, iter_fr _ _ _ _ _ _⟩

/-- Whether a text begins with another. -/
def isPre (p s : ByteArray) : Bool := decide (p.size ≤ s.size) && ((s.extract 0 p.size).toList == p.toList)

theorem hasPrefix_c (s p : ByteArray) (hs : s.size ≤ 1000000000) (hp : p.size ≤ 1000000000) (w : World) :
    Calls Tryz.prog 40 #[.string s, .string p] w fun e w' => e = .returned (.bool (isPre p s)) ∧ w = w' := by
  have inner : Calls Tryz.prog 66 #[.string s, .string p] w fun e w' => e = .returned (.bool (isPre p s)) ∧ w = w' := by
    by_cases h : p.size ≤ s.size
    · have e : isPre p s = ((s.extract 0 p.size).toList == p.toList) := by unfold isPre; simp [h]
      have E := Lib.hid e
      have h1 : (0 : Int) ≤ (p.size : Int) := by omega
      have h2 : (p.size : Int) ≤ (s.size : Int) := by omega
      clear e
      go_enter Tryz.func66, Tryz.ntmps66
      go_wp2
      go_ret
      exact ⟨by rw [E.out]; rfl, rfl⟩
    · have e : isPre p s = false := by unfold isPre; simp [h]
      have E := Lib.hid e
      have h1 : ¬ (p.size : Int) ≤ (s.size : Int) := by omega
      have d1 : decide ((p.size : Int) ≤ (s.size : Int)) = false := by simpa using h1
      have d2 : decide (p.size ≤ s.size) = false := by simpa using h
      clear e
      go_enter Tryz.func66, Tryz.ntmps66
      go_wp2
      go_ret
      exact ⟨by rw [E.out]; rfl, rfl⟩
  go_enter Tryz.func40, Tryz.ntmps40
  go_wp2_with (fail)
  refine inner.mono ?_
  rintro e w' ⟨rfl, rfl⟩
  go_wp2
  go_ret
  exact ⟨rfl, rfl⟩
end Go.Proofs.YtiepopbmbgfhkaaGreat
