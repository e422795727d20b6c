/-
  Loops over texts of ASCII: the last place of a byte that a test lets by; widths; prefixes.
  The words of a document: zzLastIndexAny, the Find.. and GetWord.. functions, DisplayCursorPosition, Delete.
-/
import Derived.Test.YtiepopbmbgfhkaaGreatQ1
import Derived.Test.YtiepopbmbgfhkaaGreatQ2
namespace Go.Proofs.YtiepopbmbgfhkaaGreat
open Go.RowKit
set_option maxHeartbeats 1000000
set_option maxRecDepth 20000
set_option linter.unusedVariables false
set_option linter.unusedSimpArgs false

/-- A text of printable ASCII. -/
def Prn (t : ByteArray) : Prop := ∀ i (h : i < t.size), 32 ≤ t[i].toNat ∧ t[i].toNat < 127
theorem Prn.asc {t : ByteArray} (h : Prn t) : Asc t := fun i hi => by have := h i hi; omega

/-- The last place below n whose byte a test lets by; -1 without one. -/
def lastIx (p : UInt8 → Bool) (s : ByteArray) : Nat → Int
  | 0 => -1
  | k + 1 => if p (s.data.getD k 0) then (k : Int) else lastIx p s k

theorem getD_lt {s : ByteArray} {k : Nat} (h : k < s.size) : s.data.getD k 0 = s[k] := by
  have h' : k < s.data.size := h
  simp only [Array.getD, h', dif_pos]
  rfl

theorem lastIx_range (p : UInt8 → Bool) (s : ByteArray) : ∀ n, -1 ≤ lastIx p s n ∧ lastIx p s n < n
  | 0 => by simp [lastIx]
  | k + 1 => by
    unfold lastIx
    have := lastIx_range p s k
    split <;> omega

theorem byteIx_c (s : ByteArray) (c : UInt8) (hs : s.size ≤ 1000000000) (w : World) :
    Calls Tryz.prog 173 #[.string s, .int .u8 (c.toNat : Int)] w fun e w' => e = .returned (.int .i64 (lastIx (· == c) s s.size)) ∧ w = w' := by
  go_enter Tryz.func173, Tryz.ntmps173
  go_wp2
  go_loop [5] (fun v => ∃ k : Nat, k ≤ s.size ∧ v = .int .i64 ((k : Int) - 1) ∧ Hid (lastIx (· == c) s s.size = lastIx (· == c) s k)) (fun v => (intOf v + 1).toNat)
  case atStart => exact ⟨s.size, Nat.le_refl _, rfl, rfl⟩
  case round =>
    obtain ⟨k, hk, rfl, hH⟩ := hrel
    cases k with
    | zero =>
      have hr : lastIx (· == c) s s.size = -1 := hH.out
      have hR := Lib.hid hr
      clear hH hr
      rw [show (((0 : Nat) : Int) - 1) = -1 by omega]
      go_wp2
      go_ret
      exact ⟨by rw [hR.out]; rfl, rfl⟩
    | succ m =>
      have hm : m < s.size := by omega
      rw [show (((m + 1 : Nat) : Int) - 1) = (m : Int) by omega]
      by_cases hc : s[m] = c
      · have hr : lastIx (· == c) s s.size = (m : Int) := by
          rw [hH.out]; unfold lastIx; rw [getD_lt hm]; simp [hc]
        have hR := Lib.hid hr
        have hcc : ((s[m].toNat : Int) == (c.toNat : Int)) = true := by simp [hc]
        have hC := Lib.hid hc
        clear hH hr hc
        go_wp2
        go_ret
        exact ⟨by rw [hR.out]; rfl, rfl⟩
      · have hcc : ((s[m].toNat : Int) == (c.toNat : Int)) = false := by
          rw [beq_eq_false_iff_ne]
          intro e
          exact hc (UInt8.toNat_inj.1 (by omega))
        have hr : lastIx (· == c) s s.size = lastIx (· == c) s m := by
          rw [hH.out]; conv => lhs; unfold lastIx
          rw [getD_lt hm]; simp [hc]
        have hR := Lib.hid hr
        clear hH hr hc
        go_wp2
        go_round
        case rel => exact ⟨m, by omega, rfl, hR⟩
        case measure => simp [intOf]
theorem notByte_c (s : ByteArray) (c : UInt8) (hs : s.size ≤ 1000000000) (w : World) :
    Calls Tryz.prog 191 #[.string s, .int .u8 (c.toNat : Int)] w fun e w' => e = .returned (.int .i64 (lastIx (· != c) s s.size)) ∧ w = w' := by
  go_enter Tryz.func191, Tryz.ntmps191
  go_wp2
  go_loop [5] (fun v => ∃ k : Nat, k ≤ s.size ∧ v = .int .i64 ((k : Int) - 1) ∧ Hid (lastIx (· != c) s s.size = lastIx (· != c) s k)) (fun v => (intOf v + 1).toNat)
  case atStart => exact ⟨s.size, Nat.le_refl _, rfl, rfl⟩
  case round =>
    obtain ⟨k, hk, rfl, hH⟩ := hrel
    cases k with
    | zero =>
      have hr : lastIx (· != c) s s.size = -1 := hH.out
      have hR := Lib.hid hr
      clear hH hr
      rw [show (((0 : Nat) : Int) - 1) = -1 by omega]
      go_wp2
      go_ret
      exact ⟨by rw [hR.out]; rfl, rfl⟩
    | succ m =>
      have hm : m < s.size := by omega
      rw [show (((m + 1 : Nat) : Int) - 1) = (m : Int) by omega]
      by_cases hc : s[m] ≠ c
      · have hr : lastIx (· != c) s s.size = (m : Int) := by
          rw [hH.out]; unfold lastIx; rw [getD_lt hm]; simp [hc]
        have hR := Lib.hid hr
        obtain ⟨hcc, hcc2⟩ : ((s[m].toNat : Int) == (c.toNat : Int)) = false ∧ ((s[m].toNat : Int) != (c.toNat : Int)) = true := int_ne (fun e => hc (UInt8.toNat_inj.1 (by omega)))
        have hC := Lib.hid hc
        clear hH hr hc
        go_wp2
        go_ret
        exact ⟨by rw [hR.out]; rfl, rfl⟩
      · have hc : s[m] = c := by simpa using hc
        have hcc : ((s[m].toNat : Int) == (c.toNat : Int)) = true := by simp [hc]
        have hcc2 : ((s[m].toNat : Int) != (c.toNat : Int)) = false := by simp [hc]
        have hr : lastIx (· != c) s s.size = lastIx (· != c) s m := by
          rw [hH.out]; conv => lhs; unfold lastIx
          rw [getD_lt hm]; simp [hc]
        have hR := Lib.hid hr
        clear hH hr hc
        go_wp2
        go_round
        case rel => exact ⟨m, by omega, rfl, hR⟩
        case measure => simp [intOf]

theorem lastByte_c (s : ByteArray) (c : UInt8) (hs : s.size ≤ 1000000000) (w : World) :
    Calls Tryz.prog 140 #[.string s, .int .u8 (c.toNat : Int)] w fun e w' => e = .returned (.int .i64 (lastIx (· == c) s s.size)) ∧ w = w' := by
  go_enter Tryz.func140, Tryz.ntmps140
  go_wp2_with (fail)
  refine (byteIx_c s c hs w).mono ?_
  rintro e w' ⟨rfl, rfl⟩
  go_wp2
  go_ret
  exact ⟨rfl, rfl⟩

theorem runeWidth_c (c : Int) (h0 : 32 ≤ c) (h1 : c < 127) (w : World) :
    Calls Tryz.prog 111 #[.int .i32 c] w fun e w' => e = .returned (.int .i64 1) ∧ w = w' := by
  have e1 : ¬ c < 32 := by omega
  have e2 : ¬ 127 ≤ c := by omega
  have e3 := int_ne (a := c) (b := 173) (by omega)
  obtain ⟨e4, -⟩ := e3
  have d1 : decide (c < 32) = false := by simpa using e1
  have d2 : decide (127 ≤ c) = false := by simpa using e2
  go_enter Tryz.func111, Tryz.ntmps111
  go_wp2
  go_ret
  exact ⟨rfl, rfl⟩

theorem iter_fr (w : World) (s : ByteArray) (pos base : Nat) (ts bs : List Nat) : Fr base ts bs w (w.iter s pos) := (Fr.refl _ _ _ _).alloc _

theorem width_c (s : ByteArray) (hp : Prn s) (hs : s.size ≤ 1000000000) (w : World) :
    Calls Tryz.prog 75 #[.string s] w fun e w' => e = .returned (.int .i64 s.size) ∧ Fr 0 [] [] w w' := by
  go_enter Tryz.func75, Tryz.ntmps75
  go_wp2
  go_loopw [3] (fun n w' => ∃ pos : Nat, pos ≤ s.size ∧ w' = w.iter s pos ∧ n = .int .i64 pos) (fun _ w' => s.size - w'.iterPos w.heap.size)
  case atStart => exact ⟨0, by omega, rfl, rfl⟩
  case round =>
    obtain ⟨pos, hpos, rfl, rfl⟩ := hrel
    by_cases hlt : pos < s.size
    · have hp1 := hp pos hlt
      have hnx : ∀ ty, (Instr.next (.pointer (some ⟨w.heap.size, 0, none⟩)) true ty).run Tryz.prog (w.iter s pos) = _ := fun ty => run_next_ascii w s pos ty hlt (by omega)
      go_wp2_with (first | (go_at_call 111; refine (runeWidth_c _ (by omega) (by omega) _).mono ?_; rintro e w' ⟨rfl, rfl⟩))
      go_roundw
      case rel => exact ⟨pos + 1, by omega, rfl, by go_num⟩
      case measure => simp; omega
    · have hnx : ∀ ty, (Instr.next (.pointer (some ⟨w.heap.size, 0, none⟩)) true ty).run Tryz.prog (w.iter s pos) = _ := fun ty => run_next_end w s pos ty hlt
      have e : pos = s.size := by omega
      have E := Lib.hid e
      clear e
      go_wp2
      go_ret
      exact ⟨by rw [E.out]; rfl, iter_fr _ _ _ _ _ _⟩

/-- A set of ASCII has a byte. -/
def inSet (set : ByteArray) (c : UInt8) : Bool := set.data.toList.any (· == c)
/-- .. among its first k. -/
def inSetTo (set : ByteArray) (c : UInt8) (k : Nat) : Bool := (set.data.toList.take k).any (· == c)
theorem inSetTo_all (set : ByteArray) (c : UInt8) (k : Nat) (h : set.size ≤ k) : inSetTo set c k = inSet set c := by
  unfold inSetTo inSet; rw [List.take_of_length_le (by simpa using h)]
theorem inSetTo_succ (set : ByteArray) (c : UInt8) (k : Nat) (h : k < set.size) : inSetTo set c (k + 1) = (inSetTo set c k || set[k] == c) := by
  unfold inSetTo
  rw [List.take_succ_eq_append_getElem (by simpa using h)]
  simp
  rfl

theorem inSet_c (c : UInt8) (set : ByteArray) (ha : Asc set) (w : World) :
    Calls Tryz.prog 141 #[.int .i32 (c.toNat : Int), .string set] w fun e w' => e = .returned (.bool (inSet set c)) ∧ Fr 0 [] [] w w' := by
  go_enter Tryz.func141, Tryz.ntmps141
  go_wp2
  go_loopw [] (fun w' => ∃ pos : Nat, pos ≤ set.size ∧ w' = w.iter set pos ∧ inSetTo set c pos = false) (fun w' => set.size - w'.iterPos w.heap.size)
  case atStart => exact ⟨0, by omega, rfl, rfl⟩
  case round =>
    obtain ⟨pos, hpos, rfl, hno⟩ := hrel
    have HN := Lib.hid hno
    clear hno
    by_cases hlt : pos < set.size
    · have hp1 := ha pos hlt
      have hnx : ∀ ty, (Instr.next (.pointer (some ⟨w.heap.size, 0, none⟩)) true ty).run Tryz.prog (w.iter set pos) = _ := fun ty => run_next_ascii w set pos ty hlt hp1
      by_cases hc : set[pos] = c
      · have hcc : ((c.toNat : Int) == (set[pos].toNat : Int)) = true := by simp [hc]
        have hr : inSet set c = true := by
          unfold inSet; rw [List.any_eq_true]
          exact ⟨set[pos], Array.getElem_mem_toList (xs := set.data) hlt, by simp [hc]⟩
        have HR := Lib.hid hr
        clear hr hc
        go_wp2
        go_ret
        exact ⟨by rw [HR.out]; rfl, iter_fr _ _ _ _ _ _⟩
      · obtain ⟨hcc, -⟩ := int_ne (a := (c.toNat : Int)) (b := (set[pos].toNat : Int)) (fun e => hc (UInt8.toNat_inj.1 (by omega)))
        have hr : inSetTo set c (pos + 1) = false := by rw [inSetTo_succ _ _ _ hlt, HN.out]; simp [hc]
        have HR := Lib.hid hr
        clear hr hc
        go_wp2
        go_roundw
        case rel => exact ⟨pos + 1, by omega, rfl, HR.out⟩
        case measure => simp; omega
    · have hnx : ∀ ty, (Instr.next (.pointer (some ⟨w.heap.size, 0, none⟩)) true ty).run Tryz.prog (w.iter set pos) = _ := fun ty => run_next_end w set pos ty hlt
      have hr : inSet set c = false := by rw [← inSetTo_all set c pos (by omega)]; exact HN.out
      have HR := Lib.hid hr
      clear hr
      go_wp2
      go_ret
      exact ⟨by rw [HR.out]; rfl, iter_fr _ _ _ _ _ _⟩

/-- Whether a text begins with another. -/
def isPre (p s : ByteArray) : Bool := decide (p.size ≤ s.size) && ((s.extract 0 p.size).toList == p.toList)

theorem hasPrefix_c (s p : ByteArray) (hs : s.size ≤ 1000000000) (hp : p.size ≤ 1000000000) (w : World) :
    Calls Tryz.prog 40 #[.string s, .string p] w fun e w' => e = .returned (.bool (isPre p s)) ∧ w = w' := by
  have inner : Calls Tryz.prog 66 #[.string s, .string p] w fun e w' => e = .returned (.bool (isPre p s)) ∧ w = w' := by
    by_cases h : p.size ≤ s.size
    · have e : isPre p s = ((s.extract 0 p.size).toList == p.toList) := by unfold isPre; simp [h]
      have E := Lib.hid e
      have h1 : (0 : Int) ≤ (p.size : Int) := by omega
      have h2 : (p.size : Int) ≤ (s.size : Int) := by omega
      clear e
      go_enter Tryz.func66, Tryz.ntmps66
      go_wp2
      go_ret
      exact ⟨by rw [E.out]; rfl, rfl⟩
    · have e : isPre p s = false := by unfold isPre; simp [h]
      have E := Lib.hid e
      have h1 : ¬ (p.size : Int) ≤ (s.size : Int) := by omega
      have d1 : decide ((p.size : Int) ≤ (s.size : Int)) = false := by simpa using h1
      have d2 : decide (p.size ≤ s.size) = false := by simpa using h
      clear e
      go_enter Tryz.func66, Tryz.ntmps66
      go_wp2
      go_ret
      exact ⟨by rw [E.out]; rfl, rfl⟩
  go_enter Tryz.func40, Tryz.ntmps40
  go_wp2_with (fail)
  refine inner.mono ?_
  rintro e w' ⟨rfl, rfl⟩
  go_wp2
  go_ret
  exact ⟨rfl, rfl⟩
end Go.Proofs.YtiepopbmbgfhkaaGreat

namespace Go.Proofs.YtiepopbmbgfhkaaGreat
open Go.RowKit
set_option maxHeartbeats 1000000
set_option maxRecDepth 20000
set_option linter.unusedVariables false
set_option linter.unusedSimpArgs false

/-- An iterator over a text, at a place. -/
def It (w : World) (g : Nat) (s : ByteArray) (pos : Nat) : Prop := w.heap[g]? = some (.stringIter s pos)
def setIter (w : World) (g : Nat) (s : ByteArray) (pos : Nat) : World := { w with heap := w.heap.setIfInBounds g (.stringIter s pos) }
theorem It.lt {w : World} {g : Nat} {s : ByteArray} {pos : Nat} (h : It w g s pos) : g < w.heap.size := lt_of_block h
theorem It.next {w : World} {g : Nat} {s : ByteArray} {pos : Nat} (h : It w g s pos) (hlt : pos < s.size) (ha : s[pos].toNat < 128) (ty : TypeId) :
    (Instr.next (.pointer (some ⟨g, 0, none⟩)) true ty).run Tryz.prog w = .ok (.tuple #[.bool true, .int .i64 pos, .int .i32 (s[pos].toNat : Int)]) (setIter w g s (pos + 1)) := by
  unfold It at h
  simp only [Instr.next, getObj, setObj, Sem.run_bind, Sem.run, h, Result.andThen, hlt, if_true, decode_asc s pos hlt ha]
  simp [goInt, Sem.run, h, setIter]
theorem It.nextEnd {w : World} {g : Nat} {s : ByteArray} {pos : Nat} (h : It w g s pos) (hlt : ¬ pos < s.size) (ty : TypeId) :
    (Instr.next (.pointer (some ⟨g, 0, none⟩)) true ty).run Tryz.prog w = .ok (.tuple #[.bool false]) w := by
  unfold It at h
  simp [Instr.next, getObj, Sem.run, h, hlt]
theorem It.set {w : World} {g : Nat} {s : ByteArray} {pos pos' : Nat} (h : It w g s pos) : It (setIter w g s pos') g s pos' := by
  have := h.lt
  unfold It setIter at *
  simp [this]
theorem It.iterPos {w : World} {g : Nat} {s : ByteArray} {pos : Nat} (h : It w g s pos) : w.iterPos g = pos := by
  unfold It at h
  simp [World.iterPos, h]
theorem It.ext {w w1 : World} {g base : Nat} {s : ByteArray} {pos : Nat} (h : It w g s pos) (hF : Fr base [] [] w w1) : It w1 g s pos := by
  have := h.lt
  unfold It at *
  rw [hF.keep g this (.inr ⟨by simp, by simp⟩)]
  exact h
theorem Fr.setIter {base : Nat} {ts bs : List Nat} {w w1 : World} {g : Nat} (h : Fr base ts bs w w1) (hg : w.heap.size ≤ g) (s : ByteArray) (pos : Nat) : Fr base ts bs w (setIter w1 g s pos) :=
  ⟨h.os, h.tape, h.output, by show _ ≤ (w1.heap.setIfInBounds g _).size; simpa using h.size, fun k hk hc => by
    have e := h.keep k hk hc
    rw [← e]
    show (w1.heap.setIfInBounds g _)[k]? = _
    rw [Array.getElem?_setIfInBounds_ne (by omega)]⟩
theorem It.new (w : World) (s : ByteArray) : It (w.iter s 0) w.heap.size s 0 := World.iter_heap w s 0

theorem lastAny_c (s chars : ByteArray) (hs : Asc s) (hc : Asc chars) (hsz : s.size ≤ 1000000000) (w : World) :
    Calls Tryz.prog 106 #[.string s, .string chars] w fun e w' => e = .returned (.int .i64 (lastIx (inSet chars) s s.size)) ∧ Fr 0 [] [] w w' := by
  go_enter Tryz.func106, Tryz.ntmps106
  go_wp2
  go_loopw [5] (fun v w' => ∃ pos : Nat, pos ≤ s.size ∧ It w' w.heap.size s pos ∧ Fr 0 [] [] w w' ∧ v = .int .i64 (lastIx (inSet chars) s pos)) (fun _ w' => s.size - w'.iterPos w.heap.size)
  case atStart => exact ⟨0, by omega, It.new _ _, iter_fr _ _ _ _ _ _, rfl⟩
  case round =>
    obtain ⟨pos, hpos, hIt, hF, rfl⟩ := hrel
    by_cases hlt : pos < s.size
    · have hnx := hIt.next hlt (hs pos hlt)
      have hps := hIt.iterPos
      have HP := Lib.hid hps
      clear hps
      cases hin : inSet chars s[pos] with
      | true =>
        have hr : lastIx (inSet chars) s (pos + 1) = (pos : Int) := by unfold lastIx; rw [getD_lt hlt, hin]; rfl
        have HR := Lib.hid hr
        clear hr
        go_wp2_with (fail)
        refine (inSet_c s[pos] chars hc _).mono ?_
        rintro e w1 ⟨rfl, hF1⟩
        have hI1 := (hIt.set (pos' := pos + 1)).ext hF1
        have hF2 := (hF.setIter (Nat.le_refl _) s (pos + 1)).ext hF1
        go_wp2
        go_roundw
        case rel => exact ⟨pos + 1, by omega, hI1, hF2, by rw [HR.out]⟩
        case measure => rw [hI1.iterPos, HP.out]; omega
      | false =>
        have hr : lastIx (inSet chars) s (pos + 1) = lastIx (inSet chars) s pos := by conv => lhs; unfold lastIx
                                                                                      rw [getD_lt hlt, hin]; rfl
        have HR := Lib.hid hr
        clear hr
        go_wp2_with (fail)
        refine (inSet_c s[pos] chars hc _).mono ?_
        rintro e w1 ⟨rfl, hF1⟩
        have hI1 := (hIt.set (pos' := pos + 1)).ext hF1
        have hF2 := (hF.setIter (Nat.le_refl _) s (pos + 1)).ext hF1
        go_wp2
        go_roundw
        case rel => exact ⟨pos + 1, by omega, hI1, hF2, by rw [HR.out]⟩
        case measure => rw [hI1.iterPos, HP.out]; omega
    · have hnx := hIt.nextEnd hlt
      have e : pos = s.size := by omega
      have E := Lib.hid e
      clear e
      go_wp2
      go_ret
      exact ⟨by rw [← E.out]; rfl, hF⟩

/-- What separates words. -/
def sepP (sep : ByteArray) : UInt8 → Bool := if sep.size = 0 then (· == 32) else inSet sep

theorem findSpace_c {d : Nat} {t : ByteArray} {k : Nat} {w : World} (hd : Blk w d #[.string t, .int .i64 k] 75) (ha : Asc t) (hs : t.size ≤ 1000000) (hk : k ≤ t.size) :
    Calls Tryz.prog 105 #[.pointer (some ⟨d, 0, none⟩)] w fun e w' => e = .returned (.int .i64 (lastIx (· == 32) (t.extract 0 k) k + 1)) ∧ Fr 0 [] [] w w' := by
  have esz : (t.extract 0 k).size = k := by simp; omega
  have hr := lastIx_range (· == 32) (t.extract 0 k) k
  go_enter Tryz.func105, Tryz.ntmps105
  go_wp2_with (fail)
  refine (before_c hd ha (by omega) hk).mono ?_
  rintro e w1 ⟨rfl, hF⟩
  go_wp2_with (fail)
  refine (lastByte_c (t.extract 0 k) 32 (by omega) w1).mono ?_
  rw [esz]
  by_cases hm : lastIx (· == 32) (t.extract 0 k) k = -1
  · have HM := Lib.hid hm
    rw [hm]
    rintro e w2 ⟨rfl, rfl⟩
    clear hr hm
    go_wp2
    go_ret
    exact ⟨by rw [HM.out]; rfl, hF⟩
  · obtain ⟨h1, h2⟩ := int_ne hm
    rintro e w2 ⟨rfl, rfl⟩
    go_wp2
    go_ret
    exact ⟨rfl, hF⟩

theorem findSep_c {d : Nat} {t sep : ByteArray} {k : Nat} {w : World} (hd : Blk w d #[.string t, .int .i64 k] 75) (ha : Asc t) (hsep : Asc sep) (hs : t.size ≤ 1000000) (hk : k ≤ t.size) :
    Calls Tryz.prog 65 #[.pointer (some ⟨d, 0, none⟩), .string sep] w fun e w' => e = .returned (.int .i64 (lastIx (sepP sep) (t.extract 0 k) k + 1)) ∧ Fr 0 [] [] w w' := by
  have esz : (t.extract 0 k).size = k := by simp; omega
  by_cases h0 : sep.size = 0
  · have e1 : sepP sep = (· == 32) := by unfold sepP; rw [if_pos h0]
    have e2 : sep.toList.isEmpty = true := by rw [str_empty]; simp [h0]
    rw [e1]
    clear e1 h0
    go_enter Tryz.func65, Tryz.ntmps65
    go_wp2_with (fail)
    refine (findSpace_c hd ha hs hk).mono ?_
    rintro e w1 ⟨rfl, hF⟩
    go_wp2
    go_ret
    exact ⟨rfl, hF⟩
  · have e1 : sepP sep = inSet sep := by unfold sepP; rw [if_neg h0]
    have e2 : sep.toList.isEmpty = false := by rw [str_empty]; simp [h0]
    have hr := lastIx_range (inSet sep) (t.extract 0 k) k
    rw [e1]
    clear e1 h0
    go_enter Tryz.func65, Tryz.ntmps65
    go_wp2_with (fail)
    refine (before_c hd ha (by omega) hk).mono ?_
    rintro e w1 ⟨rfl, hF⟩
    go_wp2_with (fail)
    refine (lastAny_c (t.extract 0 k) sep (ha.extract _ _) hsep (by omega) w1).mono ?_
    rw [esz]
    by_cases hm : lastIx (inSet sep) (t.extract 0 k) k = -1
    · have HM := Lib.hid hm
      rw [hm]
      rintro e w2 ⟨rfl, hF2⟩
      clear hr hm
      go_wp2
      go_ret
      exact ⟨by rw [HM.out]; rfl, hF.ext hF2⟩
    · obtain ⟨h1, h2⟩ := int_ne hm
      rintro e w2 ⟨rfl, hF2⟩
      go_wp2
      go_ret
      exact ⟨rfl, hF.ext hF2⟩

/-- Where the word ahead of the cursor begins. -/
def wordAt (sep t : ByteArray) (k : Nat) : Nat := (lastIx (sepP sep) (t.extract 0 k) k + 1).toNat
theorem wordAt_le (sep t : ByteArray) (k : Nat) : wordAt sep t k ≤ k := by
  have := lastIx_range (sepP sep) (t.extract 0 k) k
  unfold wordAt; omega

theorem extract_extract (t : ByteArray) (i k : Nat) (hk : k ≤ t.size) : (t.extract 0 k).extract i k = t.extract i k := by
  apply ByteArray.ext
  simp only [ByteArray.data_extract]
  apply Array.ext'
  simp only [Array.toList_extract, List.extract_eq_take_drop, List.drop_zero, Nat.sub_zero]
  rw [List.drop_take, List.take_take]
  congr 1
  omega

theorem getWord_c {d : Nat} {t sep : ByteArray} {k : Nat} {w : World} (hd : Blk w d #[.string t, .int .i64 k] 75) (ha : Asc t) (hsep : Asc sep) (hs : t.size ≤ 1000000) (hk : k ≤ t.size) :
    Calls Tryz.prog 39 #[.pointer (some ⟨d, 0, none⟩), .string sep] w fun e w' => e = .returned (.string (t.extract (wordAt sep t k) k)) ∧ Fr 0 [] [] w w' := by
  have esz : (t.extract 0 k).size = k := by simp; omega
  have hr := lastIx_range (sepP sep) (t.extract 0 k) k
  obtain ⟨n, hn⟩ : ∃ n : Nat, lastIx (sepP sep) (t.extract 0 k) k + 1 = (n : Int) := ⟨(lastIx (sepP sep) (t.extract 0 k) k + 1).toNat, by omega⟩
  have hw : wordAt sep t k = n := by unfold wordAt; omega
  have hnk : n ≤ k := by omega
  have hres : (t.extract 0 k).extract n k = t.extract n k := extract_extract t n k hk
  rw [hw]
  have HRES := Lib.hid hres
  have ESZ := Lib.hid esz
  have h2 : (n : Int) ≤ ((t.extract 0 k).size : Int) := by omega
  clear hres hw esz
  go_enter Tryz.func39, Tryz.ntmps39
  go_wp2_with (fail)
  refine (before_c hd ha (by omega) hk).mono ?_
  rintro e w1 ⟨rfl, hF⟩
  have hd1 := hF.blk0 hd
  go_wp2_with (fail)
  refine (findSep_c hd1 ha hsep hs hk).mono ?_
  rw [hn]
  clear hn hr
  rintro e w2 ⟨rfl, hF2⟩
  go_wp2
  go_ret
  refine ⟨?_, hF.ext hF2⟩
  rw [← HRES.out]
  rfl
end Go.Proofs.YtiepopbmbgfhkaaGreat
