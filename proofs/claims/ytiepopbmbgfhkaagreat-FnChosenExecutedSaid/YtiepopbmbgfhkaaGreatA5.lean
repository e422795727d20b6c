/-
  The words of a document: zzLastIndexAny, the Find.. and GetWord.. functions, DisplayCursorPosition, Delete.
-/
import Derived.Test.YtiepopbmbgfhkaaGreatA3
import Derived.Test.YtiepopbmbgfhkaaGreatA4
namespace Go.Proofs.YtiepopbmbgfhkaaGreat
open Go.RowKit
set_option maxHeartbeats 1000000
set_option maxRecDepth 20000
set_option linter.unusedVariables false
set_option linter.unusedSimpArgs false

/-- An iterator over a text, at a place. -/
def It (w : World) (g : Nat) (s : ByteArray) (pos : Nat) : Prop := w.heap[g]? = some (.stringIter s pos)
def setIter (w : World) (g : Nat) (s : ByteArray) (pos : Nat) : World := { w with heap := w.heap.setIfInBounds g (.stringIter s pos) }
theorem It.lt {w : World} {g : Nat} {s : ByteArray} {pos : Nat} (h : It w g s pos) : g < w.heap.size := lt_of_block h
theorem It.next {w : World} {g : Nat} {s : ByteArray} {pos : Nat} (h : It w g s pos) (hlt : pos < s.size) (ha : s[pos].toNat < 128) (ty : TypeId) :
    (Instr.next (.pointer (some ⟨g, 0, none⟩)) true ty).run Tryz.prog w = .ok (.tuple #[.bool true, .int .i64 pos, .int .i32 (s[pos].toNat : Int)]) (setIter w g s (pos + 1)) := by
  unfold It at h
  simp only [Instr.next, getObj, setObj, Sem.run_bind, Sem.run, h, Result.andThen, hlt, if_true, decode_asc s pos hlt ha]
  simp [goInt, Sem.run, h, setIter]
theorem It.nextEnd {w : World} {g : Nat} {s : ByteArray} {pos : Nat} (h : It w g s pos) (hlt : ¬ pos < s.size) (ty : TypeId) :
    (Instr.next (.pointer (some ⟨g, 0, none⟩)) true ty).run Tryz.prog w = .ok (.tuple #[.bool false]) w := by
  unfold It at h
  simp [Instr.next, getObj, Sem.run, h, hlt]
theorem It.set {w : World} {g : Nat} {s : ByteArray} {pos pos' : Nat} (h : It w g s pos) : It (setIter w g s pos') g s pos' := by
  have := h.lt
  unfold It setIter at *
  simp [this]
theorem It.iterPos {w : World} {g : Nat} {s : ByteArray} {pos : Nat} (h : It w g s pos) : w.iterPos g = pos := by
  unfold It at h
  simp [World.iterPos, h]
theorem It.ext {w w1 : World} {g base : Nat} {s : ByteArray} {pos : Nat} (h : It w g s pos) (hF : Fr base [] [] w w1) : It w1 g s pos := by
  have := h.lt
  unfold It at *
  rw [hF.keep g this (.inr ⟨by simp, by simp⟩)]
  exact h
theorem Fr.setIter {base : Nat} {ts bs : List Nat} {w w1 : World} {g : Nat} (h : Fr base ts bs w w1) (hg : w.heap.size ≤ g) (s : ByteArray) (pos : Nat) : Fr base ts bs w (setIter w1 g s pos) :=
  ⟨h.os, h.tape, h.output, by show _ ≤ (w1.heap.setIfInBounds g _).size; simpa using h.size, fun k hk hc => by
    have e := h.keep k hk hc
    rw [← e]
    show (w1.heap.setIfInBounds g _)[k]? = _
    rw [Array.getElem?_setIfInBounds_ne (by omega)]⟩
theorem It.new (w : World) (s : ByteArray) : It (w.iter s 0) w.heap.size s 0 := World.iter_heap w s 0

theorem lastAny_c (s chars : ByteArray) (hs : Asc s) (hc : Asc chars) (hsz : s.size ≤ 1000000000) (w : World) :
    Calls Tryz.prog 106 #[.string s, .string chars] w fun e w' => e = .returned (.int .i64 (lastIx (inSet chars) s s.size)) ∧ Fr 0 [] [] w w' := by
  go_enter Tryz.func106, Tryz.ntmps106
  go_wp2
  go_loopw [5] (fun v w' => ∃ pos : Nat, pos ≤ s.size ∧ It w' w.heap.size s pos ∧ Fr 0 [] [] w w' ∧ v = .int .i64 (lastIx (inSet chars) s pos)) (fun _ w' => s.size - w'.iterPos w.heap.size)
  case atStart => exact ⟨0, by omega, It.new _ _, iter_fr _ _ _ _ _ _, rfl⟩
  case round =>
    obtain ⟨pos, hpos, hIt, hF, rfl⟩ := hrel
    by_cases hlt : pos < s.size
    · have hnx := hIt.next hlt (hs pos hlt)
      have hps := hIt.iterPos
      have HP := Lib.hid hps
      clear hps
      cases hin : inSet chars s[pos] with
      | true =>
        have hr : lastIx (inSet chars) s (pos + 1) = (pos : Int) := by unfold lastIx; rw [getD_lt hlt, hin]; rfl
        have HR := Lib.hid hr
        clear hr
        go_wp2_with (fail)
        refine (inSet_c s[pos] chars hc _).mono ?_
        rintro e w1 ⟨rfl, hF1⟩
        have hI1 := (hIt.set (pos' := pos + 1)).ext hF1
        have hF2 := (hF.setIter (Nat.le_refl _) s (pos + 1)).ext hF1
        go_wp2
        go_roundw
        case rel => exact ⟨pos + 1, by omega, hI1, hF2, by rw [HR.out]⟩
        case measure => rw [hI1.iterPos, HP.out]; omega
      | false =>
        have hr : lastIx (inSet chars) s (pos + 1) = lastIx (inSet chars) s pos := by conv => lhs; unfold lastIx
                                                                                      rw [getD_lt hlt, hin]; rfl
        have HR := Lib.hid hr
        clear hr
        go_wp2_with (fail)
        refine (inSet_c s[pos] chars hc _).mono ?_
        rintro e w1 ⟨rfl, hF1⟩
        have hI1 := (hIt.set (pos' := pos + 1)).ext hF1
        have hF2 := (hF.setIter (Nat.le_refl _) s (pos + 1)).ext hF1
        go_wp2
        go_roundw
        case rel => exact ⟨pos + 1, by omega, hI1, hF2, by rw [HR.out]⟩
        case measure => rw [hI1.iterPos, HP.out]; omega
    · have hnx := hIt.nextEnd hlt
      have e : pos = s.size := by omega
      have E := Lib.hid e
      clear e
      go_wp2
      go_ret
      exact ⟨by rw [← E.out]; rfl, hF⟩

/-- What separates words. -/
def sepP (sep : ByteArray) : UInt8 → Bool := if sep.size = 0 then (· == 32) else inSet sep

theorem findSpace_c {d : Nat} {t : ByteArray} {k : Nat} {w : World} (hd : Blk w d #[.string t, .int .i64 k] 75) (ha : Asc t) (hs : t.size ≤ 1000000) (hk : k ≤ t.size) :
    Calls Tryz.prog 105 #[.pointer (some ⟨d, 0, none⟩)] w fun e w' => e = .returned (.int .i64 (lastIx (· == 32) (t.extract 0 k) k + 1)) ∧ Fr 0 [] [] w w' := by
  have esz : (t.extract 0 k).size = k := by simp; omega
  have hr := lastIx_range (· == 32) (t.extract 0 k) k
  go_enter Tryz.func105, Tryz.ntmps105
  go_wp2_with (fail)
  refine (before_c hd ha (by omega) hk).mono ?_
  rintro e w1 ⟨rfl, hF⟩
  go_wp2_with (fail)
  refine (lastByte_c (t.extract 0 k) 32 (by omega) w1).mono ?_
  rw [esz]
  by_cases hm : lastIx (· == 32) (t.extract 0 k) k = -1
  · have HM := Lib.hid hm
    rw [hm]
    rintro e w2 ⟨rfl, rfl⟩
    clear hr hm
    go_wp2
    go_ret
    exact ⟨by rw [HM.out]; rfl, hF⟩
  · obtain ⟨h1, h2⟩ := int_ne hm
    rintro e w2 ⟨rfl, rfl⟩
    go_wp2
    go_ret
    exact ⟨rfl, hF⟩

theorem findSep_c {d : Nat} {t sep : ByteArray} {k : Nat} {w : World} (hd : Blk w d #[.string t, .int .i64 k] 75) (ha : Asc t) (hsep : Asc sep) (hs : t.size ≤ 1000000) (hk : k ≤ t.size) :
    Calls Tryz.prog 65 #[.pointer (some ⟨d, 0, none⟩), .string sep] w fun e w' => e = .returned (.int .i64 (lastIx (sepP sep) (t.extract 0 k) k + 1)) ∧ Fr 0 [] [] w w' := by
  have esz : (t.extract 0 k).size = k := by simp; omega
  by_cases h0 : sep.size = 0
  · have e1 : sepP sep = (· == 32) := by unfold sepP; rw [if_pos h0]
    have e2 : sep.toList.isEmpty = true := by rw [str_empty]; simp [h0]
    rw [e1]
    clear e1 h0
    go_enter Tryz.func65, Tryz.ntmps65
    go_wp2_with (fail)
    refine (findSpace_c hd ha hs hk).mono ?_
    rintro e w1 ⟨rfl, hF⟩
    go_wp2
    go_ret
    exact ⟨rfl, hF⟩
  · have e1 : sepP sep = inSet sep := by unfold sepP; rw [if_neg h0]
    have e2 : sep.toList.isEmpty = false := by rw [str_empty]; simp [h0]
    have hr := lastIx_range (inSet sep) (t.extract 0 k) k
    rw [e1]
    clear e1 h0
    go_enter Tryz.func65, Tryz.ntmps65
    go_wp2_with (fail)
    refine (before_c hd ha (by omega) hk).mono ?_
    rintro e w1 ⟨rfl, hF⟩
    go_wp2_with (fail)
    refine (lastAny_c (t.extract 0 k) sep (ha.extract _ _) hsep (by omega) w1).mono ?_
    rw [esz]
    by_cases hm : lastIx (inSet sep) (t.extract 0 k) k = -1
    · have HM := Lib.hid hm
      rw [hm]
      rintro e w2 ⟨rfl, hF2⟩
      clear hr hm
      go_wp2
      go_ret
      exact ⟨by rw [HM.out]; rfl, hF.ext hF2⟩
    · obtain ⟨h1, h2⟩ := int_ne hm
      rintro e w2 ⟨rfl, hF2⟩
      go_wp2
      go_ret
      exact ⟨rfl, hF.ext hF2⟩

/-- Where the word ahead of the cursor begins. -/
def wordAt (sep t : ByteArray) (k : Nat) : Nat := (lastIx (sepP sep) (t.extract 0 k) k + 1).toNat
theorem wordAt_le (sep t : ByteArray) (k : Nat) : wordAt sep t k ≤ k := by
  have := lastIx_range (sepP sep) (t.extract 0 k) k
  unfold wordAt; omega

theorem extract_extract (t : ByteArray) (i k : Nat) (hk : k ≤ t.size) : (t.extract 0 k).extract i k = t.extract i k := by
  apply ByteArray.ext
  simp only [ByteArray.data_extract]
  apply Array.ext'
  simp only [Array.toList_extract, List.extract_eq_take_drop, List.drop_zero, Nat.sub_zero]
  rw [List.drop_take, List.take_take]
  congr 1
  omega

theorem getWord_c {d : Nat} {t sep : ByteArray} {k : Nat} {w : World} (hd : Blk w d #[.string t, .int .i64 k] 75) (ha : Asc t) (hsep : Asc sep) (hs : t.size ≤ 1000000) (hk : k ≤ t.size) :
    Calls Tryz.prog 39 #[.pointer (some ⟨d, 0, none⟩), .string sep] w fun e w' => e = .returned (.string (t.extract (wordAt sep t k) k)) ∧ Fr 0 [] [] w w' := by
  have esz : (t.extract 0 k).size = k := by simp; omega
  have hr := lastIx_range (sepP sep) (t.extract 0 k) k
  obtain ⟨n, hn⟩ : ∃ n : Nat, lastIx (sepP sep) (t.extract 0 k) k + 1 = (n : Int) := ⟨(lastIx (sepP sep) (t.extract 0 k) k + 1).toNat, by omega⟩
  have hw : wordAt sep t k = n := by unfold wordAt; omega
  have hnk : n ≤ k := by omega
  have hres : (t.extract 0 k).extract n k = t.extract n k := extract_extract t n k hk
  rw [hw]
  have HRES := Lib.hid hres
  have ESZ := Lib.hid esz
  have h2 : (n : Int) ≤ ((t.extract 0 k).size : Int) := by omega
  clear hres hw esz
  go_enter Tryz.func39, Tryz.ntmps39
  go_wp2_with (fail)
  refine (before_c hd ha (by omega) hk).mono ?_
  rintro e w1 ⟨rfl, hF⟩
  have hd1 := hF.blk0 hd
  go_wp2_with (fail)
  refine (findSep_c hd1 ha hsep hs hk).mono ?_
  rw [hn]
  clear hn hr
  rintro e w2 ⟨rfl, hF2⟩
  go_wp2
  go_ret
  refine ⟨?_, hF.ext hF2⟩
  rw [← HRES.out]
  rfl
end Go.Proofs.YtiepopbmbgfhkaaGreat
