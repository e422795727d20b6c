/-
  The laws' own functions: sizes that fit; printable texts.
  Two stands that are alike.
-/
import Derived.Test.YtiepopbmbgfhkaaGreatQ25
namespace Go.Proofs.YtiepopbmbgfhkaaGreat
open Go.RowKit
set_option maxHeartbeats 2000000
set_option maxRecDepth 20000
set_option linter.unusedVariables false
set_option linter.unusedSimpArgs false

def SomeBool (w : World) (e : Ending) (w' : World) : Prop := (∃ r, e = .returned (.bool r)) ∧ Fr 0 [] [] w w'
theorem some_bool {w w' : World} {r : Bool} (h : Fr 0 [] [] w w') : SomeBool w (.returned (.bool r)) w' := ⟨⟨r, rfl⟩, h⟩

theorem fits4_c {w : World} {v : Value} {ys : List ByteArray} (h : TxIn w v ys) : Calls Tryz.prog 14 #[v] w (SomeBool w) := by
  obtain ⟨A, c, rfl⟩ := h.form
  by_cases hl : ys.length ≤ 2147483647
  · have d0 : ¬ (2147483647 : Int) < ys.length := by omega
    go_enter Tryz.func14, Tryz.ntmps14
    go_wp2_with (fail)
    go_loop [10] (fun v10 => ∃ i : Nat, i ≤ ys.length ∧ v10 = .int .i64 i) (fun v10 => ys.length - (intOf v10).toNat)
    case atStart => exact ⟨0, by omega, rfl⟩
    case round =>
      obtain ⟨i, hi, rfl⟩ := hrel
      by_cases hlt : i < ys.length
      · have d1 : decide ((i : Int) < ys.length) = true := by simpa using hlt
        have d2 : (i : Int) < ys.length := by omega
        obtain ⟨b, o, rfl, hcell⟩ : ∃ b o, A = some ⟨b, o, none⟩ ∧ w.cell? ⟨b, o + i, none⟩ = some (.string ys[i]) := by
          rcases h with ⟨e, -⟩ | ⟨b, o, c, e, hc⟩
          · rw [e] at hlt; simp at hlt
          · simp only [Value.slice.injEq] at e
            exact ⟨b, o, e.1, hc i hlt⟩
        by_cases hs : ys[i].size ≤ 2147483647
        · have d3 : ¬ (2147483647 : Int) < ys[i].size := by omega
          go_wp2_with (fail)
          go_round
          case rel => exact ⟨i + 1, by omega, by simp⟩
          case measure => simp [intOf]; omega
        · have d3 : (2147483647 : Int) < ys[i].size := by omega
          go_wp2_with (fail)
          go_ret
          exact some_bool (Fr.refl _ _ _ _)
      · have d1 : decide ((i : Int) < ys.length) = false := by simpa using hlt
        have d2 : ¬ (i : Int) < ys.length := by omega
        go_wp2_with (fail)
        go_ret
        exact some_bool (Fr.refl _ _ _ _)
  · have d0 : (2147483647 : Int) < ys.length := by omega
    go_enter Tryz.func14, Tryz.ntmps14
    go_wp2_with (fail)
    go_ret
    exact some_bool (Fr.refl _ _ _ _)

theorem fits3_c (w : World) (s t : ByteArray) : Calls Tryz.prog 36 #[.agg #[.string s, .string t]] w (SomeBool w) := by
  by_cases h1 : (2147483647 : Int) < s.size
  · go_enter Tryz.func36, Tryz.ntmps36
    go_wp2_with (fail)
    go_ret
    exact some_bool ((Fr.refl _ _ _ _).alloc _)
  · by_cases h2 : (2147483647 : Int) < t.size
    · go_enter Tryz.func36, Tryz.ntmps36
      go_wp2_with (fail)
      go_ret
      exact some_bool ((Fr.refl _ _ _ _).alloc _)
    · go_enter Tryz.func36, Tryz.ntmps36
      go_wp2_with (fail)
      go_ret
      exact some_bool ((Fr.refl _ _ _ _).alloc _)

theorem fits2_c {w : World} {v : Value} {ys : List Pk} (h : PkIn w v ys) : Calls Tryz.prog 18 #[v] w (SomeBool w) := by
  obtain ⟨A, c, rfl⟩ := h.form
  by_cases hl : ys.length ≤ 2147483647
  · have d0 : ¬ (2147483647 : Int) < ys.length := by omega
    go_enter Tryz.func18, Tryz.ntmps18
    go_wp2_with (fail)
    go_loopw [10] (fun v10 w' => ∃ i : Nat, i ≤ ys.length ∧ v10 = .int .i64 i ∧ Fr 0 [] [] w w') (fun v10 _ => ys.length - (intOf v10).toNat)
    case atStart => exact ⟨0, by omega, rfl, Fr.refl _ _ _ _⟩
    case round =>
      obtain ⟨i, hi, rfl, hF⟩ := hrel
      by_cases hlt : i < ys.length
      · have d1 : decide ((i : Int) < ys.length) = true := by simpa using hlt
        have d2 : (i : Int) < ys.length := by omega
        obtain ⟨b, o, rfl, e1, e2⟩ : ∃ b o, A = some ⟨b, o, none⟩ ∧ wr.cell? ⟨b, o + i * 2, none⟩ = some (.string ys[i].1) ∧ wr.cell? ⟨b, o + i * 2 + 1, none⟩ = some (.string ys[i].2) := by
          rcases h.fr hF with ⟨e, -⟩ | ⟨b, o, c, e, hc⟩
          · rw [e] at hlt; simp at hlt
          · simp only [Value.slice.injEq] at e
            exact ⟨b, o, e.1, hc i hlt⟩
        go_wp2_with (fail)
        refine (fits3_c _ _ _).mono ?_
        rintro e w2 ⟨⟨r, rfl⟩, hF2⟩
        have hF3 := (hF.alloc (.cells #[.string ys[i].1, .string ys[i].2] 29)).trans hF2
        cases r with
        | true =>
          go_wp2_with (fail)
          go_roundw
          case rel => exact ⟨i + 1, by omega, by simp, hF3⟩
          case measure => simp [intOf]; omega
        | false =>
          go_wp2_with (fail)
          go_ret
          exact some_bool hF3
      · have d1 : decide ((i : Int) < ys.length) = false := by simpa using hlt
        have d2 : ¬ (i : Int) < ys.length := by omega
        go_wp2_with (fail)
        go_ret
        exact some_bool hF
  · have d0 : (2147483647 : Int) < ys.length := by omega
    go_enter Tryz.func18, Tryz.ntmps18
    go_wp2_with (fail)
    go_ret
    exact some_bool (Fr.refl _ _ _ _)

/-- A session as it comes in. -/
structure Raw where
  pre : ByteArray
  most : Int
  cols : Int
  down : Bool
  start : Bool
  sep : ByteArray
  begun : ByteArray
  plain : Bool
  exit : ByteArray
  offs : List Pk
  hist : List ByteArray
def Raw.cells (S : Raw) (ov hv : Value) : Array Value :=
  #[.string S.pre, ov, .int .i64 S.most, .int .i64 S.cols, .bool S.down, .bool S.start, .string S.sep, hv, .string S.begun, .bool S.plain, .string S.exit]

theorem fits1_c {w : World} {S : Raw} {ov hv : Value} (hO : PkIn w ov S.offs) (hH : TxIn w hv S.hist) : Calls Tryz.prog 9 #[.agg (S.cells ov hv)] w (SomeBool w) := by
  obtain ⟨oA, oc, rfl⟩ := hO.form
  obtain ⟨hA, hcc, rfl⟩ := hH.form
  have hFa : Fr 0 [] [] w (w.alloc (.cells (S.cells (.slice oA S.offs.length oc) (.slice hA S.hist.length hcc)) 25)) := (Fr.refl _ _ _ _).alloc _
  obtain ⟨M, hM⟩ : ∃ M, w.heap.size = M := ⟨_, rfl⟩
  have hB : Blk (w.alloc (.cells (S.cells (.slice oA S.offs.length oc) (.slice hA S.hist.length hcc)) 25)) M (S.cells (.slice oA S.offs.length oc) (.slice hA S.hist.length hcc)) 25 := Blk.new' hM.symm _ _
  have h18 := fits2_c (hO.fr hFa)
  have key : ∀ (w1 : World), Fr 0 [] [] (w.alloc (.cells (S.cells (.slice oA S.offs.length oc) (.slice hA S.hist.length hcc)) 25)) w1 →
      Calls Tryz.prog 14 #[.slice hA S.hist.length hcc] w1 (SomeBool w1) ∧ w1.cell? ⟨M, 6, none⟩ = some (.string S.sep) ∧ w1.cell? ⟨M, 7, none⟩ = some (.slice hA S.hist.length hcc) ∧ w1.cell? ⟨M, 8, none⟩ = some (.string S.begun) ∧ w1.cell? ⟨M, 10, none⟩ = some (.string S.exit) ∧ Fr 0 [] [] w w1 ∧ M < w1.heap.size :=
    fun w1 hF => ⟨fits4_c ((hH.fr hFa).fr hF), (hF.blk0 hB).cell 6, (hF.blk0 hB).cell 7, (hF.blk0 hB).cell 8, (hF.blk0 hB).cell 10, hFa.trans hF, (hF.blk0 hB).lt⟩
  have hFw := hFa
  unfold Raw.cells at key h18 hFa ⊢
  clear hB
  by_cases h1 : (2147483647 : Int) < S.pre.size
  · go_enter Tryz.func9, Tryz.ntmps9
    go_wp2_with (fail)
    go_ret
    exact some_bool hFa
  · go_enter Tryz.func9, Tryz.ntmps9
    go_wp2_with (fail)
    refine h18.mono ?_
    rintro e w1 ⟨⟨r, rfl⟩, hF1⟩
    obtain ⟨k14, k6, k7, k8, k10, hFr, hml⟩ := key w1 hF1
    cases r with
    | false =>
      go_wp2_with (fail)
      go_ret
      exact some_bool hFr
    | true =>
      by_cases h2 : (2147483647 : Int) < S.sep.size
      · go_wp2_with (fail)
        go_ret
        exact some_bool hFr
      · go_wp2_with (fail)
        refine k14.mono ?_
        rintro e w2 ⟨⟨r, rfl⟩, hF2⟩
        obtain ⟨-, k6, k7, k8, k10, hFr, hml⟩ := key w2 (hF1.trans hF2)
        cases r with
        | false =>
          go_wp2_with (fail)
          go_ret
          exact some_bool hFr
        | true =>
          by_cases h3 : (2147483647 : Int) < S.begun.size
          · go_wp2_with (fail)
            go_ret
            exact some_bool hFr
          · by_cases h4 : (2147483647 : Int) < S.exit.size
            · go_wp2_with (fail)
              go_ret
              exact some_bool hFr
            · go_wp2_with (fail)
              go_ret
              exact some_bool hFr

def prB (s : ByteArray) : Bool := s.data.toList.all (fun b => decide (32 ≤ b.toNat) && decide (b.toNat ≤ 126)) && decide (s.size ≤ 1000)
theorem prB_prn {s : ByteArray} (h : prB s = true) : Prn s ∧ s.size ≤ 1000 := by
  unfold prB at h
  simp only [Bool.and_eq_true, List.all_eq_true, decide_eq_true_eq] at h
  refine ⟨fun i hi => ?_, h.2⟩
  have := h.1 s[i] (by
    have hi' : i < s.data.size := hi
    have : s[i] = s.data[i] := rfl
    rw [this]
    exact Array.mem_toList_iff.2 (Array.getElem_mem hi'))
  omega
theorem prB_not {s : ByteArray} {i : Nat} (hi : i < s.size) (h : s[i].toNat < 32 ∨ 126 < s[i].toNat) : prB s = false := by
  cases e : prB s with
  | false => rfl
  | true =>
    have := (prB_prn e).1 i hi
    omega
theorem prB_all {s : ByteArray} (h : ∀ i (hi : i < s.size), 32 ≤ s[i].toNat ∧ s[i].toNat ≤ 126) : prB s = decide (s.size ≤ 1000) := by
  unfold prB
  have : s.data.toList.all (fun b => decide (32 ≤ b.toNat) && decide (b.toNat ≤ 126)) = true := by
    rw [List.all_eq_true]
    intro b hb
    obtain ⟨i, hi, rfl⟩ := List.getElem_of_mem hb
    have := h i (by simpa using hi)
    have e : s.data.toList[i] = s[i]'(by simpa using hi) := by rw [Array.getElem_toList]; rfl
    rw [e]
    simpa using this
  rw [this, Bool.true_and]

theorem printable_c (s : ByteArray) (hs : s.size ≤ 9223372036854775807) (w : World) : Calls Tryz.prog 11 #[.string s] w fun e w' => e = .returned (.bool (prB s)) ∧ w = w' := by
  go_enter Tryz.func11, Tryz.ntmps11
  go_wp2_with (fail)
  go_loop [3] (fun v3 => ∃ i : Nat, i ≤ s.size ∧ v3 = .int .i64 i ∧ ∀ j (hj : j < s.size), j < i → 32 ≤ s[j].toNat ∧ s[j].toNat ≤ 126) (fun v3 => s.size - (intOf v3).toNat)
  case atStart => exact ⟨0, by omega, rfl, fun j hj h => by omega⟩
  case round =>
    obtain ⟨i, hi, rfl, hall⟩ := hrel
    have HA := Lib.hid hall
    clear hall
    by_cases hlt : i < s.size
    · have d1 : decide ((i : Int) < s.size) = true := by simpa using hlt
      have d2 : (i : Int) < s.size := by omega
      by_cases h1 : s[i].toNat < 32
      · have e1 : ((s[i].toNat : Int)) < 32 := by omega
        go_wp2_with (fail)
        go_ret
        exact ⟨by rw [prB_not hlt (.inl h1)]; rfl, rfl⟩
      · by_cases h2 : 126 < s[i].toNat
        · have e1 : ¬ ((s[i].toNat : Int)) < 32 := by omega
          have e2 : (126 : Int) < (s[i].toNat : Int) := by omega
          go_wp2_with (fail)
          go_ret
          exact ⟨by rw [prB_not hlt (.inr h2)]; rfl, rfl⟩
        · have e1 : ¬ ((s[i].toNat : Int)) < 32 := by omega
          have e2 : ¬ (126 : Int) < (s[i].toNat : Int) := by omega
          go_wp2_with (fail)
          go_round
          case rel =>
            refine ⟨i + 1, by omega, by simp, fun j hj hji => ?_⟩
            by_cases e : j = i
            · subst e; omega
            · exact HA.out j hj (by omega)
          case measure => simp [intOf]; omega
    · have d1 : decide ((i : Int) < s.size) = false := by simpa using hlt
      have d2 : ¬ (i : Int) < s.size := by omega
      go_wp2_with (fail)
      go_ret
      refine ⟨?_, rfl⟩
      rw [prB_all fun j hj => HA.out j hj (by omega)]
      simp
      omega
end Go.Proofs.YtiepopbmbgfhkaaGreat

namespace Go.Proofs.YtiepopbmbgfhkaaGreat
open Go.RowKit
set_option maxHeartbeats 2000000
set_option maxRecDepth 20000
set_option linter.unusedVariables false
set_option linter.unusedSimpArgs false

theorem OS.txIn {base : Nat} {w : World} {v : Value} {xs : List ByteArray} (h : OS base w v xs) : TxIn w v xs := by
  obtain ⟨h1, ⟨rfl, h2⟩ | ⟨g, cap, cur, rfl, hb, hg, hn, hcap, hsz, ht⟩⟩ := h
  · exact .inl ⟨List.length_eq_zero_iff.1 h2, .inl rfl⟩
  · refine .inr ⟨g, 0, cap, rfl, fun j hj => ?_⟩
    have hB : Blk w g cur 9 := hg
    rw [Nat.zero_add, hB.cell]
    have : (cur.toList.take (xs.length * 1))[j]? = (xs.map Value.string)[j]? := by rw [ht]
    rw [List.getElem?_take, if_pos (by omega)] at this
    simpa [hj] using this

theorem stands_c {w : World} {v1 v2 : Value} {lines : List ByteArray} {t : ByteArray} {k : Int} {ov : Bool} (h1 : TxIn w v1 lines) (h2 : TxIn w v2 lines) (hl : lines.length ≤ 100000) :
    Calls Tryz.prog 13 #[.agg #[v1, .string t, .int .i64 k, .bool ov], .agg #[v2, .string t, .int .i64 k, .bool ov]] w fun e w' => e = .returned (.bool true) ∧ Fr 0 [] [] w w' := by
  obtain ⟨A1, c1, rfl⟩ := h1.form
  obtain ⟨A2, c2, rfl⟩ := h2.form
  obtain ⟨M, hM⟩ : ∃ M, w.heap.size = M := ⟨_, rfl⟩
  have hF : Fr 0 [] [] w ((w.alloc (.cells #[.slice A1 lines.length c1, .string t, .int .i64 k, .bool ov] 31)).alloc (.cells #[.slice A2 lines.length c2, .string t, .int .i64 k, .bool ov] 31)) := ((Fr.refl 0 [] [] w).alloc _).alloc _
  have hx : Blk ((w.alloc (.cells #[.slice A1 lines.length c1, .string t, .int .i64 k, .bool ov] 31)).alloc (.cells #[.slice A2 lines.length c2, .string t, .int .i64 k, .bool ov] 31)) M #[.slice A1 lines.length c1, .string t, .int .i64 k, .bool ov] 31 := (Blk.new' hM.symm _ _).alloc _
  have hy : Blk ((w.alloc (.cells #[.slice A1 lines.length c1, .string t, .int .i64 k, .bool ov] 31)).alloc (.cells #[.slice A2 lines.length c2, .string t, .int .i64 k, .bool ov] 31)) (M + 1) #[.slice A2 lines.length c2, .string t, .int .i64 k, .bool ov] 31 := Blk.new' (by simp [hM]) _ _
  go_enter Tryz.func13, Tryz.ntmps13
  go_wp2_with (fail)
  go_loopw [5] (fun v5 w' => ∃ i : Nat, i ≤ lines.length ∧ v5 = .int .i64 i ∧ Fr 0 [] [] w w' ∧ Blk w' M #[.slice A1 lines.length c1, .string t, .int .i64 k, .bool ov] 31 ∧ Blk w' (M + 1) #[.slice A2 lines.length c2, .string t, .int .i64 k, .bool ov] 31) (fun v5 _ => lines.length - (intOf v5).toNat)
  case atStart => exact ⟨0, by omega, rfl, hF, hx, hy⟩
  case round =>
    clear hF hx hy
    obtain ⟨i, hi, rfl, hF, hx, hy⟩ := hrel
    have x0 : wr.cell? ⟨M, 0, none⟩ = some (.slice A1 lines.length c1) := hx.cell 0
    have y0 : wr.cell? ⟨M + 1, 0, none⟩ = some (.slice A2 lines.length c2) := hy.cell 0
    have xl := hx.lt
    have yl := hy.lt
    by_cases hlt : i < lines.length
    · have d1 : decide ((i : Int) < lines.length) = true := by simpa using hlt
      have d2 : (i : Int) < lines.length := by omega
      obtain ⟨b, o, rfl, e1⟩ : ∃ b o, A1 = some ⟨b, o, none⟩ ∧ wr.cell? ⟨b, o + i, none⟩ = some (.string lines[i]) := by
        rcases h1.fr hF with ⟨e, -⟩ | ⟨b, o, c, e, hc⟩
        · rw [e] at hlt; simp at hlt
        · simp only [Value.slice.injEq] at e
          exact ⟨b, o, e.1, hc i hlt⟩
      obtain ⟨b2, o2, rfl, e2⟩ : ∃ b o, A2 = some ⟨b, o, none⟩ ∧ wr.cell? ⟨b, o + i, none⟩ = some (.string lines[i]) := by
        rcases h2.fr hF with ⟨e, -⟩ | ⟨b, o, c, e, hc⟩
        · rw [e] at hlt; simp at hlt
        · simp only [Value.slice.injEq] at e
          exact ⟨b, o, e.1, hc i hlt⟩
      go_wp2_with (fail)
      go_quiet (fail)
      go_wp2_with (fail)
      go_roundw
      case rel => exact ⟨i + 1, by omega, by simp, hF.drewN _, hx.drewN _, hy.drewN _⟩
      case measure => simp [intOf]; omega
    · have d1 : decide ((i : Int) < lines.length) = false := by simpa using hlt
      have d2 : ¬ (i : Int) < lines.length := by omega
      go_wp2_with (fail)
      go_ret
      exact ⟨rfl, hF⟩
end Go.Proofs.YtiepopbmbgfhkaaGreat
