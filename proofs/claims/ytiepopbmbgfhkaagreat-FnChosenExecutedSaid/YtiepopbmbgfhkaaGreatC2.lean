/-
  Two stands that are alike.
-/
import Derived.Test.YtiepopbmbgfhkaaGreatC1
namespace Go.Proofs.YtiepopbmbgfhkaaGreat
open Go.RowKit
set_option maxHeartbeats 2000000
set_option maxRecDepth 20000
set_option linter.unusedVariables false
set_option linter.unusedSimpArgs false

theorem OS.txIn {base : Nat} {w : World} {v : Value} {xs : List ByteArray} (h : OS base w v xs) : TxIn w v xs := by
  obtain ⟨h1, ⟨rfl, h2⟩ | ⟨g, cap, cur, rfl, hb, hg, hn, hcap, hsz, ht⟩⟩ := h
  · exact .inl ⟨List.length_eq_zero_iff.1 h2, .inl rfl⟩
  · refine .inr ⟨g, 0, cap, rfl, fun j hj => ?_⟩
    have hB : Blk w g cur 9 := hg
    rw [Nat.zero_add, hB.cell]
    have : (cur.toList.take (xs.length * 1))[j]? = (xs.map Value.string)[j]? := by rw [ht]
    rw [List.getElem?_take, if_pos (by omega)] at this
    simpa [hj] using this

theorem stands_c {w : World} {v1 v2 : Value} {lines : List ByteArray} {t : ByteArray} {k : Int} {ov : Bool} (h1 : TxIn w v1 lines) (h2 : TxIn w v2 lines) (hl : lines.length ≤ 100000) :
    Calls Tryz.prog 13 #[.agg #[v1, .string t, .int .i64 k, .bool ov], .agg #[v2, .string t, .int .i64 k, .bool ov]] w fun e w' => e = .returned (.bool true) ∧ Fr 0 [] [] w w' := by
  obtain ⟨A1, c1, rfl⟩ := h1.form
  obtain ⟨A2, c2, rfl⟩ := h2.form
  obtain ⟨M, hM⟩ : ∃ M, w.heap.size = M := ⟨_, rfl⟩
  have hF : Fr 0 [] [] w ((w.alloc (.cells #[.slice A1 lines.length c1, .string t, .int .i64 k, .bool ov] 31)).alloc (.cells #[.slice A2 lines.length c2, .string t, .int .i64 k, .bool ov] 31)) := ((Fr.refl 0 [] [] w).alloc _).alloc _
  have hx : Blk ((w.alloc (.cells #[.slice A1 lines.length c1, .string t, .int .i64 k, .bool ov] 31)).alloc (.cells #[.slice A2 lines.length c2, .string t, .int .i64 k, .bool ov] 31)) M #[.slice A1 lines.length c1, .string t, .int .i64 k, .bool ov] 31 := (Blk.new' hM.symm _ _).alloc _
  have hy : Blk ((w.alloc (.cells #[.slice A1 lines.length c1, .string t, .int .i64 k, .bool ov] 31)).alloc (.cells #[.slice A2 lines.length c2, .string t, .int .i64 k, .bool ov] 31)) (M + 1) #[.slice A2 lines.length c2, .string t, .int .i64 k, .bool ov] 31 := Blk.new' (by simp [hM]) _ _
  go_enter Tryz.func13, Tryz.ntmps13
  go_wp2_with (fail)
  go_loopw [5] (fun v5 w' => ∃ i : Nat, i ≤ lines.length ∧ v5 = .int .i64 i ∧ Fr 0 [] [] w w' ∧ Blk w' M #[.slice A1 lines.length c1, .string t, .int .i64 k, .bool ov] 31 ∧ Blk w' (M + 1) #[.slice A2 lines.length c2, .string t, .int .i64 k, .bool ov] 31) (fun v5 _ => lines.length - (intOf v5).toNat)
  case atStart => exact ⟨0, by omega, rfl, hF, hx, hy⟩
  case round =>
    clear hF hx hy
    obtain ⟨i, hi, rfl, hF, hx, hy⟩ := hrel
    have x0 : wr.cell? ⟨M, 0, none⟩ = some (.slice A1 lines.length c1) := hx.cell 0
    have y0 : wr.cell? ⟨M + 1, 0, none⟩ = some (.slice A2 lines.length c2) := hy.cell 0
    have xl := hx.lt
    have yl := hy.lt
    by_cases hlt : i < lines.length
    · have d1 : decide ((i : Int) < lines.length) = true := by simpa using hlt
      have d2 : (i : Int) < lines.length := by omega
      obtain ⟨b, o, rfl, e1⟩ : ∃ b o, A1 = some ⟨b, o, none⟩ ∧ wr.cell? ⟨b, o + i, none⟩ = some (.string lines[i]) := by
        rcases h1.fr hF with ⟨e, -⟩ | ⟨b, o, c, e, hc⟩
        · rw [e] at hlt; simp at hlt
        · simp only [Value.slice.injEq] at e
          exact ⟨b, o, e.1, hc i hlt⟩
      obtain ⟨b2, o2, rfl, e2⟩ : ∃ b o, A2 = some ⟨b, o, none⟩ ∧ wr.cell? ⟨b, o + i, none⟩ = some (.string lines[i]) := by
        rcases h2.fr hF with ⟨e, -⟩ | ⟨b, o, c, e, hc⟩
        · rw [e] at hlt; simp at hlt
        · simp only [Value.slice.injEq] at e
          exact ⟨b, o, e.1, hc i hlt⟩
      go_wp2_with (fail)
      go_quiet (fail)
      go_wp2_with (fail)
      go_roundw
      case rel => exact ⟨i + 1, by omega, by simp, hF.drewN _, hx.drewN _, hy.drewN _⟩
      case measure => simp [intOf]; omega
    · have d1 : decide ((i : Int) < lines.length) = false := by simpa using hlt
      have d2 : ¬ (i : Int) < lines.length := by omega
      go_wp2_with (fail)
      go_ret
      exact ⟨rfl, hF⟩
end Go.Proofs.YtiepopbmbgfhkaaGreat
