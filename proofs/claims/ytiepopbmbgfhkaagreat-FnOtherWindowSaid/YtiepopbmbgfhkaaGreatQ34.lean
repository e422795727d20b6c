/-
  The lines of a document of one line.
  The cursor's column; how far it may go.
  Deleting behind the cursor; the word ahead with the blanks next to it.
  What the keys are bound to.
-/
import Derived.Test.YtiepopbmbgfhkaaGreatQ11
namespace Go.Proofs.YtiepopbmbgfhkaaGreat
open Go.RowKit
set_option maxHeartbeats 2000000
set_option maxRecDepth 20000
set_option linter.unusedVariables false
set_option linter.unusedSimpArgs false

theorem one_byte {t : ByteArray} {i : Nat} (hi : i < t.size) (h : t[i] ≠ 10) : ((t.extract i (i + 1)).toList == [10]) = false := by
  have e : (t.extract i (i + 1)).toList = [t[i]] := by
    have h1 : (t.extract i (i + 1)).data = #[t[i]] := by
      rw [ByteArray.data_extract]
      apply Array.ext'
      have hi' : i < t.data.toList.length := by simpa using hi
      rw [Array.toList_extract, List.extract_eq_take_drop, List.drop_eq_getElem_cons hi', show i + 1 - i = 1 by omega]
      simp
      rfl
    rw [ByteArray.toList_eq, h1]
  rw [e]
  simpa using h

/-- No line end is found. -/
theorem index_c (t : ByteArray) (ht : Prn t) (hs : t.size ≤ 1000000) (w : World) : Calls Tryz.prog 142 #[.string t, .string ⟨#[10]⟩] w fun e w' => e = .returned (.int .i64 (-1)) ∧ w = w' := by
  go_enter Tryz.func142, Tryz.ntmps142
  go_wp2_with (fail)
  go_loopw [5] (fun v5 w' => ∃ i : Nat, i ≤ t.size ∧ v5 = .int .i64 i ∧ w' = w) (fun v5 _ => t.size - (intOf v5).toNat)
  case atStart => exact ⟨0, by omega, rfl, rfl⟩
  obtain ⟨i, hi, rfl, rfl⟩ := hrel
  by_cases hlt : i < t.size
  · have d1 : decide ((i : Int) + 1 ≤ t.size) = true := by simp; omega
    have d2 : (i : Int) + 1 ≤ t.size := by omega
    have hne := one_byte hlt (fun e => by have := (ht i hlt).1; rw [e] at this; simp at this)
    go_wp2_with (fail)
    go_roundw
    case rel => exact ⟨i + 1, by omega, by simp, by first | rfl | trivial⟩
    case measure => simp [intOf]; omega
  · have d1 : decide ((i : Int) + 1 ≤ t.size) = false := by simp; omega
    have d2 : ¬ (i : Int) + 1 ≤ t.size := by omega
    go_wp2_with (fail)
    go_ret
    exact ⟨rfl, rfl⟩

/-- What gives the one line of a text. -/
def LinePost (t : ByteArray) (w : World) (e : Ending) (w' : World) : Prop := ∃ g c cs, e = .returned (.slice (some ⟨g, 0, none⟩) 1 c) ∧ Blk w' g cs 9 ∧ cs[0]? = some (.string t) ∧ Fr 0 [] [] w w'
theorem split_c (t : ByteArray) (ht : Prn t) (hs : t.size ≤ 1000000) (w : World) : Calls Tryz.prog 196 #[.string t, .string ⟨#[10]⟩] w (LinePost t w) := by
  obtain ⟨M, hM⟩ : ∃ M, w.heap.size = M := ⟨_, rfl⟩
  have hO : OS M w (.slice none 0 0) [] := ⟨rfl, .inl ⟨rfl, rfl⟩⟩
  go_enter Tryz.func196, Tryz.ntmps196
  go_wp2_with (fail)
  go_loopw [0, 5] (fun v0 v5 w' => v0 = .string t ∧ v5 = .slice none 0 0 ∧ w' = w) (fun _ _ _ => 0)
  case atStart => exact ⟨rfl, rfl, rfl⟩
  obtain ⟨rfl, rfl, rfl⟩ := hrel
  go_wp2_with (fail)
  refine (index_c t ht hs _).mono ?_
  rintro e w1 ⟨rfl, rfl⟩
  clear hO
  go_wp2_with (fail)
  go_ret
  exact ⟨_, _, _, rfl, Blk.drew (Blk.new' (n := M + 1) (by simp [hM]) _ 9), by rw [Array.getElem?_append_left (by simp)]; rfl, (((Fr.refl 0 [] [] wr).alloc _).alloc _).drew⟩

theorem lines_c {d : Nat} {t : ByteArray} {k : Nat} {w : World} (hd : Blk w d #[.string t, .int .i64 k] 75) (ht : Prn t) (hs : t.size ≤ 1000000) : Calls Tryz.prog 203 #[.pointer (some ⟨d, 0, none⟩)] w (LinePost t w) := by
  obtain ⟨h0, h1, -, -⟩ := hd.c2
  go_enter Tryz.func203, Tryz.ntmps203
  go_wp2_with (fail)
  refine (split_c t ht hs w).mono ?_
  rintro e w1 ⟨g, c, cs, rfl, hc, h0, hF⟩
  go_wp2
  go_ret
  exact ⟨g, c, cs, rfl, hc, h0, hF⟩
theorem lineCount_c {d : Nat} {t : ByteArray} {k : Nat} {w : World} (hd : Blk w d #[.string t, .int .i64 k] 75) (ht : Prn t) (hs : t.size ≤ 1000000) : Calls Tryz.prog 202 #[.pointer (some ⟨d, 0, none⟩)] w fun e w' => e = .returned (.int .i64 1) ∧ Fr 0 [] [] w w' := by
  go_enter Tryz.func202, Tryz.ntmps202
  go_wp2_with (fail)
  refine (lines_c hd ht hs).mono ?_
  rintro e w1 ⟨g, c, cs, rfl, hc, h0, hF⟩
  go_wp2
  go_ret
  exact ⟨rfl, hF⟩
/-- The rest of the line behind the cursor. -/
theorem afterLine_c {d : Nat} {t : ByteArray} {k : Nat} {w : World} (hd : Blk w d #[.string t, .int .i64 k] 75) (ht : Prn t) (hs : t.size ≤ 1000000) (hk : k ≤ t.size) : Calls Tryz.prog 189 #[.pointer (some ⟨d, 0, none⟩)] w fun e w' => e = .returned (.string (t.extract k t.size)) ∧ Fr 0 [] [] w w' := by
  go_enter Tryz.func189, Tryz.ntmps189
  go_wp2_with (fail)
  refine (after_c hd ht.asc (by omega) hk).mono ?_
  rintro e w1 ⟨rfl, hF1⟩
  go_wp2_with (fail)
  refine (split_c (t.extract k t.size) (ht.extract _ _) (by simp; omega) w1).mono ?_
  rintro e w2 ⟨g, c, cs, rfl, hB, h0, hF⟩
  have hc := hB.cell 0
  rw [h0] at hc
  have hg := hB.lt
  go_wp2
  go_ret
  exact ⟨rfl, hF1.trans hF⟩

theorem info3 : ∃ i, Tryz.prog.info? 3 = some i ∧ i.zero = some (.int .i64 0) ∧ i.size = 1 ∧ i.bytes = 8 := info_of (by kernel_rfl)
/-- 'make([]int, n)' -/
theorem wp_makei {o : Oper} {a : Act} {w : World} {K : Act → World → Prop} {Q : Exit → Act → World → Prop} (n : Nat) (l c : Operand) (ho : o.op = Op.makeSlice 225 l c) (hl : a.eval l = .int .i64 n) (hc : a.eval c = .int .i64 n) (hn : n ≤ 1000000)
    (h : ∀ w', Blk w' w.heap.size (Array.replicate n (.int .i64 0)) 3 → Fr 0 [] [] w w' → w.heap.size < w'.heap.size → K (a.put o.dst (.slice (some ⟨w.heap.size, 0, none⟩) n n)) w') : o.wp Tryz.prog a w K Q := by
  obtain ⟨i, h1, h2, h3, h4⟩ := info3
  obtain ⟨w', hrun, r1, r2⟩ := run_make_full (P := Tryz.prog) w 0 225 3 i (.int .i64 0) 1 (by kernel_rfl) h1 h2 h3 .i64 .i64 n (by rw [h4]; omega) (by simp only [maxLen]; omega) (by omega)
  unfold Oper.wp
  simp [execOp, ho, hl, hc, hrun, Result.andThen]
  have hP : Blk w' w.heap.size (Array.replicate n (.int .i64 0)) 3 := by
    obtain ⟨q1, ⟨q2, -⟩ | ⟨g, cap, cur, q2, q3, q4, q5, q6, q7, q8⟩⟩ := r1
    · cases q2
    · simp only [Value.slice.injEq, Option.some.injEq, Addr.mk.injEq, and_true, true_and] at q2
      obtain ⟨rfl, rfl⟩ := q2
      have e : cur = Array.replicate n (.int .i64 0) := by
        apply Array.toList_inj.1
        rw [List.take_of_length_le (by simp [q7])] at q8
        rw [q8, show (Value.int .i64 0).cells = #[Value.int .i64 0] from rfl, toList_madeCells_one]
        simp
      rw [← e]
      exact q4
  exact h w' hP ((Fr.refl _ _ _ _).grown r2 (by simp)) hP.lt

/-- Where the lines begin: at 0. -/
def StartPost (n : Nat) (w : World) (e : Ending) (w' : World) : Prop := ∃ g, e = .returned (.slice (some ⟨g, 0, none⟩) 2 2) ∧ Blk w' g #[.int .i64 0, .int .i64 (n + 1 : Nat)] 3 ∧ Fr 0 [] [] w w'
theorem lineStarts_c {d : Nat} {t : ByteArray} {k : Nat} {w : World} (hd : Blk w d #[.string t, .int .i64 k] 75) (ht : Prn t) (hs : t.size ≤ 1000000) : Calls Tryz.prog 200 #[.pointer (some ⟨d, 0, none⟩)] w (StartPost t.size w) := by
  go_enter Tryz.func200, Tryz.ntmps200
  go_wp2_with (fail)
  refine (lineCount_c hd ht hs).mono ?_
  rintro e w1 ⟨rfl, hF1⟩
  have hd1 := hF1.blk0 hd
  go_wp2_with (first | (refine wpList_plain rfl (fun K hK => ?_); refine wp_makei 1 _ _ rfl rfl rfl (by omega) ?_; intro w2 hB2 hF2 hlt2; refine hK _ _ ?_; clear hK K))
  obtain ⟨M, hM⟩ : ∃ M, w1.heap.size = M := ⟨_, rfl⟩
  rw [hM] at hB2 hlt2
  have hd2 := hF2.blk0 hd1
  refine (lines_c hd2 ht hs).mono ?_
  rintro e w3 ⟨g, c, gs, rfl, hg3, hgs, hF3⟩
  have hB3 := hF3.blk0 hB2
  have hF03 := (hF1.trans hF2).trans hF3
  have hgM : g ≠ M := by
    intro e
    subst e
    exact absurd (hB3.inj hg3).2 (by decide)
  have hwM : w.heap.size ≤ M := by have := hF1.size; omega
  clear hF1 hF2 hF3 hB2 hlt2 hd1 hd2
  go_wp2_with (fail)
  go_loopw [18] (fun v18 w' => ∃ i : Nat, i ≤ 1 ∧ v18 = .int .i64 i ∧ Blk w' M #[.int .i64 (if i = 0 then 0 else t.size : Nat)] 3 ∧ Blk w' g gs 9 ∧ Fr 0 [] [] w w') (fun v18 _ => 1 - (intOf v18).toNat)
  case atStart => exact ⟨0, by omega, rfl, hB3, hg3, hF03⟩
  clear hB3 hg3 hF03
  obtain ⟨i, hi, rfl, hB, hg, hF⟩ := hrel
  rcases i with _ | i
  · obtain ⟨b0, bf0⟩ := hB.c1
    have blt := hB.lt
    have hc := hg.cell 0
    rw [hgs] at hc
    have glt := hg.lt
    go_wp2_with (fail)
    go_roundw
    case rel =>
      refine ⟨1, by omega, by simp, ?_, hg.other (a := ⟨M, 0, none⟩) hgM _, hF.setCell (a := ⟨M, 0, none⟩) (Nat.zero_le _) (.inr (.inl hwM)) _⟩
      have h9 := hB.set 0 (.int .i64 (t.size : Nat))
      simpa using h9
    case measure => simp [intOf]
  · have e : i = 0 := by omega
    subst e
    obtain ⟨N, hN⟩ : ∃ N, wr.heap.size = N := ⟨_, rfl⟩
    have hMN : M < N := by have := hB.lt; omega
    go_wp2_with (first | (refine wpList_plain rfl (fun K hK => ?_); refine wp_makei 2 _ _ rfl rfl rfl (by omega) ?_; intro w5 hB5 hF5 hlt5; refine hK _ _ ?_; clear hK K; rw [hN] at hB5 hlt5; have hz5 := hB5.c2; obtain ⟨y0, y1, yf0, yf1⟩ := hz5))
    have hM5 := hF5.blk0 hB
    have hN6 : Blk (w5.setCell ⟨N, 0, none⟩ (.int .i64 0)) N #[.int .i64 0, .int .i64 0] 3 := by
      have h9 := hB5.set 0 (.int .i64 0)
      exact h9
    have hM6 := hM5.other (a := ⟨N, 0, none⟩) (show M ≠ N by omega) (.int .i64 0)
    have hF6 := (hF.trans hF5).setCell (a := ⟨N, 0, none⟩) (Nat.zero_le _) (.inr (.inl (by show w.heap.size ≤ N; omega))) (.int .i64 0)
    clear hB5 hF5 hlt5 y0 y1 yf0 yf1 hM5 hB hF hg
    obtain ⟨T1, hT1⟩ : ∃ T1, t.size + 1 = T1 := ⟨_, rfl⟩
    have HT1 := Lib.hid hT1
    have hsz : (t.size : Int) + 1 = T1 := by omega
    clear hT1
    go_loopw [8, 36] (fun v8 v36 w' => ∃ i : Nat, i ≤ 1 ∧ v36 = .int .i64 i ∧ v8 = .int .i64 (if i = 0 then 0 else T1 : Nat) ∧ Blk w' N #[.int .i64 0, .int .i64 (if i = 0 then 0 else T1 : Nat)] 3 ∧ Blk w' M #[.int .i64 t.size] 3 ∧ Fr 0 [] [] w w') (fun _ v36 _ => 1 - (intOf v36).toNat)
    case atStart => exact ⟨0, by omega, rfl, rfl, hN6, hM6, hF6⟩
    clear hN6 hM6 hF6
    obtain ⟨i, hi, rfl, rfl, hBN, hBM, hF⟩ := hrel
    rcases i with _ | i
    · obtain ⟨y0, y1, yf0, yf1⟩ := hBN.c2
      have nlt := hBN.lt
      obtain ⟨m0, -⟩ := hBM.c1
      have mlt := hBM.lt
      go_wp2_with (fail)
      go_roundw
      case rel =>
        refine ⟨1, by omega, by simp, by simp, ?_, hBM.other (a := ⟨N, 1, none⟩) (show M ≠ N by omega) _, hF.setCell (a := ⟨N, 1, none⟩) (Nat.zero_le _) (.inr (.inl (by show w.heap.size ≤ N; omega))) _⟩
        have h9 := hBN.set 1 (.int .i64 (T1 : Nat))
        simpa using h9
      case measure => simp [intOf]
    · have e : i = 0 := by omega
      subst e
      go_wp2_with (fail)
      go_ret
      exact ⟨N, rfl, by rw [HT1.out]; simpa using hBN, hF⟩
end Go.Proofs.YtiepopbmbgfhkaaGreat

namespace Go.Proofs.YtiepopbmbgfhkaaGreat
open Go.RowKit
open List renaming setIfInBounds_toArray → zq1, set_cons_zero → zq2, set_cons_succ → zq3
open Int renaming toNat_natCast → zq4, toNat_sub → zq5, toNat_zero → zq6
set_option maxHeartbeats 2000000
set_option maxRecDepth 20000
set_option linter.unusedVariables false
set_option linter.unusedSimpArgs false

/-- What the search looks at. -/
structure Bis (w : World) (A X g n1 : Nat) (k : Int) : Prop where
  a : Blk w A #[.slice (some ⟨g, 0, none⟩) 2 2] 225
  x : Blk w X #[.int .i64 k] 3
  g : Blk w g #[.int .i64 0, .int .i64 n1] 3
theorem Bis.fr0 {w w1 : World} {A X g n1 base : Nat} {k : Int} (h : Bis w A X g n1 k) (hF : Fr base [] [] w w1) : Bis w1 A X g n1 k := ⟨hF.blk0 h.a, hF.blk0 h.x, hF.blk0 h.g⟩

theorem above0_c {w : World} {A X g n1 k : Nat} (h : Bis w A X g n1 k) : Calls Tryz.prog 206 #[.int .i64 0, .pointer (some ⟨A, 0, none⟩), .pointer (some ⟨X, 0, none⟩)] w fun e w' => e = .returned (.bool false) ∧ Fr 0 [] [] w w' := by
  obtain ⟨a0, -⟩ := h.a.c1
  obtain ⟨x0, -⟩ := h.x.c1
  obtain ⟨g0, g1, -, -⟩ := h.g.c2
  have d1 : decide ((k : Int) < 0) = false := by simp
  have d2 : ¬ (k : Int) < 0 := by omega
  go_enter Tryz.func206, Tryz.ntmps206
  go_wp2_with (fail)
  have hS : (fun w' : World => w'.cell? ⟨A, 0, none⟩ = some (.slice (some ⟨g, 0, none⟩) 2 2) ∧ w'.cell? ⟨X, 0, none⟩ = some (.int .i64 k) ∧ w'.cell? ⟨g, 0, none⟩ = some (.int .i64 0) ∧ w'.cell? ⟨g, 1, none⟩ = some (.int .i64 n1)) w.drew := ⟨a0, x0, g0, g1⟩
  refine wp_region_plan [0, 3, 4] [] (fun w' : World => w'.cell? ⟨A, 0, none⟩ = some (.slice (some ⟨g, 0, none⟩) 2 2) ∧ w'.cell? ⟨X, 0, none⟩ = some (.int .i64 k) ∧ w'.cell? ⟨g, 0, none⟩ = some (.int .i64 0) ∧ w'.cell? ⟨g, 1, none⟩ = some (.int .i64 n1)) (.take 0 (.pure 1 (.pure 2 (.take 3 (.take 4 (.pure 5 (.pure 6 .done))))))) hmix (by kernel_rfl) ?_
  repeat (first | (refine plan_move rfl rfl rfl ?_; (try simp only [Act.put, zq1, zq2, zq3, zq4, zq5, zq6])) | (refine plan_pure (v := ?_) rfl rfl ?_ ?_; rotate_left; (intro w'; go_simp <;> with_reducible rfl); (try simp only [Act.put, zq1, zq2, zq3, zq4, zq5, zq6])) | (refine plan_take (v := ?_) rfl hS rfl ?_ ?_; rotate_left; (intro w' hSw; (try dsimp only at hSw); go_simp <;> with_reducible rfl); (try simp only [Act.put, zq1, zq2, zq3, zq4, zq5, zq6])))
  refine plan_done ?_
  go_wp2
  go_ret
  exact ⟨rfl, (Fr.refl 0 [] [] w).drew⟩
theorem above1_c {w : World} {A X g n1 k : Nat} (h : Bis w A X g n1 k) (hk : k < n1) : Calls Tryz.prog 206 #[.int .i64 1, .pointer (some ⟨A, 0, none⟩), .pointer (some ⟨X, 0, none⟩)] w fun e w' => e = .returned (.bool true) ∧ Fr 0 [] [] w w' := by
  obtain ⟨a0, -⟩ := h.a.c1
  obtain ⟨x0, -⟩ := h.x.c1
  obtain ⟨g0, g1, -, -⟩ := h.g.c2
  have d1 : decide ((k : Int) < n1) = true := by simpa using hk
  have d2 : (k : Int) < n1 := by omega
  go_enter Tryz.func206, Tryz.ntmps206
  go_wp2_with (fail)
  have hS : (fun w' : World => w'.cell? ⟨A, 0, none⟩ = some (.slice (some ⟨g, 0, none⟩) 2 2) ∧ w'.cell? ⟨X, 0, none⟩ = some (.int .i64 k) ∧ w'.cell? ⟨g, 0, none⟩ = some (.int .i64 0) ∧ w'.cell? ⟨g, 1, none⟩ = some (.int .i64 n1)) w.drew := ⟨a0, x0, g0, g1⟩
  refine wp_region_plan [0, 3, 4] [] (fun w' : World => w'.cell? ⟨A, 0, none⟩ = some (.slice (some ⟨g, 0, none⟩) 2 2) ∧ w'.cell? ⟨X, 0, none⟩ = some (.int .i64 k) ∧ w'.cell? ⟨g, 0, none⟩ = some (.int .i64 0) ∧ w'.cell? ⟨g, 1, none⟩ = some (.int .i64 n1)) (.take 0 (.pure 1 (.pure 2 (.take 3 (.take 4 (.pure 5 (.pure 6 .done))))))) hmix (by kernel_rfl) ?_
  repeat (first | (refine plan_move rfl rfl rfl ?_; (try simp only [Act.put, zq1, zq2, zq3, zq4, zq5, zq6])) | (refine plan_pure (v := ?_) rfl rfl ?_ ?_; rotate_left; (intro w'; go_simp <;> with_reducible rfl); (try simp only [Act.put, zq1, zq2, zq3, zq4, zq5, zq6])) | (refine plan_take (v := ?_) rfl hS rfl ?_ ?_; rotate_left; (intro w' hSw; (try dsimp only at hSw); go_simp <;> with_reducible rfl); (try simp only [Act.put, zq1, zq2, zq3, zq4, zq5, zq6])))
  refine plan_done ?_
  go_wp2
  go_ret
  exact ⟨rfl, (Fr.refl 0 [] [] w).drew⟩

theorem search_c {w : World} {A X g n1 k : Nat} (h : Bis w A X g n1 k) (hk : k < n1) : Calls Tryz.prog 205 #[.int .i64 2, .func (.func 206) #[] #[.pointer (some ⟨A, 0, none⟩), .pointer (some ⟨X, 0, none⟩)]] w fun e w' => e = .returned (.int .i64 1) ∧ Fr 0 [] [] w w' := by
  go_enter Tryz.func205, Tryz.ntmps205
  go_wp2_with (fail)
  go_loopw [5, 6] (fun v5 v6 w' => ∃ s : Nat, s ≤ 2 ∧ v5 = .int .i64 (if s ≤ 1 then 0 else 1 : Nat) ∧ v6 = .int .i64 (if s = 0 then 2 else 1 : Nat) ∧ Fr 0 [] [] w w') (fun v5 v6 _ => (intOf v6 - intOf v5).toNat)
  case atStart => exact ⟨0, by omega, rfl, rfl, Fr.refl _ _ _ _⟩
  obtain ⟨s, hs, rfl, rfl, hF⟩ := hrel
  rcases s with _ | _ | s
  · simp only [Nat.zero_le, if_true, if_pos]
    go_wp2_with (fail)
    refine (above1_c (h.fr0 hF) hk).mono ?_
    rintro e w1 ⟨rfl, hF1⟩
    go_wp2_with (fail)
    go_roundw
    case rel => exact ⟨1, by omega, rfl, rfl, hF.trans hF1⟩
    case measure => simp [intOf]
  · simp only [Nat.zero_add, Nat.le_refl, if_true, if_pos]
    go_wp2_with (fail)
    refine (above0_c (h.fr0 hF)).mono ?_
    rintro e w1 ⟨rfl, hF1⟩
    go_wp2_with (fail)
    go_roundw
    case rel => exact ⟨2, by omega, rfl, rfl, hF.trans hF1⟩
    case measure => simp [intOf]
  · have e : s = 0 := by omega
    subst e
    go_wp2_with (fail)
    go_ret
    exact ⟨rfl, hF⟩
theorem bisect_c {w : World} {g n1 k : Nat} (hg : Blk w g #[.int .i64 0, .int .i64 n1] 3) (hk : k < n1) : Calls Tryz.prog 204 #[.slice (some ⟨g, 0, none⟩) 2 2, .int .i64 k, .int .i64 0, .int .i64 2] w fun e w' => e = .returned (.int .i64 1) ∧ Fr 0 [] [] w w' := by
  obtain ⟨M, hM⟩ : ∃ M, w.heap.size = M := ⟨_, rfl⟩
  go_enter Tryz.func204, Tryz.ntmps204
  go_wp2_with (fail)
  have hF : Fr 0 [] [] w ((w.alloc (.cells #[.int .i64 k] 3)).alloc (.cells #[.slice (some ⟨g, 0, none⟩) 2 2] 225)) := ((Fr.refl 0 [] [] w).alloc _).alloc _
  have hb : Bis ((w.alloc (.cells #[.int .i64 k] 3)).alloc (.cells #[.slice (some ⟨g, 0, none⟩) 2 2] 225)) (M + 1) M g n1 k := ⟨Blk.new' (by simp [hM]) _ _, (Blk.new' hM.symm _ _).alloc _, hF.blk0 hg⟩
  refine (search_c hb hk).mono ?_
  rintro e w1 ⟨rfl, hF1⟩
  go_wp2
  go_ret
  exact ⟨rfl, hF.trans hF1⟩
theorem right_pos {w : World} {g n1 k : Nat} (hg : Blk w g #[.int .i64 0, .int .i64 n1] 3) (hk : k < n1) : Calls Tryz.prog 201 #[.slice (some ⟨g, 0, none⟩) 2 2, .int .i64 k] w fun e w' => e = .returned (.int .i64 1) ∧ Fr 0 [] [] w w' := by
  go_enter Tryz.func201, Tryz.ntmps201
  go_wp2_with (fail)
  refine (bisect_c hg hk).mono ?_
  rintro e w1 ⟨rfl, hF1⟩
  go_wp2
  go_ret
  exact ⟨rfl, hF1⟩
theorem findStart_c {d : Nat} {t : ByteArray} {k : Nat} {w : World} (hd : Blk w d #[.string t, .int .i64 k] 75) (ht : Prn t) (hs : t.size ≤ 1000000) (hk : k ≤ t.size) : Calls Tryz.prog 197 #[.pointer (some ⟨d, 0, none⟩), .int .i64 k] w fun e w' => e = .returned (.tuple #[.int .i64 0, .int .i64 0]) ∧ Fr 0 [] [] w w' := by
  go_enter Tryz.func197, Tryz.ntmps197
  go_wp2_with (fail)
  refine (lineStarts_c hd ht hs).mono ?_
  rintro e w1 ⟨g, rfl, hg, hF1⟩
  go_wp2_with (fail)
  refine (right_pos hg (by omega)).mono ?_
  rintro e w2 ⟨rfl, hF2⟩
  obtain ⟨g0, g1, -, -⟩ := (hF2.blk0 hg).c2
  go_wp2
  go_ret2
  exact ⟨rfl, hF1.trans hF2⟩
theorem col_c {d : Nat} {t : ByteArray} {k : Nat} {w : World} (hd : Blk w d #[.string t, .int .i64 k] 75) (ht : Prn t) (hs : t.size ≤ 1000000) (hk : k ≤ t.size) : Calls Tryz.prog 190 #[.pointer (some ⟨d, 0, none⟩)] w fun e w' => e = .returned (.int .i64 k) ∧ Fr 0 [] [] w w' := by
  obtain ⟨h0, h1, -, -⟩ := hd.c2
  go_enter Tryz.func190, Tryz.ntmps190
  go_wp2_with (fail)
  refine (findStart_c hd ht hs hk).mono ?_
  rintro e w1 ⟨rfl, hF1⟩
  obtain ⟨h0, h1, -, -⟩ := (hF1.blk0 hd).c2
  go_wp2
  go_ret
  exact ⟨rfl, hF1⟩
/-- How far the cursor goes to the right. -/
theorem rightBy_c {d : Nat} {t : ByteArray} {k : Nat} {w : World} (hd : Blk w d #[.string t, .int .i64 k] 75) (ht : Prn t) (hs : t.size ≤ 1000000) (hk : k ≤ t.size) (c : Nat) (hc : c ≤ 1000000) : Calls Tryz.prog 179 #[.pointer (some ⟨d, 0, none⟩), .int .i64 c] w fun e w' => e = .returned (.int .i64 (min c (t.size - k) : Nat)) ∧ Fr 0 [] [] w w' := by
  have d0 : decide ((c : Int) < 0) = false := by simp
  have esz : (t.extract k t.size).size = t.size - k := by simp
  by_cases h : c < t.size - k
  · have d1 : decide ((c : Int) < (t.size - k : Nat)) = true := by simp; omega
    have e9 : min c (t.size - k) = c := by omega
    rw [e9]
    go_enter Tryz.func179, Tryz.ntmps179
    go_wp2_with (fail)
    refine (afterLine_c hd ht hs hk).mono ?_
    rintro e w1 ⟨rfl, hF1⟩
    go_wp2_with (fail)
    go_ret
    exact ⟨rfl, hF1⟩
  · have d1 : decide ((c : Int) < (t.size - k : Nat)) = false := by simp; omega
    have e9 : min c (t.size - k) = t.size - k := by omega
    rw [e9]
    obtain ⟨R, hR⟩ : ∃ R, t.size - k = R := ⟨_, rfl⟩
    rw [hR] at d1 esz h ⊢
    clear e9 hR
    go_enter Tryz.func179, Tryz.ntmps179
    go_wp2_with (fail)
    refine (afterLine_c hd ht hs hk).mono ?_
    rintro e w1 ⟨rfl, hF1⟩
    go_wp2_with (fail)
    refine (afterLine_c (hF1.blk0 hd) ht hs hk).mono ?_
    rintro e w2 ⟨rfl, hF2⟩
    go_wp2_with (fail)
    go_ret
    exact ⟨rfl, hF1.trans hF2⟩
/-- .. to the left. -/
theorem leftBy_c {d : Nat} {t : ByteArray} {k : Nat} {w : World} (hd : Blk w d #[.string t, .int .i64 k] 75) (ht : Prn t) (hs : t.size ≤ 1000000) (hk : k ≤ t.size) (c : Nat) (hc : c ≤ 1000000) : Calls Tryz.prog 180 #[.pointer (some ⟨d, 0, none⟩), .int .i64 c] w fun e w' => e = .returned (.int .i64 (-(min c k : Nat))) ∧ Fr 0 [] [] w w' := by
  have d0 : decide ((c : Int) < 0) = false := by simp
  by_cases h : c < k
  · have d1 : decide ((c : Int) < k) = true := by simpa using h
    have e9 : min c k = c := by omega
    rw [e9]
    go_enter Tryz.func180, Tryz.ntmps180
    go_wp2_with (fail)
    refine (col_c hd ht hs hk).mono ?_
    rintro e w1 ⟨rfl, hF1⟩
    go_wp2_with (fail)
    go_ret
    exact ⟨rfl, hF1⟩
  · have d1 : decide ((c : Int) < k) = false := by simpa using h
    have e9 : min c k = k := by omega
    rw [e9]
    go_enter Tryz.func180, Tryz.ntmps180
    go_wp2_with (fail)
    refine (col_c hd ht hs hk).mono ?_
    rintro e w1 ⟨rfl, hF1⟩
    go_wp2_with (fail)
    refine (col_c (hF1.blk0 hd) ht hs hk).mono ?_
    rintro e w2 ⟨rfl, hF2⟩
    go_wp2_with (fail)
    go_ret
    exact ⟨rfl, hF1.trans hF2⟩
theorem Buf.lts {base : Nat} {w : World} {b L : Nat} {t : ByteArray} {k : Nat} (h : Buf base w b L t k) : b < w.heap.size ∧ base ≤ b := by
  obtain ⟨⟨cs, hb⟩, -⟩ := h.blk
  exact ⟨hb.lt, h.1⟩

/-- The cursor goes to the right. -/
theorem goRight_c {base : Nat} {w : World} {b L : Nat} {t : ByteArray} {k : Nat} (h : Buf base w b L t k) (ht : Prn t) (hs : t.size ≤ 1000000) (hk : k ≤ t.size) (c : Nat) (hc : c ≤ 1000000) :
    Calls Tryz.prog 154 #[.pointer (some ⟨b, 0, none⟩), .int .i64 c] w fun e w' => e = .returned (.tuple #[]) ∧ Buf base w' b L t (k + min c (t.size - k)) ∧ Fr base [] [b] w w' := by
  have hrb := fun (d : Nat) (w : World) (hd : Blk w d #[.string t, .int .i64 k] 75) => rightBy_c hd ht hs hk c hc
  have hml : min c (t.size - k) ≤ t.size - k := by omega
  obtain ⟨mn, hmn⟩ : ∃ mn, min c (t.size - k) = mn := ⟨_, rfl⟩
  rw [hmn] at hml ⊢
  simp only [hmn] at hrb
  obtain ⟨R, hR⟩ : ∃ R, k + mn = R := ⟨_, rfl⟩
  rw [hR]
  have hR2 : (k : Int) + mn = R := by omega
  have hRs : R ≤ t.size := by omega
  clear hR hmn
  go_enter Tryz.func154, Tryz.ntmps154
  go_wp2_with (fail)
  refine (doc_c h).mono ?_
  rintro e w1 ⟨d, rfl, hd, hB1, hF1⟩
  go_wp2_with (fail)
  refine (hrb d _ hd).mono ?_
  rintro e w2 ⟨rfl, hF2⟩
  clear hrb
  have hB2 := hF2.buf0 hB1
  have hF02 := hF1.ext hF2
  obtain ⟨c2, f2, hlt, hlL, hbb, hbL⟩ := hB2.cells
  obtain ⟨q1, q2⟩ := hB2.setCur R
  go_wp2
  go_end0
  exact ⟨rfl, q1, hF02.trans q2⟩

/-- .. to the left. -/
theorem goLeft_c {base : Nat} {w : World} {b L : Nat} {t : ByteArray} {k : Nat} (h : Buf base w b L t k) (ht : Prn t) (hs : t.size ≤ 1000000) (hk : k ≤ t.size) (c : Nat) (hc : c ≤ 1000000) :
    Calls Tryz.prog 156 #[.pointer (some ⟨b, 0, none⟩), .int .i64 c] w fun e w' => e = .returned (.tuple #[]) ∧ Buf base w' b L t (k - min c k) ∧ Fr base [] [b] w w' := by
  have hrb := fun (d : Nat) (w : World) (hd : Blk w d #[.string t, .int .i64 k] 75) => leftBy_c hd ht hs hk c hc
  have hml : min c k ≤ k := by omega
  obtain ⟨mn, hmn⟩ : ∃ mn, min c k = mn := ⟨_, rfl⟩
  rw [hmn] at hml ⊢
  simp only [hmn] at hrb
  obtain ⟨R, hR⟩ : ∃ R, k - mn = R := ⟨_, rfl⟩
  rw [hR]
  have hR2 : (k : Int) + -(mn : Int) = R := by omega
  have hRs : R ≤ t.size := by omega
  clear hR hmn
  go_enter Tryz.func156, Tryz.ntmps156
  go_wp2_with (fail)
  refine (doc_c h).mono ?_
  rintro e w1 ⟨d, rfl, hd, hB1, hF1⟩
  go_wp2_with (fail)
  refine (hrb d _ hd).mono ?_
  rintro e w2 ⟨rfl, hF2⟩
  clear hrb
  have hB2 := hF2.buf0 hB1
  have hF02 := hF1.ext hF2
  obtain ⟨c2, f2, hlt, hlL, hbb, hbL⟩ := hB2.cells
  obtain ⟨q1, q2⟩ := hB2.setCur R
  go_wp2
  go_end0
  exact ⟨rfl, q1, hF02.trans q2⟩

end Go.Proofs.YtiepopbmbgfhkaaGreat

namespace Go.Proofs.YtiepopbmbgfhkaaGreat
open Go.RowKit
open List renaming setIfInBounds_toArray → zq1, set_cons_zero → zq2, set_cons_succ → zq3
open Int renaming toNat_natCast → zq4, toNat_sub → zq5, toNat_zero → zq6
set_option maxHeartbeats 4000000
set_option maxRecDepth 20000
set_option linter.unusedVariables false
set_option linter.unusedSimpArgs false

/-- What 'Delete' leaves. -/
def DelPost (base b L : Nat) (t : ByteArray) (k : Nat) (w : World) (e : Ending) (w' : World) : Prop := (∃ s, e = .returned (.string s)) ∧ Buf base w' b L t k ∧ Fr base [] [b, L] w w'

theorem delete_c {base : Nat} {w : World} {b L : Nat} {t : ByteArray} {k : Nat} (h : Buf base w b L t k) (c : Nat) (ht : Prn t) (hs : t.size ≤ 1000000) (hk : k ≤ t.size) (hc : k + c ≤ t.size ∨ k = t.size) :
    Calls Tryz.prog 158 #[.pointer (some ⟨b, 0, none⟩), .int .i64 c] w (DelPost base b L (t.extract 0 k ++ t.extract (k + c) t.size) k w) := by
  have hs' : t.size ≤ 70368744177664 := by omega
  have ha := ht.asc
  by_cases hkz : k = t.size
  · have e9 : t.extract 0 k ++ t.extract (k + c) t.size = t := by rw [extract_empty t (k + c) t.size (by omega)]; subst hkz; simp
    rw [e9]
    have d1 : decide ((k : Int) < t.size) = false := by simp; omega
    have d2 : ¬ k < t.size := by omega
    have HZ := Lib.hid hkz
    clear hkz e9
    go_enter Tryz.func158, Tryz.ntmps158
    go_wp2_with (fail)
    refine (text_c h).mono ?_
    rintro e w1 ⟨rfl, n, rfl⟩
    go_wp2_with (first | (refine wpList_plain rfl (fun K hK => ?_); refine wp_runes _ _ rfl rfl ha hs' ?_; intro rb rc w1 hcap hB hF; refine hK _ _ ?_; clear hK K; have h1 := hF.buf0 (h.drewN n); obtain ⟨g2, gf2, glt, -⟩ := h1.cells))
    go_ret
    exact ⟨⟨_, rfl⟩, h1, ((Fr.refl _ _ _ _).drewN n).ext hF⟩
  · have hkc : k + c ≤ t.size := by omega
    have hkl : k < t.size := by omega
    have d1 : decide ((k : Int) < t.size) = true := by simp; omega
    have d2 : (k : Int) < t.size := by omega
    obtain ⟨KC, hKC⟩ : ∃ KC, k + c = KC := ⟨_, rfl⟩
    have hj : IntKind.i64.wrap ((k : Int) + c) = KC := by rw [show (k : Int) + c = (KC : Int) by omega]; exact wrap_in (by omega) (by omega)
    rw [hKC]
    have hKC2 : KC ≤ t.size ∧ k ≤ KC := by omega
    have esz : (t.extract k t.size).size = t.size - k := by simp
    have hcs : (c : Int) ≤ (t.extract k t.size).size := by rw [esz]; omega
    obtain ⟨DL, hDL⟩ : ∃ DL, (t.extract k t.size).extract 0 c = DL := ⟨_, rfl⟩
    have hdl : DL.size = c := by rw [← hDL, ByteArray.size_extract, esz]; omega
    have e1 : (t.extract 0 k).size ≤ 1000000 := by simp; omega
    have e2 : (t.extract KC t.size).size ≤ 1000000 := by simp; omega
    have HKZ := Lib.hid hkz
    clear hkz hc hKC hkc esz
    go_enter Tryz.func158, Tryz.ntmps158
    go_wp2_with (fail)
    refine (text_c h).mono ?_
    rintro e w1 ⟨rfl, n, rfl⟩
    go_wp2_with (first | (refine wpList_plain rfl (fun K hK => ?_); refine wp_runes _ _ rfl rfl ha hs' ?_; intro rb rc w1 hcap hB hF; refine hK _ _ ?_; clear hK K; have h1 := hF.buf0 (h.drewN n); obtain ⟨g2, gf2, glt, -⟩ := h1.cells))
    refine (doc_c h1).mono ?_
    rintro e w3 ⟨d, rfl, hd, hB3, hF3⟩
    have hR3 := hF3.blk hB (.inr ⟨by simp only [List.mem_singleton]; obtain ⟨⟨cs, hb⟩, -⟩ := h1.blk; exact hB.ne hb (by decide), by simp⟩)
    go_wp2_with (fail)
    refine (after_c hd ha hs' hk).mono ?_
    rintro e w4 ⟨rfl, hF4⟩
    have hB4 := hF4.buf0 hB3
    have hR4 := hF4.blk0 hR3
    obtain ⟨g42, gf42, glt4, -⟩ := hB4.cells
    go_wp2_with (fail)
    have hS : (fun w' : World => Blk w' rb (runeRow t rc) 21 ∧ w'.cell? ⟨b, 2, none⟩ = some (.int .i64 k)) w4.drew := ⟨hR4, g42⟩
    refine wp_region_plan [5, 7, 12, 17] [19] (fun w' => Blk w' rb (runeRow t rc) 21 ∧ w'.cell? ⟨b, 2, none⟩ = some (.int .i64 k)) (.pure 0 (.pure 1 (.pure 2 (.pure 3 (.pure 4 (.take 5 (.pure 6 (.take 7 (.pure 8 (.pure 9 (.pure 10 (.pure 11 (.take 12 (.pure 13 (.pure 14 (.pure 15 (.pure 16 (.take 17 (.pure 18 (.go 19 .done)))))))))))))))))))) hmix (by kernel_rfl) ?_
    repeat (first | (refine plan_move rfl rfl rfl ?_; (try simp only [Act.put, zq1, zq2, zq3, zq4, zq5, zq6])) | (refine plan_pure rfl rfl (fun w' => ex_runesTo rfl rfl rfl ?_ ?_) ?_; omega; omega; (try simp only [Act.put, zq1, zq2, zq3, zq4, zq5, zq6])) | (refine plan_pure rfl rfl (fun w' => ex_runesFrom rfl rfl rfl ?_ ?_) ?_; omega; omega; (try simp only [Act.put, zq1, zq2, zq3, zq4, zq5, zq6])) | (refine plan_take rfl hS rfl (fun w' hSw => ex_textOf rfl rfl hSw.1 ha ?_ ?_ hcap) ?_; omega; omega; (try simp only [Act.put, zq1, zq2, zq3, zq4, zq5, zq6])) | (refine plan_pure rfl rfl (fun w' => ex_add rfl rfl rfl ?_) ?_; ((try simp only [ByteArray.size_append, Int.toNat_natCast]) <;> omega); (try simp only [Act.put, zq1, zq2, zq3, zq4, zq5, zq6])) | (refine plan_pure (v := ?_) rfl rfl ?_ ?_; rotate_left; (intro w'; go_simp <;> with_reducible rfl); (try simp only [Act.put, zq1, zq2, zq3, zq4, zq5, zq6])) | (refine plan_take (v := ?_) rfl hS rfl ?_ ?_; rotate_left; (intro w' hSw; (try dsimp only at hSw); go_simp <;> with_reducible rfl); (try simp only [Act.put, zq1, zq2, zq3, zq4, zq5, zq6])))
    refine plan_go rfl (by kernel_rfl) rfl (fun K hK => ?_)
    go_simp; refine (setText_c hB4.drew _).mono ?_; rintro e w5 ⟨rfl, hB5, hF5⟩; refine hK _ _ ?_; clear hK K; (try simp only [Act.put, zq1, zq2, zq3, zq4, zq5, zq6])
    refine plan_done ?_
    go_wp2
    go_ret
    refine ⟨⟨_, rfl⟩, hB5, ?_⟩
    exact (((((Fr.refl base [] [b, L] w).drewN n).ext hF).into hF3 (by simp) (by simp)).ext hF4).drew.into hF5 (by simp) (by simp)

/-- The beginning of the word ahead, the blanks next to the cursor taken with it. -/
def spaceAt (t : ByteArray) (k : Nat) : Nat :=
  let b := t.extract 0 k
  if lastIx (· != 32) b b.size = -1 then 0 else (lastIx (· == 32) (b.extract 0 (lastIx (· != 32) b b.size).toNat) (b.extract 0 (lastIx (· != 32) b b.size).toNat).size + 1).toNat
theorem spaceAt_le (t : ByteArray) (k : Nat) (hk : k ≤ t.size) : spaceAt t k ≤ k := by
  have esz : (t.extract 0 k).size = k := by simp; omega
  have h1 := lastIx_range (· != 32) (t.extract 0 k) (t.extract 0 k).size
  have h2 := lastIx_range (· == 32) ((t.extract 0 k).extract 0 (lastIx (· != 32) (t.extract 0 k) (t.extract 0 k).size).toNat) ((t.extract 0 k).extract 0 (lastIx (· != 32) (t.extract 0 k) (t.extract 0 k).size).toNat).size
  unfold spaceAt
  simp only
  split
  · omega
  · have : ((t.extract 0 k).extract 0 (lastIx (· != 32) (t.extract 0 k) (t.extract 0 k).size).toNat).size ≤ k := by rw [ByteArray.size_extract]; omega
    omega
theorem spaceAt_c {d : Nat} {t : ByteArray} {k : Nat} {w : World} (hd : Blk w d #[.string t, .int .i64 k] 75) (ht : Prn t) (hs : t.size ≤ 1000000) (hk : k ≤ t.size) : Calls Tryz.prog 181 #[.pointer (some ⟨d, 0, none⟩)] w fun e w' => e = .returned (.int .i64 (spaceAt t k)) ∧ Fr 0 [] [] w w' := by
  have esz : (t.extract 0 k).size = k := by simp; omega
  have h1 := lastIx_range (· != 32) (t.extract 0 k) (t.extract 0 k).size
  obtain ⟨B, hB⟩ : ∃ B, t.extract 0 k = B := ⟨_, rfl⟩
  have hnb := notByte_c B 32 (by rw [← hB, esz]; omega)
  obtain ⟨x, hx⟩ : ∃ x, lastIx (· != 32) B B.size = x := ⟨_, rfl⟩
  rw [hB, hx] at h1
  have hx2 : ∀ w, Calls Tryz.prog 191 #[.string B, .int .u8 ((32 : UInt8).toNat : Int)] w fun e w' => e = .returned (.int .i64 x) ∧ w = w' := fun w => by rw [← hx]; exact hnb w
  clear hnb
  by_cases hz : x = -1
  · have e9 : spaceAt t k = 0 := by unfold spaceAt; simp only [hB, hx]; rw [if_pos hz]
    rw [e9]
    subst hz
    have HX := Lib.hid hx
    clear hx e9
    go_enter Tryz.func181, Tryz.ntmps181
    go_wp2_with (fail)
    refine (before_c hd ht.asc (by omega) hk).mono ?_
    rintro e w1 ⟨rfl, hF1⟩
    rw [hB]
    go_wp2_with (fail)
    refine (hx2 w1).mono ?_
    rintro e w2 ⟨rfl, rfl⟩
    go_wp2_with (fail)
    go_ret
    exact ⟨rfl, hF1⟩
  · obtain ⟨X, rfl⟩ : ∃ X : Nat, x = X := ⟨x.toNat, by omega⟩
    obtain ⟨C, hC⟩ : ∃ C, B.extract 0 X = C := ⟨_, rfl⟩
    have hCs : C.size ≤ 1000000 := by rw [← hC, ByteArray.size_extract]; rw [← hB, esz]; omega
    have h2 := lastIx_range (· == 32) C C.size
    obtain ⟨y, hy⟩ : ∃ y, lastIx (· == 32) C C.size = y := ⟨_, rfl⟩
    have hlb := lastByte_c C 32 (by omega)
    have hl2 : ∀ w, Calls Tryz.prog 140 #[.string C, .int .u8 ((32 : UInt8).toNat : Int)] w fun e w' => e = .returned (.int .i64 y) ∧ w = w' := fun w => by rw [← hy]; exact hlb w
    clear hlb
    rw [hy] at h2
    have e9 : (spaceAt t k : Int) = y + 1 := by
      unfold spaceAt
      simp only [hB, hx]
      rw [if_neg hz]
      simp only [Int.toNat_natCast, hC, hy]
      omega
    have hXs : (X : Int) ≤ B.size := by omega
    have x1 : ((X : Int) == -1) = false := (int_ne (by omega)).1
    rw [e9]
    have HX := Lib.hid hx
    have HY := Lib.hid hy
    clear hx hy e9 hz
    by_cases hy1 : y = -1
    · subst hy1
      go_enter Tryz.func181, Tryz.ntmps181
      go_wp2_with (fail)
      refine (before_c hd ht.asc (by omega) hk).mono ?_
      rintro e w1 ⟨rfl, hF1⟩
      rw [hB]
      go_wp2_with (fail)
      refine (hx2 w1).mono ?_
      rintro e w2 ⟨rfl, rfl⟩
      go_wp2_with (fail)
      refine (hl2 w1).mono ?_
      rintro e w2 ⟨rfl, rfl⟩
      go_wp2_with (fail)
      go_ret
      exact ⟨rfl, hF1⟩
    · have y1 : (y == -1) = false := (int_ne hy1).1
      clear hy1
      go_enter Tryz.func181, Tryz.ntmps181
      go_wp2_with (fail)
      refine (before_c hd ht.asc (by omega) hk).mono ?_
      rintro e w1 ⟨rfl, hF1⟩
      rw [hB]
      go_wp2_with (fail)
      refine (hx2 w1).mono ?_
      rintro e w2 ⟨rfl, rfl⟩
      go_wp2_with (fail)
      refine (hl2 w1).mono ?_
      rintro e w2 ⟨rfl, rfl⟩
      go_wp2_with (fail)
      go_ret
      exact ⟨rfl, hF1⟩
theorem wordSpace_c {d : Nat} {t : ByteArray} {k : Nat} {w : World} (hd : Blk w d #[.string t, .int .i64 k] 75) (ht : Prn t) (hs : t.size ≤ 1000000) (hk : k ≤ t.size) : Calls Tryz.prog 165 #[.pointer (some ⟨d, 0, none⟩)] w fun e w' => e = .returned (.string (t.extract (spaceAt t k) k)) ∧ Fr 0 [] [] w w' := by
  have hl := spaceAt_le t k hk
  obtain ⟨a, ha⟩ : ∃ a, spaceAt t k = a := ⟨_, rfl⟩
  rw [ha] at hl ⊢
  have hsp := fun (w : World) (hd : Blk w d #[.string t, .int .i64 k] 75) => spaceAt_c hd ht hs hk
  rw [ha] at hsp
  have esz : (t.extract 0 k).size = k := by simp; omega
  have eex := extract_extract t a k hk
  obtain ⟨B, hB⟩ : ∃ B, t.extract 0 k = B := ⟨_, rfl⟩
  rw [hB] at esz eex
  rw [← eex]
  have hal : (a : Int) ≤ B.size := by omega
  have EZ := Lib.hid esz
  clear esz eex
  go_enter Tryz.func165, Tryz.ntmps165
  go_wp2_with (fail)
  refine (before_c hd ht.asc (by omega) hk).mono ?_
  rintro e w1 ⟨rfl, hF1⟩
  rw [hB]
  go_wp2_with (fail)
  refine (hsp w1 (hF1.blk0 hd)).mono ?_
  rintro e w2 ⟨rfl, hF2⟩
  go_wp2_with (fail)
  go_ret
  exact ⟨by rw [EZ.out]; rfl, hF1.trans hF2⟩
end Go.Proofs.YtiepopbmbgfhkaaGreat

namespace Go.Proofs.YtiepopbmbgfhkaaGreat
open Go.RowKit
set_option maxHeartbeats 4000000
set_option maxRecDepth 20000
set_option linter.unusedVariables false
set_option linter.unusedSimpArgs false

/-- A function that a key is bound to makes of a line and a cursor what g says. -/
def KF (f : Nat) (g : ByteArray → Nat → ByteArray × Nat) : Prop := ∀ (base : Nat) (w : World) (b L : Nat) (t : ByteArray) (k : Nat), Buf base w b L t k → Prn t → t.size ≤ 1000000 → k ≤ t.size →
  Calls Tryz.prog f #[.pointer (some ⟨b, 0, none⟩)] w fun e w' => e = .returned (.tuple #[]) ∧ Buf base w' b L (g t k).1 (g t k).2 ∧ Fr base [] [b, L] w w'

def gEnd (t : ByteArray) (k : Nat) : ByteArray × Nat := (t, k + min (t.size - k) (t.size - k))
def gStart (t : ByteArray) (k : Nat) : ByteArray × Nat := (t, k - min k k)
def gRight (t : ByteArray) (k : Nat) : ByteArray × Nat := (t, k + min 1 (t.size - k))
def gLeft (t : ByteArray) (k : Nat) : ByteArray × Nat := (t, k - min 1 k)
def gDel (t : ByteArray) (k : Nat) : ByteArray × Nat := (t.extract 0 k ++ t.extract (k + 1) t.size, k)
def gBack (t : ByteArray) (k : Nat) : ByteArray × Nat := (t.extract 0 (k - 1) ++ t.extract k t.size, k - 1)
def gKill (t : ByteArray) (k : Nat) : ByteArray × Nat := (t.extract 0 k ++ t.extract (k + (t.size - k)) t.size, k)
def gKillB (t : ByteArray) (k : Nat) : ByteArray × Nat := (t.extract 0 (k - k) ++ t.extract k t.size, k - k)
def gWord (t : ByteArray) (k : Nat) : ByteArray × Nat := (t.extract 0 (k - (k - spaceAt t k)) ++ t.extract k t.size, k - (k - spaceAt t k))

theorem kf149 : KF 149 gDel := by
  intro base w b L t k h ht hs hk
  go_enter Tryz.func149, Tryz.ntmps149
  go_wp2_with (fail)
  refine (delete_c h 1 ht hs hk (by omega)).mono ?_
  rintro e w1 ⟨⟨s, rfl⟩, hB1, hF1⟩
  go_wp2
  go_end0
  exact ⟨rfl, hB1, hF1.mono (by simp) (by simp)⟩

theorem kf150 : KF 150 gBack := by
  intro base w b L t k h ht hs hk
  go_enter Tryz.func150, Tryz.ntmps150
  go_wp2_with (fail)
  refine (delBefore_c h 1 ht.asc hs hk (by omega)).mono ?_
  rintro e w1 ⟨rfl, hB1, hF1⟩
  go_wp2
  go_end0
  exact ⟨rfl, hB1, hF1.mono (by simp) (by simp)⟩

theorem kf151 : KF 151 gRight := by
  intro base w b L t k h ht hs hk
  go_enter Tryz.func151, Tryz.ntmps151
  go_wp2_with (fail)
  refine (goRight_c h ht hs hk 1 (by omega)).mono ?_
  rintro e w1 ⟨rfl, hB1, hF1⟩
  go_wp2
  go_end0
  exact ⟨rfl, hB1, hF1.mono (by simp) (by simp)⟩

theorem kf152 : KF 152 gLeft := by
  intro base w b L t k h ht hs hk
  go_enter Tryz.func152, Tryz.ntmps152
  go_wp2_with (fail)
  refine (goLeft_c h ht hs hk 1 (by omega)).mono ?_
  rintro e w1 ⟨rfl, hB1, hF1⟩
  go_wp2
  go_end0
  exact ⟨rfl, hB1, hF1.mono (by simp) (by simp)⟩

theorem kf161 : KF 161 gBack := by
  intro base w b L t k h ht hs hk
  go_enter Tryz.func161, Tryz.ntmps161
  go_wp2_with (fail)
  refine (delBefore_c h 1 ht.asc hs hk (by omega)).mono ?_
  rintro e w1 ⟨rfl, hB1, hF1⟩
  go_wp2
  go_end0
  exact ⟨rfl, hB1, hF1.mono (by simp) (by simp)⟩

theorem kf162 : KF 162 gRight := by
  intro base w b L t k h ht hs hk
  go_enter Tryz.func162, Tryz.ntmps162
  go_wp2_with (fail)
  refine (goRight_c h ht hs hk 1 (by omega)).mono ?_
  rintro e w1 ⟨rfl, hB1, hF1⟩
  go_wp2
  go_end0
  exact ⟨rfl, hB1, hF1.mono (by simp) (by simp)⟩

theorem kf163 : KF 163 gLeft := by
  intro base w b L t k h ht hs hk
  go_enter Tryz.func163, Tryz.ntmps163
  go_wp2_with (fail)
  refine (goLeft_c h ht hs hk 1 (by omega)).mono ?_
  rintro e w1 ⟨rfl, hB1, hF1⟩
  go_wp2
  go_end0
  exact ⟨rfl, hB1, hF1.mono (by simp) (by simp)⟩

theorem kf147 : KF 147 gEnd := by
  intro base w b L t k h ht hs hk
  have esz : (t.extract k t.size).size = t.size - k := by simp; try omega
  have hxp : Prn (t.extract k t.size) := ht.extract _ _
  unfold gEnd
  obtain ⟨n, hn⟩ : ∃ n, t.size - k = n := ⟨_, rfl⟩
  have hnk : n ≤ t.size := by omega
  have hcon := fun (w : World) (h : Buf base w b L t k) => goRight_c h ht hs hk (t.size - k) (by omega)
  simp only [hn] at hcon ⊢
  obtain ⟨X, hX⟩ : ∃ X, t.extract k t.size = X := ⟨_, rfl⟩
  rw [hn, hX] at esz
  rw [hX] at hxp
  have har : ∀ (w : World) (d : Nat), Blk w d #[.string t, .int .i64 k] 75 → Calls Tryz.prog 84 #[.pointer (some ⟨d, 0, none⟩)] w fun e w' => e = .returned (.string X) ∧ Fr 0 [] [] w w' := fun w d hd => by rw [← hX]; exact after_c hd ht.asc (by omega) hk
  have hxa := hxp.asc
  have hxs : X.size ≤ 70368744177664 := by omega
  clear hn hX
  go_enter Tryz.func147, Tryz.ntmps147
  go_wp2_with (fail)
  refine (doc_c h).mono ?_
  rintro e w1 ⟨d, rfl, hd, hB1, hF1⟩
  go_wp2_with (fail)
  refine (har w1 d hd).mono ?_
  rintro e w2 ⟨rfl, hF2⟩
  have hB2 := hF2.buf0 hB1
  go_wp2_with (first | (refine wpList_plain rfl (fun K hK => ?_); refine wp_runes _ _ rfl rfl hxa hxs ?_; intro rb rc w3 hcap hR3 hF3; refine hK _ _ ?_; clear hK K; skip))
  refine (hcon _ (hF3.buf0 hB2)).mono ?_
  rintro e w4 ⟨rfl, hB4, hF4⟩
  go_wp2
  go_end0
  exact ⟨rfl, hB4, ((((Fr.refl base [] [b, L] w).into hF1 (by simp) (by simp)).ext hF2).ext hF3).into hF4 (by simp) (by simp)⟩

theorem kf148 : KF 148 gStart := by
  intro base w b L t k h ht hs hk
  have esz : (t.extract 0 k).size = k := by simp; try omega
  have hxp : Prn (t.extract 0 k) := ht.extract _ _
  unfold gStart
  have hcon := fun (w : World) (h : Buf base w b L t k) => goLeft_c h ht hs hk k (by omega)
  simp only
  obtain ⟨X, hX⟩ : ∃ X, t.extract 0 k = X := ⟨_, rfl⟩
  rw [hX] at esz
  rw [hX] at hxp
  have har : ∀ (w : World) (d : Nat), Blk w d #[.string t, .int .i64 k] 75 → Calls Tryz.prog 64 #[.pointer (some ⟨d, 0, none⟩)] w fun e w' => e = .returned (.string X) ∧ Fr 0 [] [] w w' := fun w d hd => by rw [← hX]; exact before_c hd ht.asc (by omega) hk
  have hxa := hxp.asc
  have hxs : X.size ≤ 70368744177664 := by omega
  clear hX
  go_enter Tryz.func148, Tryz.ntmps148
  go_wp2_with (fail)
  refine (doc_c h).mono ?_
  rintro e w1 ⟨d, rfl, hd, hB1, hF1⟩
  go_wp2_with (fail)
  refine (har w1 d hd).mono ?_
  rintro e w2 ⟨rfl, hF2⟩
  have hB2 := hF2.buf0 hB1
  go_wp2_with (first | (refine wpList_plain rfl (fun K hK => ?_); refine wp_runes _ _ rfl rfl hxa hxs ?_; intro rb rc w3 hcap hR3 hF3; refine hK _ _ ?_; clear hK K; skip))
  refine (hcon _ (hF3.buf0 hB2)).mono ?_
  rintro e w4 ⟨rfl, hB4, hF4⟩
  go_wp2
  go_end0
  exact ⟨rfl, hB4, ((((Fr.refl base [] [b, L] w).into hF1 (by simp) (by simp)).ext hF2).ext hF3).into hF4 (by simp) (by simp)⟩

theorem kf153 : KF 153 gEnd := by
  intro base w b L t k h ht hs hk
  have esz : (t.extract k t.size).size = t.size - k := by simp; try omega
  have hxp : Prn (t.extract k t.size) := ht.extract _ _
  unfold gEnd
  obtain ⟨n, hn⟩ : ∃ n, t.size - k = n := ⟨_, rfl⟩
  have hnk : n ≤ t.size := by omega
  have hcon := fun (w : World) (h : Buf base w b L t k) => goRight_c h ht hs hk (t.size - k) (by omega)
  simp only [hn] at hcon ⊢
  obtain ⟨X, hX⟩ : ∃ X, t.extract k t.size = X := ⟨_, rfl⟩
  rw [hn, hX] at esz
  rw [hX] at hxp
  have har : ∀ (w : World) (d : Nat), Blk w d #[.string t, .int .i64 k] 75 → Calls Tryz.prog 84 #[.pointer (some ⟨d, 0, none⟩)] w fun e w' => e = .returned (.string X) ∧ Fr 0 [] [] w w' := fun w d hd => by rw [← hX]; exact after_c hd ht.asc (by omega) hk
  have hxa := hxp.asc
  have hxs : X.size ≤ 70368744177664 := by omega
  clear hn hX
  go_enter Tryz.func153, Tryz.ntmps153
  go_wp2_with (fail)
  refine (doc_c h).mono ?_
  rintro e w1 ⟨d, rfl, hd, hB1, hF1⟩
  go_wp2_with (fail)
  refine (har w1 d hd).mono ?_
  rintro e w2 ⟨rfl, hF2⟩
  have hB2 := hF2.buf0 hB1
  go_wp2_with (first | (refine wpList_plain rfl (fun K hK => ?_); refine wp_runes _ _ rfl rfl hxa hxs ?_; intro rb rc w3 hcap hR3 hF3; refine hK _ _ ?_; clear hK K; skip))
  refine (hcon _ (hF3.buf0 hB2)).mono ?_
  rintro e w4 ⟨rfl, hB4, hF4⟩
  go_wp2
  go_end0
  exact ⟨rfl, hB4, ((((Fr.refl base [] [b, L] w).into hF1 (by simp) (by simp)).ext hF2).ext hF3).into hF4 (by simp) (by simp)⟩

theorem kf155 : KF 155 gStart := by
  intro base w b L t k h ht hs hk
  have esz : (t.extract 0 k).size = k := by simp; try omega
  have hxp : Prn (t.extract 0 k) := ht.extract _ _
  unfold gStart
  have hcon := fun (w : World) (h : Buf base w b L t k) => goLeft_c h ht hs hk k (by omega)
  simp only
  obtain ⟨X, hX⟩ : ∃ X, t.extract 0 k = X := ⟨_, rfl⟩
  rw [hX] at esz
  rw [hX] at hxp
  have har : ∀ (w : World) (d : Nat), Blk w d #[.string t, .int .i64 k] 75 → Calls Tryz.prog 64 #[.pointer (some ⟨d, 0, none⟩)] w fun e w' => e = .returned (.string X) ∧ Fr 0 [] [] w w' := fun w d hd => by rw [← hX]; exact before_c hd ht.asc (by omega) hk
  have hxa := hxp.asc
  have hxs : X.size ≤ 70368744177664 := by omega
  clear hX
  go_enter Tryz.func155, Tryz.ntmps155
  go_wp2_with (fail)
  refine (doc_c h).mono ?_
  rintro e w1 ⟨d, rfl, hd, hB1, hF1⟩
  go_wp2_with (fail)
  refine (har w1 d hd).mono ?_
  rintro e w2 ⟨rfl, hF2⟩
  have hB2 := hF2.buf0 hB1
  go_wp2_with (first | (refine wpList_plain rfl (fun K hK => ?_); refine wp_runes _ _ rfl rfl hxa hxs ?_; intro rb rc w3 hcap hR3 hF3; refine hK _ _ ?_; clear hK K; skip))
  refine (hcon _ (hF3.buf0 hB2)).mono ?_
  rintro e w4 ⟨rfl, hB4, hF4⟩
  go_wp2
  go_end0
  exact ⟨rfl, hB4, ((((Fr.refl base [] [b, L] w).into hF1 (by simp) (by simp)).ext hF2).ext hF3).into hF4 (by simp) (by simp)⟩

theorem kf157 : KF 157 gKill := by
  intro base w b L t k h ht hs hk
  have esz : (t.extract k t.size).size = t.size - k := by simp; try omega
  have hxp : Prn (t.extract k t.size) := ht.extract _ _
  unfold gKill
  obtain ⟨n, hn⟩ : ∃ n, t.size - k = n := ⟨_, rfl⟩
  have hnk : n ≤ t.size := by omega
  have hcon := fun (w : World) (h : Buf base w b L t k) => delete_c h (t.size - k) ht hs hk (by omega)
  simp only [hn] at hcon ⊢
  obtain ⟨X, hX⟩ : ∃ X, t.extract k t.size = X := ⟨_, rfl⟩
  rw [hn, hX] at esz
  rw [hX] at hxp
  have har : ∀ (w : World) (d : Nat), Blk w d #[.string t, .int .i64 k] 75 → Calls Tryz.prog 84 #[.pointer (some ⟨d, 0, none⟩)] w fun e w' => e = .returned (.string X) ∧ Fr 0 [] [] w w' := fun w d hd => by rw [← hX]; exact after_c hd ht.asc (by omega) hk
  have hxa := hxp.asc
  have hxs : X.size ≤ 70368744177664 := by omega
  clear hn hX
  go_enter Tryz.func157, Tryz.ntmps157
  go_wp2_with (fail)
  refine (doc_c h).mono ?_
  rintro e w1 ⟨d, rfl, hd, hB1, hF1⟩
  go_wp2_with (fail)
  refine (har w1 d hd).mono ?_
  rintro e w2 ⟨rfl, hF2⟩
  have hB2 := hF2.buf0 hB1
  go_wp2_with (first | (refine wpList_plain rfl (fun K hK => ?_); refine wp_runes _ _ rfl rfl hxa hxs ?_; intro rb rc w3 hcap hR3 hF3; refine hK _ _ ?_; clear hK K; skip))
  refine (hcon _ (hF3.buf0 hB2)).mono ?_
  rintro e w4 ⟨⟨s, rfl⟩, hB4, hF4⟩
  go_wp2
  go_end0
  exact ⟨rfl, hB4, ((((Fr.refl base [] [b, L] w).into hF1 (by simp) (by simp)).ext hF2).ext hF3).into hF4 (by simp) (by simp)⟩

theorem kf159 : KF 159 gKillB := by
  intro base w b L t k h ht hs hk
  have esz : (t.extract 0 k).size = k := by simp; try omega
  have hxp : Prn (t.extract 0 k) := ht.extract _ _
  unfold gKillB
  have hcon := fun (w : World) (h : Buf base w b L t k) => delBefore_c h k ht.asc hs hk (by omega)
  simp only
  obtain ⟨X, hX⟩ : ∃ X, t.extract 0 k = X := ⟨_, rfl⟩
  rw [hX] at esz
  rw [hX] at hxp
  have har : ∀ (w : World) (d : Nat), Blk w d #[.string t, .int .i64 k] 75 → Calls Tryz.prog 64 #[.pointer (some ⟨d, 0, none⟩)] w fun e w' => e = .returned (.string X) ∧ Fr 0 [] [] w w' := fun w d hd => by rw [← hX]; exact before_c hd ht.asc (by omega) hk
  have hxa := hxp.asc
  have hxs : X.size ≤ 70368744177664 := by omega
  clear hX
  go_enter Tryz.func159, Tryz.ntmps159
  go_wp2_with (fail)
  refine (doc_c h).mono ?_
  rintro e w1 ⟨d, rfl, hd, hB1, hF1⟩
  go_wp2_with (fail)
  refine (har w1 d hd).mono ?_
  rintro e w2 ⟨rfl, hF2⟩
  have hB2 := hF2.buf0 hB1
  go_wp2_with (first | (refine wpList_plain rfl (fun K hK => ?_); refine wp_runes _ _ rfl rfl hxa hxs ?_; intro rb rc w3 hcap hR3 hF3; refine hK _ _ ?_; clear hK K; skip))
  refine (hcon _ (hF3.buf0 hB2)).mono ?_
  rintro e w4 ⟨rfl, hB4, hF4⟩
  go_wp2
  go_end0
  exact ⟨rfl, hB4, ((((Fr.refl base [] [b, L] w).into hF1 (by simp) (by simp)).ext hF2).ext hF3).into hF4 (by simp) (by simp)⟩

theorem kf160 : KF 160 gDel := by
  intro base w b L t k h ht hs hk
  obtain ⟨em, hem⟩ : ∃ em, t.toList.isEmpty = em := ⟨_, rfl⟩
  have hem2 : em = true → t.toList = [] := fun e => by rw [← hem] at e; simpa using e
  have hem3 : em = false → t.toList ≠ [] := fun e e2 => by rw [e2] at hem; rw [← hem] at e; simp at e
  cases em with
  | true =>
    have hE2 := hem2 rfl
    have hz : t.size = 0 := by
      rw [ByteArray.toList_eq] at hE2
      have : t.data.toList.length = 0 := by rw [hE2]; rfl
      simpa using this
    have ht0 : t.extract 0 k ++ t.extract (k + 1) t.size = t := by
      have hk0 : k = 0 := by omega
      rw [extract_empty t (k + 1) t.size (by omega), hk0, extract_empty t 0 0 (by omega)]
      apply ByteArray.ext
      have : t.data = #[] := Array.eq_empty_of_size_eq_zero hz
      rw [this]
      rfl
    unfold gDel
    simp only [ht0]
    have HZ := Lib.hid hz
    clear hz ht0 hem2 hem3
    go_enter Tryz.func160, Tryz.ntmps160
    go_wp2_with (fail)
    refine (text_c h).mono ?_
    rintro e w1 ⟨rfl, n, rfl⟩
    go_wp2_with (fail)
    go_end0
    exact ⟨rfl, h.drewN n, (Fr.refl _ _ _ _).drewN n⟩
  | false =>
    have hE2 := hem3 rfl
    clear hem2 hem3
    go_enter Tryz.func160, Tryz.ntmps160
    go_wp2_with (fail)
    refine (text_c h).mono ?_
    rintro e w1 ⟨rfl, n, rfl⟩
    go_wp2_with (fail)
    refine (delete_c (h.drewN n) 1 ht hs hk (by omega)).mono ?_
    rintro e w2 ⟨⟨s, rfl⟩, hB2, hF2⟩
    go_wp2
    go_end0
    exact ⟨rfl, hB2, ((Fr.refl base [] [b, L] w).drewN n).into hF2 (by simp) (by simp)⟩

theorem kf164 : KF 164 gWord := by
  intro base w b L t k h ht hs hk
  have hl := spaceAt_le t k hk
  have esz : (t.extract (spaceAt t k) k).size = k - spaceAt t k := by simp; omega
  have hxp : Prn (t.extract (spaceAt t k) k) := ht.extract _ _
  have hws := fun (w : World) (d : Nat) (hd : Blk w d #[.string t, .int .i64 k] 75) => wordSpace_c hd ht hs hk
  unfold gWord
  obtain ⟨n, hn⟩ : ∃ n, k - spaceAt t k = n := ⟨_, rfl⟩
  have hcon := fun (w : World) (h : Buf base w b L t k) => delBefore_c h n ht.asc hs hk (by omega)
  simp only [hn]
  rw [hn] at esz
  obtain ⟨X, hX⟩ : ∃ X, t.extract (spaceAt t k) k = X := ⟨_, rfl⟩
  rw [hX] at esz hxp
  simp only [hX] at hws
  have hxa := hxp.asc
  have hxs : X.size ≤ 70368744177664 := by omega
  clear hn hX hl
  go_enter Tryz.func164, Tryz.ntmps164
  go_wp2_with (fail)
  refine (doc_c h).mono ?_
  rintro e w1 ⟨d, rfl, hd, hB1, hF1⟩
  go_wp2_with (fail)
  refine (hws w1 d hd).mono ?_
  rintro e w2 ⟨rfl, hF2⟩
  have hB2 := hF2.buf0 hB1
  go_wp2_with (first | (refine wpList_plain rfl (fun K hK => ?_); refine wp_runes _ _ rfl rfl hxa hxs ?_; intro rb rc w3 hcap hR3 hF3; refine hK _ _ ?_; clear hK K; skip))
  refine (hcon _ (hF3.buf0 hB2)).mono ?_
  rintro e w4 ⟨rfl, hB4, hF4⟩
  go_wp2
  go_end0
  exact ⟨rfl, hB4, ((((Fr.refl base [] [b, L] w).into hF1 (by simp) (by simp)).ext hF2).ext hF3).into hF4 (by simp) (by simp)⟩
end Go.Proofs.YtiepopbmbgfhkaaGreat
