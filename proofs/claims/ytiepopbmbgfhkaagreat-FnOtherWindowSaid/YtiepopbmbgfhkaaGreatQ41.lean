/-
  The set's documents: the steps that keys are bound to.
-/
import Derived.Test.YtiepopbmbgfhkaaGreatQ40
namespace Go.Proofs.YtiepopbmbgfhkaaGreat
open Go.RowKit
open List renaming setIfInBounds_toArray → zq1, set_cons_zero → zq2, set_cons_succ → zq3
open Int renaming toNat_natCast → zq4, toNat_sub → zq5, toNat_zero → zq6
set_option maxHeartbeats 4000000
set_option maxRecDepth 20000
set_option linter.unusedVariables false
set_option linter.unusedSimpArgs false

/-- The blocks of a step. -/
structure StB (w w0 : World) (M : Nat) (t : ByteArray) (k : Nat) (op n : Int) : Prop where
  d : Blk w0 M #[.string t, .int .i64 k] 61
  e : Blk w0 (M + 1) #[.int .i64 op, .int .i64 n, .string ⟨#[]⟩, .bool false] 151
  x : Blk w0 (M + 2) #[.string ⟨#[]⟩, .int .i64 0] 61
  f : Fr 0 [] [] w w0
  m : w.heap.size = M
theorem StB.new {w : World} {M : Nat} (hM : w.heap.size = M) (t : ByteArray) (k : Nat) (op n : Int) : StB w (((w.alloc (.cells #[.string t, .int .i64 k] 61)).alloc (.cells #[.int .i64 op, .int .i64 n, .string ⟨#[]⟩, .bool false] 151)).alloc (.cells #[.string ⟨#[]⟩, .int .i64 0] 61)) M t k op n :=
  ⟨((Blk.new' hM.symm _ _).alloc _).alloc _, (Blk.new' (by simp [hM]) _ _).alloc _, Blk.new' (by simp [hM]) _ _, (((Fr.refl 0 [] [] w).alloc _).alloc _).alloc _, hM⟩
theorem StB.fr {w w0 w1 : World} {M : Nat} {t : ByteArray} {k : Nat} {op n : Int} (h : StB w w0 M t k op n) (hF : Fr 0 [] [] w0 w1) : StB w w1 M t k op n :=
  ⟨hF.blk0 h.d, hF.blk0 h.e, hF.blk0 h.x, h.f.trans hF, h.m⟩
theorem StB.put {w w0 : World} {M : Nat} {t : ByteArray} {k : Nat} {op n : Int} (h : StB w w0 M t k op n) (a b : Value) : Fr 0 [] [] w ((w0.setCell ⟨M + 2, 0, none⟩ a).setCell ⟨M + 2, 1, none⟩ b) :=
  (h.f.setCell (a := ⟨M + 2, 0, none⟩) (Nat.zero_le _) (.inr (.inl (by show _ ≤ M + 2; have := h.m; omega))) _).setCell (a := ⟨M + 2, 1, none⟩) (Nat.zero_le _) (.inr (.inl (by show _ ≤ M + 2; have := h.m; omega))) _

section
variable (t : ByteArray) (k : Nat) (ht : Prn t) (hs : t.size ≤ 100000) (hk : k ≤ t.size) (w : World)
include ht hs hk
theorem step7_c (n : Nat) (hn : n ≤ 1000000) : Calls Tryz.prog 99 #[.agg #[.string t, .int .i64 k], .agg #[.int .i64 7, .int .i64 n, .string ⟨#[]⟩, .bool false]] w (StepPost (t.extract 0 (k - min n k) ++ t.extract k t.size) (k - min n k) w) := by
  have hb := fun w => sBefore_c t k ht (by omega) hk w
  have hc := fun w => sBeforeCut_c t k n ht (by omega) hk hn w

  obtain ⟨q, hq⟩ : ∃ q, k - min n k = q := ⟨_, rfl⟩
  simp only [hq] at hc ⊢
  obtain ⟨T, hT⟩ : ∃ T, t.extract 0 (q) ++ t.extract k t.size = T := ⟨_, rfl⟩
  simp only [hT] at hc ⊢
  clear hT
  obtain ⟨M, hM⟩ : ∃ M, w.heap.size = M := ⟨_, rfl⟩
  have h0 := StB.new hM t k 7 n
  obtain ⟨w0, hw0⟩ : ∃ w0, ((w.alloc (.cells #[.string t, .int .i64 k] 61)).alloc (.cells #[.int .i64 7, .int .i64 n, .string ⟨#[]⟩, .bool false] 151)).alloc (.cells #[.string ⟨#[]⟩, .int .i64 0] 61) = w0 := ⟨_, rfl⟩
  rw [hw0] at h0
  obtain ⟨d0, d1, df0, df1⟩ := h0.d.c2
  have dl := h0.d.lt
  go_enter Tryz.func99, Tryz.ntmps99
  go_wp2_with (fail)
  refine (hb _).mono ?_
  rintro e w1 ⟨rfl, hF1⟩
  clear d0 d1 df0 df1 dl hw0
  replace h0 := h0.fr hF1
  have e0 := h0.e.cell 0
  have e1 := h0.e.cell 1
  have el := h0.e.lt
  obtain ⟨d0, d1, df0, df1⟩ := h0.d.c2
  have dl := h0.d.lt
  simp only [List.getElem?_toArray, List.getElem?_cons_zero, List.getElem?_cons_succ] at e0 e1
  go_wp2_with (fail)
  refine (hc _).mono ?_
  rintro e w2 ⟨x, b, rfl, hF2⟩
  clear d0 d1 df0 df1 dl e0 e1 el hc hb hF1
  replace h0 := h0.fr hF2
  obtain ⟨x0, x1, xf0, xf1⟩ := h0.x.c2
  have xl := h0.x.lt
  go_wp2_with (fail)
  refine bodyPost_ret (res61_3 rfl rfl ((h0.x.set 0 _).set 1 _) rfl) rfl ?_
  exact ⟨_, _, rfl, h0.put _ _⟩
theorem step8_c (n : Nat) (hn : n ≤ t.size - k ∨ t.size - k = 0) (hn9 : n ≤ 1000000) : Calls Tryz.prog 99 #[.agg #[.string t, .int .i64 k], .agg #[.int .i64 8, .int .i64 n, .string ⟨#[]⟩, .bool false]] w (StepPost (t.extract 0 k ++ t.extract (k + min n (t.size - k)) t.size) (k) w) := by
  have hb := fun w => sBefore_c t k ht (by omega) hk w
  have hc := fun w => sBehindCut_c t k n ht (by omega) hk hn hn9 w

  obtain ⟨T, hT⟩ : ∃ T, t.extract 0 k ++ t.extract (k + min n (t.size - k)) t.size = T := ⟨_, rfl⟩
  simp only [hT] at hc ⊢
  clear hT
  obtain ⟨M, hM⟩ : ∃ M, w.heap.size = M := ⟨_, rfl⟩
  have h0 := StB.new hM t k 8 n
  obtain ⟨w0, hw0⟩ : ∃ w0, ((w.alloc (.cells #[.string t, .int .i64 k] 61)).alloc (.cells #[.int .i64 8, .int .i64 n, .string ⟨#[]⟩, .bool false] 151)).alloc (.cells #[.string ⟨#[]⟩, .int .i64 0] 61) = w0 := ⟨_, rfl⟩
  rw [hw0] at h0
  obtain ⟨d0, d1, df0, df1⟩ := h0.d.c2
  have dl := h0.d.lt
  go_enter Tryz.func99, Tryz.ntmps99
  go_wp2_with (fail)
  refine (hb _).mono ?_
  rintro e w1 ⟨rfl, hF1⟩
  clear d0 d1 df0 df1 dl hw0
  replace h0 := h0.fr hF1
  have e0 := h0.e.cell 0
  have e1 := h0.e.cell 1
  have el := h0.e.lt
  obtain ⟨d0, d1, df0, df1⟩ := h0.d.c2
  have dl := h0.d.lt
  simp only [List.getElem?_toArray, List.getElem?_cons_zero, List.getElem?_cons_succ] at e0 e1
  go_wp2_with (fail)
  refine (hc _).mono ?_
  rintro e w2 ⟨x, b, rfl, hF2⟩
  clear d0 d1 df0 df1 dl e0 e1 el hc hb hF1
  replace h0 := h0.fr hF2
  obtain ⟨x0, x1, xf0, xf1⟩ := h0.x.c2
  have xl := h0.x.lt
  go_wp2_with (fail)
  refine bodyPost_ret (res61_3 rfl rfl ((h0.x.set 0 _).set 1 _) rfl) rfl ?_
  exact ⟨_, _, rfl, h0.put _ _⟩
theorem step14_c  : Calls Tryz.prog 99 #[.agg #[.string t, .int .i64 k], .agg #[.int .i64 14, .int .i64 0, .string ⟨#[]⟩, .bool false]] w (StepPost (t.extract 0 k ++ t.extract (k + min 1 (t.size - k)) t.size) (k) w) := by
  have hb := fun w => sBefore_c t k ht (by omega) hk w
  have hc := fun w => sBehindCut_c t k 1 ht (by omega) hk (by omega) (by omega) w

  obtain ⟨T, hT⟩ : ∃ T, t.extract 0 k ++ t.extract (k + min 1 (t.size - k)) t.size = T := ⟨_, rfl⟩
  simp only [hT] at hc ⊢
  clear hT
  obtain ⟨M, hM⟩ : ∃ M, w.heap.size = M := ⟨_, rfl⟩
  have h0 := StB.new hM t k 14 0
  obtain ⟨w0, hw0⟩ : ∃ w0, ((w.alloc (.cells #[.string t, .int .i64 k] 61)).alloc (.cells #[.int .i64 14, .int .i64 0, .string ⟨#[]⟩, .bool false] 151)).alloc (.cells #[.string ⟨#[]⟩, .int .i64 0] 61) = w0 := ⟨_, rfl⟩
  rw [hw0] at h0
  obtain ⟨d0, d1, df0, df1⟩ := h0.d.c2
  have dl := h0.d.lt
  go_enter Tryz.func99, Tryz.ntmps99
  go_wp2_with (fail)
  refine (hb _).mono ?_
  rintro e w1 ⟨rfl, hF1⟩
  clear d0 d1 df0 df1 dl hw0
  replace h0 := h0.fr hF1
  have e0 := h0.e.cell 0
  have e1 := h0.e.cell 1
  have el := h0.e.lt
  obtain ⟨d0, d1, df0, df1⟩ := h0.d.c2
  have dl := h0.d.lt
  simp only [List.getElem?_toArray, List.getElem?_cons_zero, List.getElem?_cons_succ] at e0 e1
  go_wp2_with (fail)
  refine (hc _).mono ?_
  rintro e w2 ⟨x, b, rfl, hF2⟩
  clear d0 d1 df0 df1 dl e0 e1 el hc hb hF1
  replace h0 := h0.fr hF2
  obtain ⟨x0, x1, xf0, xf1⟩ := h0.x.c2
  have xl := h0.x.lt
  go_wp2_with (fail)
  refine bodyPost_ret (res61_3 rfl rfl ((h0.x.set 0 _).set 1 _) rfl) rfl ?_
  exact ⟨_, _, rfl, h0.put _ _⟩
theorem step16_c  : Calls Tryz.prog 99 #[.agg #[.string t, .int .i64 k], .agg #[.int .i64 16, .int .i64 0, .string ⟨#[]⟩, .bool false]] w (StepPost (t.extract 0 (k - min 1 k) ++ t.extract k t.size) (k - min 1 k) w) := by
  have hb := fun w => sBefore_c t k ht (by omega) hk w
  have hc := fun w => sBeforeCut_c t k 1 ht (by omega) hk (by omega) w

  obtain ⟨q, hq⟩ : ∃ q, k - min 1 k = q := ⟨_, rfl⟩
  simp only [hq] at hc ⊢
  obtain ⟨T, hT⟩ : ∃ T, t.extract 0 (q) ++ t.extract k t.size = T := ⟨_, rfl⟩
  simp only [hT] at hc ⊢
  clear hT
  obtain ⟨M, hM⟩ : ∃ M, w.heap.size = M := ⟨_, rfl⟩
  have h0 := StB.new hM t k 16 0
  obtain ⟨w0, hw0⟩ : ∃ w0, ((w.alloc (.cells #[.string t, .int .i64 k] 61)).alloc (.cells #[.int .i64 16, .int .i64 0, .string ⟨#[]⟩, .bool false] 151)).alloc (.cells #[.string ⟨#[]⟩, .int .i64 0] 61) = w0 := ⟨_, rfl⟩
  rw [hw0] at h0
  obtain ⟨d0, d1, df0, df1⟩ := h0.d.c2
  have dl := h0.d.lt
  go_enter Tryz.func99, Tryz.ntmps99
  go_wp2_with (fail)
  refine (hb _).mono ?_
  rintro e w1 ⟨rfl, hF1⟩
  clear d0 d1 df0 df1 dl hw0
  replace h0 := h0.fr hF1
  have e0 := h0.e.cell 0
  have e1 := h0.e.cell 1
  have el := h0.e.lt
  obtain ⟨d0, d1, df0, df1⟩ := h0.d.c2
  have dl := h0.d.lt
  simp only [List.getElem?_toArray, List.getElem?_cons_zero, List.getElem?_cons_succ] at e0 e1
  go_wp2_with (fail)
  refine (hc _).mono ?_
  rintro e w2 ⟨x, b, rfl, hF2⟩
  clear d0 d1 df0 df1 dl e0 e1 el hc hb hF1
  replace h0 := h0.fr hF2
  obtain ⟨x0, x1, xf0, xf1⟩ := h0.x.c2
  have xl := h0.x.lt
  go_wp2_with (fail)
  refine bodyPost_ret (res61_3 rfl rfl ((h0.x.set 0 _).set 1 _) rfl) rfl ?_
  exact ⟨_, _, rfl, h0.put _ _⟩
theorem step17_c : Calls Tryz.prog 99 #[.agg #[.string t, .int .i64 k], .agg #[.int .i64 17, .int .i64 0, .string ⟨#[]⟩, .bool false]] w (StepPost t (k + min 1 (t.size - k)) w) := by
  have hb := fun w => sBefore_c t k ht (by omega) hk w
  have hr := fun w => sRight_c t k 1 ht (by omega) hk (by omega) w
  obtain ⟨m, hm⟩ : ∃ m, min 1 (t.size - k) = m := ⟨_, rfl⟩
  simp only [hm] at hr
  obtain ⟨q, hq⟩ : ∃ q, k + m = q := ⟨_, rfl⟩
  have hqw : IntKind.i64.wrap ((k : Int) + (m : Int)) = (q : Int) := by rw [wrap_in (by omega) (by omega)]; omega
  rw [hm, hq]
  clear hm hq
  obtain ⟨M, hM⟩ : ∃ M, w.heap.size = M := ⟨_, rfl⟩
  have h0 := StB.new hM t k 17 0
  obtain ⟨w0, hw0⟩ : ∃ w0, ((w.alloc (.cells #[.string t, .int .i64 k] 61)).alloc (.cells #[.int .i64 17, .int .i64 0, .string ⟨#[]⟩, .bool false] 151)).alloc (.cells #[.string ⟨#[]⟩, .int .i64 0] 61) = w0 := ⟨_, rfl⟩
  rw [hw0] at h0
  obtain ⟨d0, d1, df0, df1⟩ := h0.d.c2
  have dl := h0.d.lt
  go_enter Tryz.func99, Tryz.ntmps99
  go_wp2_with (fail)
  refine (hb _).mono ?_
  rintro e w1 ⟨rfl, hF1⟩
  clear d0 d1 df0 df1 dl hw0
  replace h0 := h0.fr hF1
  have e0 := h0.e.cell 0
  have e1 := h0.e.cell 1
  have el := h0.e.lt
  obtain ⟨d0, d1, df0, df1⟩ := h0.d.c2
  have dl := h0.d.lt
  simp only [List.getElem?_toArray, List.getElem?_cons_zero, List.getElem?_cons_succ] at e0 e1
  go_wp2_with (fail)
  clear d0 d1 df0 df1 dl e0 e1 el hb hF1
  replace h0 := h0.fr ((Fr.refl 0 [] [] _).drew)
  have hS : (fun w' : World => Blk w' M #[.string t, .int .i64 k] 61) _ := h0.d
  refine wp_region_plan [1, 3, 4] [5, 8] (fun w' : World => Blk w' M #[.string t, .int .i64 k] 61) (.pure 0 (.take 1 (.pure 2 (.take 3 (.take 4 (.go 5 (.pure 6 (.pure 7 (.go 8 (.pure 9 (.pure 10 .done))))))))))) hmix (by kernel_rfl) ?_
  repeat (first | (refine plan_take rfl hS rfl (fun w' hSw => ex_load61 rfl rfl hSw) ?_; (try simp only [Act.put, zq1, zq2, zq3, zq4, zq5, zq6])) | (refine plan_take rfl hS rfl (fun w' hSw => ex_load9 rfl rfl hSw) ?_; (try simp only [Act.put, zq1, zq2, zq3, zq4, zq5, zq6])) | (refine plan_take rfl hS rfl (fun w' hSw => ex_load3 rfl rfl hSw) ?_; (try simp only [Act.put, zq1, zq2, zq3, zq4, zq5, zq6])) | (refine plan_pure (v := ?_) rfl rfl ?_ ?_; rotate_left; (intro w'; go_simp <;> with_reducible rfl); (try simp only [Act.put, zq1, zq2, zq3, zq4, zq5, zq6])) | (refine plan_take (v := ?_) rfl hS rfl ?_ ?_; rotate_left; (intro w' hSw; (try dsimp only at hSw); go_simp <;> with_reducible rfl); (try simp only [Act.put, zq1, zq2, zq3, zq4, zq5, zq6])))
  refine plan_goS rfl rfl (fun K hK => ?_)
  go_simp; refine (hr _).mono ?_; rintro e w2 ⟨rfl, hF2⟩; replace h0 := h0.fr hF2; refine hK _ _ h0.d ?_; clear hK K hF2; (try simp only [Act.put, zq1, zq2, zq3, zq4, zq5, zq6])
  repeat (first | (refine plan_take rfl hS rfl (fun w' hSw => ex_load61 rfl rfl hSw) ?_; (try simp only [Act.put, zq1, zq2, zq3, zq4, zq5, zq6])) | (refine plan_take rfl hS rfl (fun w' hSw => ex_load9 rfl rfl hSw) ?_; (try simp only [Act.put, zq1, zq2, zq3, zq4, zq5, zq6])) | (refine plan_take rfl hS rfl (fun w' hSw => ex_load3 rfl rfl hSw) ?_; (try simp only [Act.put, zq1, zq2, zq3, zq4, zq5, zq6])) | (refine plan_pure (v := ?_) rfl rfl ?_ ?_; rotate_left; (intro w'; go_simp <;> with_reducible rfl); (try simp only [Act.put, zq1, zq2, zq3, zq4, zq5, zq6])))
  refine plan_go rfl (by kernel_rfl) rfl (fun K hK => ?_)
  obtain ⟨x0, x1, xf0, xf1⟩ := h0.x.c2; have xl := h0.x.lt; go_simp; refine hK _ _ ?_; clear hK K; (try simp only [Act.put, zq1, zq2, zq3, zq4, zq5, zq6])
  repeat (first | (refine plan_take rfl hS rfl (fun w' hSw => ex_load61 rfl rfl hSw) ?_; (try simp only [Act.put, zq1, zq2, zq3, zq4, zq5, zq6])) | (refine plan_take rfl hS rfl (fun w' hSw => ex_load9 rfl rfl hSw) ?_; (try simp only [Act.put, zq1, zq2, zq3, zq4, zq5, zq6])) | (refine plan_take rfl hS rfl (fun w' hSw => ex_load3 rfl rfl hSw) ?_; (try simp only [Act.put, zq1, zq2, zq3, zq4, zq5, zq6])) | (refine plan_pure (v := ?_) rfl rfl ?_ ?_; rotate_left; (intro w'; go_simp <;> with_reducible rfl); (try simp only [Act.put, zq1, zq2, zq3, zq4, zq5, zq6])))
  refine plan_done ?_
  go_wp2_with (fail)
  refine bodyPost_ret (res61_3 rfl rfl ((h0.x.set 0 _).set 1 _) rfl) rfl ?_
  exact ⟨_, _, rfl, h0.put _ _⟩
theorem step18_c : Calls Tryz.prog 99 #[.agg #[.string t, .int .i64 k], .agg #[.int .i64 18, .int .i64 0, .string ⟨#[]⟩, .bool false]] w (StepPost t (k - min 1 k) w) := by
  have hb := fun w => sBefore_c t k ht (by omega) hk w
  have hr := fun w => sLeft_c t k 1 ht (by omega) hk (by omega) w
  obtain ⟨m, hm⟩ : ∃ m, min 1 k = m := ⟨_, rfl⟩
  simp only [hm] at hr
  obtain ⟨q, hq⟩ : ∃ q, k - m = q := ⟨_, rfl⟩
  have hqw : IntKind.i64.wrap ((k : Int) + -(m : Int)) = (q : Int) := by rw [wrap_in (by omega) (by omega)]; omega
  rw [hm, hq]
  clear hm hq
  obtain ⟨M, hM⟩ : ∃ M, w.heap.size = M := ⟨_, rfl⟩
  have h0 := StB.new hM t k 18 0
  obtain ⟨w0, hw0⟩ : ∃ w0, ((w.alloc (.cells #[.string t, .int .i64 k] 61)).alloc (.cells #[.int .i64 18, .int .i64 0, .string ⟨#[]⟩, .bool false] 151)).alloc (.cells #[.string ⟨#[]⟩, .int .i64 0] 61) = w0 := ⟨_, rfl⟩
  rw [hw0] at h0
  obtain ⟨d0, d1, df0, df1⟩ := h0.d.c2
  have dl := h0.d.lt
  go_enter Tryz.func99, Tryz.ntmps99
  go_wp2_with (fail)
  refine (hb _).mono ?_
  rintro e w1 ⟨rfl, hF1⟩
  clear d0 d1 df0 df1 dl hw0
  replace h0 := h0.fr hF1
  have e0 := h0.e.cell 0
  have e1 := h0.e.cell 1
  have el := h0.e.lt
  obtain ⟨d0, d1, df0, df1⟩ := h0.d.c2
  have dl := h0.d.lt
  simp only [List.getElem?_toArray, List.getElem?_cons_zero, List.getElem?_cons_succ] at e0 e1
  go_wp2_with (fail)
  clear d0 d1 df0 df1 dl e0 e1 el hb hF1
  replace h0 := h0.fr ((Fr.refl 0 [] [] _).drew)
  have hS : (fun w' : World => Blk w' M #[.string t, .int .i64 k] 61) _ := h0.d
  refine wp_region_plan [1, 3, 4] [5, 8] (fun w' : World => Blk w' M #[.string t, .int .i64 k] 61) (.pure 0 (.take 1 (.pure 2 (.take 3 (.take 4 (.go 5 (.pure 6 (.pure 7 (.go 8 (.pure 9 (.pure 10 .done))))))))))) hmix (by kernel_rfl) ?_
  repeat (first | (refine plan_take rfl hS rfl (fun w' hSw => ex_load61 rfl rfl hSw) ?_; (try simp only [Act.put, zq1, zq2, zq3, zq4, zq5, zq6])) | (refine plan_take rfl hS rfl (fun w' hSw => ex_load9 rfl rfl hSw) ?_; (try simp only [Act.put, zq1, zq2, zq3, zq4, zq5, zq6])) | (refine plan_take rfl hS rfl (fun w' hSw => ex_load3 rfl rfl hSw) ?_; (try simp only [Act.put, zq1, zq2, zq3, zq4, zq5, zq6])) | (refine plan_pure (v := ?_) rfl rfl ?_ ?_; rotate_left; (intro w'; go_simp <;> with_reducible rfl); (try simp only [Act.put, zq1, zq2, zq3, zq4, zq5, zq6])) | (refine plan_take (v := ?_) rfl hS rfl ?_ ?_; rotate_left; (intro w' hSw; (try dsimp only at hSw); go_simp <;> with_reducible rfl); (try simp only [Act.put, zq1, zq2, zq3, zq4, zq5, zq6])))
  refine plan_goS rfl rfl (fun K hK => ?_)
  go_simp; refine (hr _).mono ?_; rintro e w2 ⟨rfl, hF2⟩; replace h0 := h0.fr hF2; refine hK _ _ h0.d ?_; clear hK K hF2; (try simp only [Act.put, zq1, zq2, zq3, zq4, zq5, zq6])
  repeat (first | (refine plan_take rfl hS rfl (fun w' hSw => ex_load61 rfl rfl hSw) ?_; (try simp only [Act.put, zq1, zq2, zq3, zq4, zq5, zq6])) | (refine plan_take rfl hS rfl (fun w' hSw => ex_load9 rfl rfl hSw) ?_; (try simp only [Act.put, zq1, zq2, zq3, zq4, zq5, zq6])) | (refine plan_take rfl hS rfl (fun w' hSw => ex_load3 rfl rfl hSw) ?_; (try simp only [Act.put, zq1, zq2, zq3, zq4, zq5, zq6])) | (refine plan_pure (v := ?_) rfl rfl ?_ ?_; rotate_left; (intro w'; go_simp <;> with_reducible rfl); (try simp only [Act.put, zq1, zq2, zq3, zq4, zq5, zq6])))
  refine plan_go rfl (by kernel_rfl) rfl (fun K hK => ?_)
  obtain ⟨x0, x1, xf0, xf1⟩ := h0.x.c2; have xl := h0.x.lt; go_simp; refine hK _ _ ?_; clear hK K; (try simp only [Act.put, zq1, zq2, zq3, zq4, zq5, zq6])
  repeat (first | (refine plan_take rfl hS rfl (fun w' hSw => ex_load61 rfl rfl hSw) ?_; (try simp only [Act.put, zq1, zq2, zq3, zq4, zq5, zq6])) | (refine plan_take rfl hS rfl (fun w' hSw => ex_load9 rfl rfl hSw) ?_; (try simp only [Act.put, zq1, zq2, zq3, zq4, zq5, zq6])) | (refine plan_take rfl hS rfl (fun w' hSw => ex_load3 rfl rfl hSw) ?_; (try simp only [Act.put, zq1, zq2, zq3, zq4, zq5, zq6])) | (refine plan_pure (v := ?_) rfl rfl ?_ ?_; rotate_left; (intro w'; go_simp <;> with_reducible rfl); (try simp only [Act.put, zq1, zq2, zq3, zq4, zq5, zq6])))
  refine plan_done ?_
  go_wp2_with (fail)
  refine bodyPost_ret (res61_3 rfl rfl ((h0.x.set 0 _).set 1 _) rfl) rfl ?_
  exact ⟨_, _, rfl, h0.put _ _⟩
theorem step12_c : Calls Tryz.prog 99 #[.agg #[.string t, .int .i64 k], .agg #[.int .i64 12, .int .i64 0, .string ⟨#[]⟩, .bool false]] w (StepPost t (k + min (t.size - k) (t.size - k)) w) := by
  have hb := fun w => sBefore_c t k ht (by omega) hk w
  have ha := fun w => sAfter_c t k ht (by omega) hk w
  have esz : (t.extract k t.size).size = t.size - k := by simp
  have hn := fun w => sCount_c (t.extract k t.size) (ht.extract _ _) (by omega) w
  simp only [esz] at hn
  have hr := fun w => sRight_c t k (t.size - k) ht (by omega) hk (by omega) w
  obtain ⟨m, hm⟩ : ∃ m, t.size - k = m := ⟨_, rfl⟩
  simp only [hm, Nat.min_self] at hr hn
  obtain ⟨q, hq⟩ : ∃ q, k + m = q := ⟨_, rfl⟩
  have hqw : IntKind.i64.wrap ((k : Int) + (m : Int)) = (q : Int) := by rw [wrap_in (by omega) (by omega)]; omega
  rw [hm, Nat.min_self, hq]
  obtain ⟨C, hC⟩ : ∃ C, t.extract k t.size = C := ⟨_, rfl⟩
  simp only [hC] at ha hn
  clear hm hq esz hC
  obtain ⟨M, hM⟩ : ∃ M, w.heap.size = M := ⟨_, rfl⟩
  have h0 := StB.new hM t k 12 0
  obtain ⟨w0, hw0⟩ : ∃ w0, ((w.alloc (.cells #[.string t, .int .i64 k] 61)).alloc (.cells #[.int .i64 12, .int .i64 0, .string ⟨#[]⟩, .bool false] 151)).alloc (.cells #[.string ⟨#[]⟩, .int .i64 0] 61) = w0 := ⟨_, rfl⟩
  rw [hw0] at h0
  obtain ⟨d0, d1, df0, df1⟩ := h0.d.c2
  have dl := h0.d.lt
  go_enter Tryz.func99, Tryz.ntmps99
  go_wp2_with (fail)
  refine (hb _).mono ?_
  rintro e w1 ⟨rfl, hF1⟩
  clear d0 d1 df0 df1 dl hw0
  replace h0 := h0.fr hF1
  have e0 := h0.e.cell 0
  have e1 := h0.e.cell 1
  have el := h0.e.lt
  obtain ⟨d0, d1, df0, df1⟩ := h0.d.c2
  have dl := h0.d.lt
  simp only [List.getElem?_toArray, List.getElem?_cons_zero, List.getElem?_cons_succ] at e0 e1
  go_wp2_with (fail)
  clear d0 d1 df0 df1 dl e0 e1 el hb hF1
  replace h0 := h0.fr ((Fr.refl 0 [] [] _).drew)
  have hS : (fun w' : World => Blk w' M #[.string t, .int .i64 k] 61) _ := h0.d
  refine wp_region_plan [1, 3, 4, 5] [6, 7, 8, 11] (fun w' : World => Blk w' M #[.string t, .int .i64 k] 61) (.pure 0 (.take 1 (.pure 2 (.take 3 (.take 4 (.take 5 (.go 6 (.go 7 (.go 8 (.pure 9 (.pure 10 (.go 11 (.pure 12 (.pure 13 .done)))))))))))))) hmix (by kernel_rfl) ?_
  repeat (first | (refine plan_take rfl hS rfl (fun w' hSw => ex_load61 rfl rfl hSw) ?_; (try simp only [Act.put, zq1, zq2, zq3, zq4, zq5, zq6])) | (refine plan_take rfl hS rfl (fun w' hSw => ex_load9 rfl rfl hSw) ?_; (try simp only [Act.put, zq1, zq2, zq3, zq4, zq5, zq6])) | (refine plan_take rfl hS rfl (fun w' hSw => ex_load3 rfl rfl hSw) ?_; (try simp only [Act.put, zq1, zq2, zq3, zq4, zq5, zq6])) | (refine plan_pure (v := ?_) rfl rfl ?_ ?_; rotate_left; (intro w'; go_simp <;> with_reducible rfl); (try simp only [Act.put, zq1, zq2, zq3, zq4, zq5, zq6])) | (refine plan_take (v := ?_) rfl hS rfl ?_ ?_; rotate_left; (intro w' hSw; (try dsimp only at hSw); go_simp <;> with_reducible rfl); (try simp only [Act.put, zq1, zq2, zq3, zq4, zq5, zq6])))
  refine plan_goS rfl rfl (fun K hK => ?_)
  go_simp; refine (ha _).mono ?_; rintro e w2 ⟨rfl, hF2⟩; replace h0 := h0.fr hF2; refine hK _ _ h0.d ?_; clear hK K hF2; (try simp only [Act.put, zq1, zq2, zq3, zq4, zq5, zq6])
  refine plan_goS rfl rfl (fun K hK => ?_)
  go_simp; refine (hn _).mono ?_; rintro e w2 ⟨rfl, hF2⟩; replace h0 := h0.fr hF2; refine hK _ _ h0.d ?_; clear hK K hF2; (try simp only [Act.put, zq1, zq2, zq3, zq4, zq5, zq6])
  refine plan_goS rfl rfl (fun K hK => ?_)
  go_simp; refine (hr _).mono ?_; rintro e w2 ⟨rfl, hF2⟩; replace h0 := h0.fr hF2; refine hK _ _ h0.d ?_; clear hK K hF2; (try simp only [Act.put, zq1, zq2, zq3, zq4, zq5, zq6])
  repeat (first | (refine plan_take rfl hS rfl (fun w' hSw => ex_load61 rfl rfl hSw) ?_; (try simp only [Act.put, zq1, zq2, zq3, zq4, zq5, zq6])) | (refine plan_take rfl hS rfl (fun w' hSw => ex_load9 rfl rfl hSw) ?_; (try simp only [Act.put, zq1, zq2, zq3, zq4, zq5, zq6])) | (refine plan_take rfl hS rfl (fun w' hSw => ex_load3 rfl rfl hSw) ?_; (try simp only [Act.put, zq1, zq2, zq3, zq4, zq5, zq6])) | (refine plan_pure (v := ?_) rfl rfl ?_ ?_; rotate_left; (intro w'; go_simp <;> with_reducible rfl); (try simp only [Act.put, zq1, zq2, zq3, zq4, zq5, zq6])))
  refine plan_go rfl (by kernel_rfl) rfl (fun K hK => ?_)
  obtain ⟨x0, x1, xf0, xf1⟩ := h0.x.c2; have xl := h0.x.lt; go_simp; refine hK _ _ ?_; clear hK K; (try simp only [Act.put, zq1, zq2, zq3, zq4, zq5, zq6])
  repeat (first | (refine plan_take rfl hS rfl (fun w' hSw => ex_load61 rfl rfl hSw) ?_; (try simp only [Act.put, zq1, zq2, zq3, zq4, zq5, zq6])) | (refine plan_take rfl hS rfl (fun w' hSw => ex_load9 rfl rfl hSw) ?_; (try simp only [Act.put, zq1, zq2, zq3, zq4, zq5, zq6])) | (refine plan_take rfl hS rfl (fun w' hSw => ex_load3 rfl rfl hSw) ?_; (try simp only [Act.put, zq1, zq2, zq3, zq4, zq5, zq6])) | (refine plan_pure (v := ?_) rfl rfl ?_ ?_; rotate_left; (intro w'; go_simp <;> with_reducible rfl); (try simp only [Act.put, zq1, zq2, zq3, zq4, zq5, zq6])))
  refine plan_done ?_
  go_wp2_with (fail)
  refine bodyPost_ret (res61_3 rfl rfl ((h0.x.set 0 _).set 1 _) rfl) rfl ?_
  exact ⟨_, _, rfl, h0.put _ _⟩
theorem step13_c : Calls Tryz.prog 99 #[.agg #[.string t, .int .i64 k], .agg #[.int .i64 13, .int .i64 0, .string ⟨#[]⟩, .bool false]] w (StepPost t (k - min k k) w) := by
  have hb := fun w => sBefore_c t k ht (by omega) hk w
  have esz : (t.extract 0 k).size = k := by simp; omega
  have hn := fun w => sCount_c (t.extract 0 k) (ht.extract _ _) (by omega) w
  simp only [esz] at hn
  have hr := fun w => sLeft_c t k k ht (by omega) hk (by omega) w
  simp only [Nat.min_self] at hr
  have hqw : IntKind.i64.wrap ((k : Int) + -(k : Int)) = ((0 : Nat) : Int) := by rw [wrap_in (by omega) (by omega)]; omega
  rw [Nat.min_self, Nat.sub_self]
  obtain ⟨C, hC⟩ : ∃ C, t.extract 0 k = C := ⟨_, rfl⟩
  simp only [hC] at hb hn
  clear esz hC
  obtain ⟨M, hM⟩ : ∃ M, w.heap.size = M := ⟨_, rfl⟩
  have h0 := StB.new hM t k 13 0
  obtain ⟨w0, hw0⟩ : ∃ w0, ((w.alloc (.cells #[.string t, .int .i64 k] 61)).alloc (.cells #[.int .i64 13, .int .i64 0, .string ⟨#[]⟩, .bool false] 151)).alloc (.cells #[.string ⟨#[]⟩, .int .i64 0] 61) = w0 := ⟨_, rfl⟩
  rw [hw0] at h0
  obtain ⟨d0, d1, df0, df1⟩ := h0.d.c2
  have dl := h0.d.lt
  go_enter Tryz.func99, Tryz.ntmps99
  go_wp2_with (fail)
  refine (hb _).mono ?_
  rintro e w1 ⟨rfl, hF1⟩
  clear d0 d1 df0 df1 dl hw0
  replace h0 := h0.fr hF1
  have e0 := h0.e.cell 0
  have e1 := h0.e.cell 1
  have el := h0.e.lt
  obtain ⟨d0, d1, df0, df1⟩ := h0.d.c2
  have dl := h0.d.lt
  simp only [List.getElem?_toArray, List.getElem?_cons_zero, List.getElem?_cons_succ] at e0 e1
  go_wp2_with (fail)
  clear d0 d1 df0 df1 dl e0 e1 el hb hF1
  replace h0 := h0.fr ((Fr.refl 0 [] [] _).drew)
  have hS : (fun w' : World => Blk w' M #[.string t, .int .i64 k] 61) _ := h0.d
  refine wp_region_plan [1, 3, 4] [6, 7, 10] (fun w' : World => Blk w' M #[.string t, .int .i64 k] 61) (.pure 0 (.take 1 (.pure 2 (.take 3 (.take 4 (.pure 5 (.go 6 (.go 7 (.pure 8 (.pure 9 (.go 10 (.pure 11 (.pure 12 .done))))))))))))) hmix (by kernel_rfl) ?_
  repeat (first | (refine plan_move rfl rfl rfl ?_; (try simp only [Act.put, zq1, zq2, zq3, zq4, zq5, zq6])) | (refine plan_take rfl hS rfl (fun w' hSw => ex_load61 rfl rfl hSw) ?_; (try simp only [Act.put, zq1, zq2, zq3, zq4, zq5, zq6])) | (refine plan_take rfl hS rfl (fun w' hSw => ex_load9 rfl rfl hSw) ?_; (try simp only [Act.put, zq1, zq2, zq3, zq4, zq5, zq6])) | (refine plan_take rfl hS rfl (fun w' hSw => ex_load3 rfl rfl hSw) ?_; (try simp only [Act.put, zq1, zq2, zq3, zq4, zq5, zq6])) | (refine plan_pure (v := ?_) rfl rfl ?_ ?_; rotate_left; (intro w'; go_simp <;> with_reducible rfl); (try simp only [Act.put, zq1, zq2, zq3, zq4, zq5, zq6])) | (refine plan_take (v := ?_) rfl hS rfl ?_ ?_; rotate_left; (intro w' hSw; (try dsimp only at hSw); go_simp <;> with_reducible rfl); (try simp only [Act.put, zq1, zq2, zq3, zq4, zq5, zq6])))
  refine plan_goS rfl rfl (fun K hK => ?_)
  go_simp; refine (hn _).mono ?_; rintro e w2 ⟨rfl, hF2⟩; replace h0 := h0.fr hF2; refine hK _ _ h0.d ?_; clear hK K hF2; (try simp only [Act.put, zq1, zq2, zq3, zq4, zq5, zq6])
  refine plan_goS rfl rfl (fun K hK => ?_)
  go_simp; refine (hr _).mono ?_; rintro e w2 ⟨rfl, hF2⟩; replace h0 := h0.fr hF2; refine hK _ _ h0.d ?_; clear hK K hF2; (try simp only [Act.put, zq1, zq2, zq3, zq4, zq5, zq6])
  repeat (first | (refine plan_take rfl hS rfl (fun w' hSw => ex_load61 rfl rfl hSw) ?_; (try simp only [Act.put, zq1, zq2, zq3, zq4, zq5, zq6])) | (refine plan_take rfl hS rfl (fun w' hSw => ex_load9 rfl rfl hSw) ?_; (try simp only [Act.put, zq1, zq2, zq3, zq4, zq5, zq6])) | (refine plan_take rfl hS rfl (fun w' hSw => ex_load3 rfl rfl hSw) ?_; (try simp only [Act.put, zq1, zq2, zq3, zq4, zq5, zq6])) | (refine plan_pure (v := ?_) rfl rfl ?_ ?_; rotate_left; (intro w'; go_simp <;> with_reducible rfl); (try simp only [Act.put, zq1, zq2, zq3, zq4, zq5, zq6])))
  refine plan_go rfl (by kernel_rfl) rfl (fun K hK => ?_)
  obtain ⟨x0, x1, xf0, xf1⟩ := h0.x.c2; have xl := h0.x.lt; go_simp; refine hK _ _ ?_; clear hK K; (try simp only [Act.put, zq1, zq2, zq3, zq4, zq5, zq6])
  repeat (first | (refine plan_take rfl hS rfl (fun w' hSw => ex_load61 rfl rfl hSw) ?_; (try simp only [Act.put, zq1, zq2, zq3, zq4, zq5, zq6])) | (refine plan_take rfl hS rfl (fun w' hSw => ex_load9 rfl rfl hSw) ?_; (try simp only [Act.put, zq1, zq2, zq3, zq4, zq5, zq6])) | (refine plan_take rfl hS rfl (fun w' hSw => ex_load3 rfl rfl hSw) ?_; (try simp only [Act.put, zq1, zq2, zq3, zq4, zq5, zq6])) | (refine plan_pure (v := ?_) rfl rfl ?_ ?_; rotate_left; (intro w'; go_simp <;> with_reducible rfl); (try simp only [Act.put, zq1, zq2, zq3, zq4, zq5, zq6])))
  refine plan_done ?_
  go_wp2_with (fail)
  refine bodyPost_ret (res61_3 rfl rfl ((h0.x.set 0 _).set 1 _) rfl) rfl ?_
  exact ⟨_, _, rfl, h0.put _ _⟩
theorem step15_c : Calls Tryz.prog 99 #[.agg #[.string t, .int .i64 k], .agg #[.int .i64 15, .int .i64 0, .string ⟨#[]⟩, .bool false]] w (StepPost (t.extract 0 (k - (k - spaceAt t k)) ++ t.extract k t.size) (k - (k - spaceAt t k)) w) := by
  have hb := fun w => sBefore_c t k ht (by omega) hk w
  have esz : (t.extract 0 k).size = k := by simp; omega
  have hl9 := spaceAt_le t k hk
  have hst := fun w => start_c (t.extract 0 k) (by omega) w
  simp only [startOf_at] at hst
  obtain ⟨a, ha⟩ : ∃ a, spaceAt t k = a := ⟨_, rfl⟩
  rw [ha] at hl9 ⊢
  simp only [ha] at hst
  obtain ⟨n, hn⟩ : ∃ n, k - a = n := ⟨_, rfl⟩
  have hnk : n ≤ k := by omega
  have hc := fun w => sBeforeCut_c t k n ht (by omega) hk (by omega) w
  have hmin : min n k = n := by omega
  simp only [hmin] at hc
  have hnw : IntKind.i64.wrap ((k : Int) - (a : Int)) = (n : Int) := by rw [wrap_in (by omega) (by omega)]; omega
  rw [hn]
  obtain ⟨q, hq⟩ : ∃ q, k - n = q := ⟨_, rfl⟩
  simp only [hq] at hc ⊢
  obtain ⟨T, hT⟩ : ∃ T, t.extract 0 q ++ t.extract k t.size = T := ⟨_, rfl⟩
  simp only [hT] at hc ⊢
  obtain ⟨C, hC⟩ : ∃ C, t.extract 0 k = C := ⟨_, rfl⟩
  rw [hC] at esz
  simp only [hC] at hb hst
  clear hT hq hC hn ha hmin
  obtain ⟨M, hM⟩ : ∃ M, w.heap.size = M := ⟨_, rfl⟩
  have h0 := StB.new hM t k 15 0
  obtain ⟨w0, hw0⟩ : ∃ w0, ((w.alloc (.cells #[.string t, .int .i64 k] 61)).alloc (.cells #[.int .i64 15, .int .i64 0, .string ⟨#[]⟩, .bool false] 151)).alloc (.cells #[.string ⟨#[]⟩, .int .i64 0] 61) = w0 := ⟨_, rfl⟩
  rw [hw0] at h0
  obtain ⟨d0, d1, df0, df1⟩ := h0.d.c2
  have dl := h0.d.lt
  go_enter Tryz.func99, Tryz.ntmps99
  go_wp2_with (fail)
  refine (hb _).mono ?_
  rintro e w1 ⟨rfl, hF1⟩
  clear d0 d1 df0 df1 dl hw0
  replace h0 := h0.fr hF1
  have e0 := h0.e.cell 0
  have e1 := h0.e.cell 1
  have el := h0.e.lt
  obtain ⟨d0, d1, df0, df1⟩ := h0.d.c2
  have dl := h0.d.lt
  simp only [List.getElem?_toArray, List.getElem?_cons_zero, List.getElem?_cons_succ] at e0 e1
  go_wp2_with (fail)
  clear d0 d1 df0 df1 dl e0 e1 el hb hF1
  replace h0 := h0.fr ((Fr.refl 0 [] [] _).drew)
  have hS : (fun w' : World => Blk w' M #[.string t, .int .i64 k] 61) _ := h0.d
  refine wp_region_plan [0] [4, 6, 10] (fun w' : World => Blk w' M #[.string t, .int .i64 k] 61) (.take 0 (.pure 1 (.pure 2 (.pure 3 (.go 4 (.pure 5 (.go 6 (.pure 7 (.pure 8 (.pure 9 (.go 10 (.pure 11 (.pure 12 .done))))))))))))) hmix (by kernel_rfl) ?_
  repeat (first | (refine plan_move rfl rfl rfl ?_; (try simp only [Act.put, zq1, zq2, zq3, zq4, zq5, zq6])) | (refine plan_take rfl hS rfl (fun w' hSw => ex_load61 rfl rfl hSw) ?_; (try simp only [Act.put, zq1, zq2, zq3, zq4, zq5, zq6])) | (refine plan_take rfl hS rfl (fun w' hSw => ex_load9 rfl rfl hSw) ?_; (try simp only [Act.put, zq1, zq2, zq3, zq4, zq5, zq6])) | (refine plan_take rfl hS rfl (fun w' hSw => ex_load3 rfl rfl hSw) ?_; (try simp only [Act.put, zq1, zq2, zq3, zq4, zq5, zq6])) | (refine plan_pure (v := ?_) rfl rfl ?_ ?_; rotate_left; (intro w'; go_simp <;> with_reducible rfl); (try simp only [Act.put, zq1, zq2, zq3, zq4, zq5, zq6])) | (refine plan_take (v := ?_) rfl hS rfl ?_ ?_; rotate_left; (intro w' hSw; (try dsimp only at hSw); go_simp <;> with_reducible rfl); (try simp only [Act.put, zq1, zq2, zq3, zq4, zq5, zq6])))
  refine plan_goS rfl rfl (fun K hK => ?_)
  go_simp; refine (hst _).mono ?_; rintro e w2 ⟨rfl, hF2⟩; replace h0 := h0.fr hF2; refine hK _ _ h0.d ?_; clear hK K hF2; (try simp only [Act.put, zq1, zq2, zq3, zq4, zq5, zq6])
  first | (refine plan_take rfl hS rfl (fun w' hSw => ex_load61 rfl rfl hSw) ?_; (try simp only [Act.put, zq1, zq2, zq3, zq4, zq5, zq6])) | (refine plan_take rfl hS rfl (fun w' hSw => ex_load9 rfl rfl hSw) ?_; (try simp only [Act.put, zq1, zq2, zq3, zq4, zq5, zq6])) | (refine plan_take rfl hS rfl (fun w' hSw => ex_load3 rfl rfl hSw) ?_; (try simp only [Act.put, zq1, zq2, zq3, zq4, zq5, zq6])) | (refine plan_pure (v := ?_) rfl rfl ?_ ?_; rotate_left; (intro w'; go_simp <;> with_reducible rfl); (try simp only [Act.put, zq1, zq2, zq3, zq4, zq5, zq6]))
  refine plan_go rfl (by kernel_rfl) rfl (fun K hK => ?_)
  go_simp; refine (hc _).mono ?_; rintro e w2 ⟨x, b, rfl, hF2⟩; replace h0 := h0.fr hF2; refine hK _ _ ?_; clear hK K hF2; (try simp only [Act.put, zq1, zq2, zq3, zq4, zq5, zq6])
  repeat (first | (refine plan_take rfl hS rfl (fun w' hSw => ex_load61 rfl rfl hSw) ?_; (try simp only [Act.put, zq1, zq2, zq3, zq4, zq5, zq6])) | (refine plan_take rfl hS rfl (fun w' hSw => ex_load9 rfl rfl hSw) ?_; (try simp only [Act.put, zq1, zq2, zq3, zq4, zq5, zq6])) | (refine plan_take rfl hS rfl (fun w' hSw => ex_load3 rfl rfl hSw) ?_; (try simp only [Act.put, zq1, zq2, zq3, zq4, zq5, zq6])) | (refine plan_pure (v := ?_) rfl rfl ?_ ?_; rotate_left; (intro w'; go_simp <;> with_reducible rfl); (try simp only [Act.put, zq1, zq2, zq3, zq4, zq5, zq6])))
  refine plan_go rfl (by kernel_rfl) rfl (fun K hK => ?_)
  obtain ⟨x0, x1, xf0, xf1⟩ := h0.x.c2; have xl := h0.x.lt; go_simp; refine hK _ _ ?_; clear hK K; (try simp only [Act.put, zq1, zq2, zq3, zq4, zq5, zq6])
  repeat (first | (refine plan_take rfl hS rfl (fun w' hSw => ex_load61 rfl rfl hSw) ?_; (try simp only [Act.put, zq1, zq2, zq3, zq4, zq5, zq6])) | (refine plan_take rfl hS rfl (fun w' hSw => ex_load9 rfl rfl hSw) ?_; (try simp only [Act.put, zq1, zq2, zq3, zq4, zq5, zq6])) | (refine plan_take rfl hS rfl (fun w' hSw => ex_load3 rfl rfl hSw) ?_; (try simp only [Act.put, zq1, zq2, zq3, zq4, zq5, zq6])) | (refine plan_pure (v := ?_) rfl rfl ?_ ?_; rotate_left; (intro w'; go_simp <;> with_reducible rfl); (try simp only [Act.put, zq1, zq2, zq3, zq4, zq5, zq6])))
  refine plan_done ?_
  go_wp2_with (fail)
  refine bodyPost_ret (res61_3 rfl rfl ((h0.x.set 0 _).set 1 _) rfl) rfl ?_
  exact ⟨_, _, rfl, h0.put _ _⟩
end
end Go.Proofs.YtiepopbmbgfhkaaGreat
