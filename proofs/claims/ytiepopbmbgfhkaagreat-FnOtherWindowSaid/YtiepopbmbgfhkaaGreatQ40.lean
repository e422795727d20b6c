/-
  The set's documents: what is cut out, what is put in.
  The set's documents: a text is put in.
  The set's documents: what is taken out ahead of the cursor, or behind it.
-/
import Derived.Test.YtiepopbmbgfhkaaGreatQ39
import Derived.Test.YtiepopbmbgfhkaaGreatQ10
import Derived.Test.YtiepopbmbgfhkaaGreatQ16
namespace Go.Proofs.YtiepopbmbgfhkaaGreat
open Go.RowKit
open List renaming setIfInBounds_toArray → zq1, set_cons_zero → zq2, set_cons_succ → zq3
open Int renaming toNat_natCast → zq4, toNat_sub → zq5, toNat_zero → zq6
set_option maxHeartbeats 4000000
set_option maxRecDepth 20000
set_option linter.unusedVariables false
set_option linter.unusedSimpArgs false

section
variable {fn : Func} {tmps : Array Value} {w : World} {M p u v : Nat} {cs : Array Value}
theorem res61 (h : fn.results = #[.cell p 61]) (hp : tmps.getD p undef = .pointer (some ⟨M, 0, none⟩)) (hB : Blk w M cs 61) (hs : cs.size = 2) :
    (results fn tmps).run Tryz.prog w = .ok (.agg cs) w := by
  have hr := run_loadVar_row (P := Tryz.prog) w M 61 61 cs (0, 0) _ hB Tryz.underlying61 rfl (by rw [hs]; kernel_rfl)
  simp only [results, h]
  have hp' : tmps[p]?.getD undef = .pointer (some ⟨M, 0, none⟩) := by simpa [Array.getD_eq_getD_getElem?] using hp
  simp [Sem.run_bind, Result.andThen, hp', asAddr, hr]
theorem res61_2 (h : fn.results = #[.cell p 61, .tmp u]) (hp : tmps.getD p undef = .pointer (some ⟨M, 0, none⟩)) (hB : Blk w M cs 61) (hs : cs.size = 2) :
    (results fn tmps).run Tryz.prog w = .ok (.tuple #[.agg cs, tmps.getD u undef]) w := by
  have hr := run_loadVar_row (P := Tryz.prog) w M 61 61 cs (0, 0) _ hB Tryz.underlying61 rfl (by rw [hs]; kernel_rfl)
  simp only [results, h]
  have hp' : tmps[p]?.getD undef = .pointer (some ⟨M, 0, none⟩) := by simpa [Array.getD_eq_getD_getElem?] using hp
  simp [Sem.run_bind, Result.andThen, hp', asAddr, hr]
theorem res61_3 (h : fn.results = #[.cell p 61, .tmp u, .tmp v]) (hp : tmps.getD p undef = .pointer (some ⟨M, 0, none⟩)) (hB : Blk w M cs 61) (hs : cs.size = 2) :
    (results fn tmps).run Tryz.prog w = .ok (.tuple #[.agg cs, tmps.getD u undef, tmps.getD v undef]) w := by
  have hr := run_loadVar_row (P := Tryz.prog) w M 61 61 cs (0, 0) _ hB Tryz.underlying61 rfl (by rw [hs]; kernel_rfl)
  simp only [results, h]
  have hp' : tmps[p]?.getD undef = .pointer (some ⟨M, 0, none⟩) := by simpa [Array.getD_eq_getD_getElem?] using hp
  simp [Sem.run_bind, Result.andThen, hp', asAddr, hr]
end

theorem ex_load61 {o : Oper} {a : Act} {w : World} {M : Nat} {x : Operand} {t : ByteArray} {k : Int} (ho : o.op = .load 61 x) (hx : a.eval x = .pointer (some ⟨M, 0, none⟩)) (h : Blk w M #[.string t, .int .i64 k] 61) :
    (execOp a.eval o).run Tryz.prog w = .ok (.value (.agg #[.string t, .int .i64 k])) w := by
  obtain ⟨c0, c1, -, -⟩ := h.c2
  have cl := h.lt
  unfold execOp
  simp only [ho, hx]
  go_simp

theorem ex_load3 {o : Oper} {a : Act} {w : World} {M : Nat} {x : Operand} {t : ByteArray} {k : Int} (ho : o.op = .load 3 x) (hx : a.eval x = .pointer (some ⟨M, 1, none⟩)) (h : Blk w M #[.string t, .int .i64 k] 61) :
    (execOp a.eval o).run Tryz.prog w = .ok (.value (.int .i64 k)) w := by
  obtain ⟨c0, c1, -, -⟩ := h.c2
  have cl := h.lt
  unfold execOp
  simp only [ho, hx]
  go_simp
theorem ex_load9 {o : Oper} {a : Act} {w : World} {M : Nat} {x : Operand} {t : ByteArray} {k : Int} (ho : o.op = .load 9 x) (hx : a.eval x = .pointer (some ⟨M, 0, none⟩)) (h : Blk w M #[.string t, .int .i64 k] 61) :
    (execOp a.eval o).run Tryz.prog w = .ok (.value (.string t)) w := by
  obtain ⟨c0, c1, -, -⟩ := h.c2
  have cl := h.lt
  unfold execOp
  simp only [ho, hx]
  go_simp

theorem cut_c (t : ByteArray) (k : Int) (i n : Nat) (ht : Prn t) (hs : t.size ≤ 1000000) (hin : i + n ≤ t.size) (w : World) :
    Calls Tryz.prog 95 #[.agg #[.string t, .int .i64 k], .int .i64 i, .int .i64 n] w fun e w' => e = .returned (.tuple #[.agg #[.string (t.extract 0 i ++ t.extract (i + n) t.size), .int .i64 i], .string (t.extract i (i + n))]) ∧ Fr 0 [] [] w w' := by
  have ha := ht.asc
  have hs' : t.size ≤ 70368744177664 := by omega
  have e1 : (t.extract 0 i).size = i := by simp; omega
  have e2 : (t.extract (i + n) t.size).size = t.size - (i + n) := by simp
  obtain ⟨M, hM⟩ : ∃ M, w.heap.size = M := ⟨_, rfl⟩
  have hB0 : Blk ((w.alloc (.cells #[.string t, .int .i64 k] 61)).alloc (.cells #[.string ⟨#[]⟩, .int .i64 0] 61)) M #[.string t, .int .i64 k] 61 := (Blk.new' hM.symm _ _).alloc _
  have hX0 : Blk ((w.alloc (.cells #[.string t, .int .i64 k] 61)).alloc (.cells #[.string ⟨#[]⟩, .int .i64 0] 61)) (M + 1) #[.string ⟨#[]⟩, .int .i64 0] 61 := Blk.new' (by simp [hM]) _ _
  have hF0 : Fr 0 [] [] w ((w.alloc (.cells #[.string t, .int .i64 k] 61)).alloc (.cells #[.string ⟨#[]⟩, .int .i64 0] 61)) := ((Fr.refl 0 [] [] w).alloc _).alloc _
  obtain ⟨m, hm⟩ : ∃ m, i + n = m := ⟨_, rfl⟩
  have hm2 : (i : Int) + (n : Int) = (m : Int) := by omega
  rw [hm] at hin e2 ⊢
  have hwm : IntKind.i64.wrap (m : Int) = m := wrap_in (by omega) (by omega)
  go_enter Tryz.func95, Tryz.ntmps95
  go_wp2_with (first | (refine wpList_plain rfl (fun K hK => ?_); refine wp_runes _ _ rfl rfl ha hs' ?_; intro rb rc w1 hcap hB hF; refine hK _ _ ?_; clear hK K; have hB1 := hF.blk0 hB0; have hX1 := hF.blk0 hX0; obtain ⟨g0, g1, gf0, gf1⟩ := hX1.c2; have glt := hX1.lt) | (refine wpList_plain rfl (fun K hK => ?_); refine wp_runesMid _ _ _ _ _ _ _ _ rfl rfl rfl rfl ?_ ?_ ?_ ?_; omega; omega; omega; refine hK _ _ ?_; clear hK K) | (refine wpList_plain rfl (fun K hK => ?_); refine wp_textOf _ _ _ _ _ _ rfl rfl hB ha ?_ ?_ hcap ?_; omega; omega; refine hK _ _ ?_; clear hK K))
  have hS : (fun w' : World => Blk w' rb (runeRow t rc) 21) w1.drew := hB.drew
  refine wp_region_plan [3, 9] [14] (fun w' : World => Blk w' rb (runeRow t rc) 21) (.pure 0 (.pure 1 (.pure 2 (.take 3 (.pure 4 (.pure 5 (.pure 6 (.pure 7 (.pure 8 (.take 9 (.pure 10 (.pure 11 (.pure 12 (.pure 13 (.go 14 (.pure 15 .done)))))))))))))))) hmix (by kernel_rfl) ?_
  repeat (first | (refine plan_move rfl rfl rfl ?_; (try simp only [Act.put, zq1, zq2, zq3, zq4, zq5, zq6])) | (refine plan_pure rfl rfl (fun w' => ex_runesTo rfl rfl rfl ?_ ?_) ?_; omega; omega; (try simp only [Act.put, zq1, zq2, zq3, zq4, zq5, zq6])) | (refine plan_pure rfl rfl (fun w' => ex_runesFrom rfl rfl rfl ?_ ?_) ?_; omega; omega; (try simp only [Act.put, zq1, zq2, zq3, zq4, zq5, zq6])) | (refine plan_take rfl hS rfl (fun w' hSw => ex_textOf rfl rfl hSw ha ?_ ?_ hcap) ?_; omega; omega; (try simp only [Act.put, zq1, zq2, zq3, zq4, zq5, zq6])) | (refine plan_pure rfl rfl (fun w' => ex_add rfl rfl rfl ?_) ?_; ((try simp only [ByteArray.size_append, Int.toNat_natCast]) <;> omega); (try simp only [Act.put, zq1, zq2, zq3, zq4, zq5, zq6])) | (refine plan_pure (v := ?_) rfl rfl ?_ ?_; rotate_left; (intro w'; go_simp <;> with_reducible rfl); (try simp only [Act.put, zq1, zq2, zq3, zq4, zq5, zq6])) | (refine plan_take (v := ?_) rfl hS rfl ?_ ?_; rotate_left; (intro w' hSw; (try dsimp only at hSw); go_simp <;> with_reducible rfl); (try simp only [Act.put, zq1, zq2, zq3, zq4, zq5, zq6])))
  refine plan_go rfl (by kernel_rfl) rfl (fun K hK => ?_)
  go_simp; refine hK _ _ ?_; clear hK K; (try simp only [Act.put, zq1, zq2, zq3, zq4, zq5, zq6])
  first | (refine plan_pure rfl rfl (fun w' => ex_runesTo rfl rfl rfl ?_ ?_) ?_; omega; omega; (try simp only [Act.put, zq1, zq2, zq3, zq4, zq5, zq6])) | (refine plan_pure rfl rfl (fun w' => ex_runesFrom rfl rfl rfl ?_ ?_) ?_; omega; omega; (try simp only [Act.put, zq1, zq2, zq3, zq4, zq5, zq6])) | (refine plan_take rfl hS rfl (fun w' hSw => ex_textOf rfl rfl hSw ha ?_ ?_ hcap) ?_; omega; omega; (try simp only [Act.put, zq1, zq2, zq3, zq4, zq5, zq6])) | (refine plan_pure rfl rfl (fun w' => ex_add rfl rfl rfl ?_) ?_; ((try simp only [ByteArray.size_append, Int.toNat_natCast]) <;> omega); (try simp only [Act.put, zq1, zq2, zq3, zq4, zq5, zq6])) | (refine plan_pure (v := ?_) rfl rfl ?_ ?_; rotate_left; (intro w'; go_simp <;> with_reducible rfl); (try simp only [Act.put, zq1, zq2, zq3, zq4, zq5, zq6]))
  refine plan_done ?_
  go_wp2_with (fail)
  have hX2 := (((hX1.set 0 (.string (t.extract 0 i ++ t.extract m t.size))).set 1 (.int .i64 i)).drew)
  refine bodyPost_ret (res61_2 rfl rfl hX2 rfl) rfl ?_
  exact ⟨rfl, ((((hF0.trans hF).setCell (a := ⟨M + 1, 0, none⟩) (Nat.zero_le _) (.inr (.inl (by show _ ≤ M + 1; omega))) _).setCell (a := ⟨M + 1, 1, none⟩) (Nat.zero_le _) (.inr (.inl (by show _ ≤ M + 1; omega))) _).drew)⟩
end Go.Proofs.YtiepopbmbgfhkaaGreat

namespace Go.Proofs.YtiepopbmbgfhkaaGreat
open Go.RowKit
open List renaming setIfInBounds_toArray → zq1, set_cons_zero → zq2, set_cons_succ → zq3
open Int renaming toNat_natCast → zq4, toNat_sub → zq5, toNat_zero → zq6
set_option maxHeartbeats 4000000
set_option maxRecDepth 20000
set_option linter.unusedVariables false
set_option linter.unusedSimpArgs false

theorem inserted_c (t v : ByteArray) (k : Nat) (ht : Prn t) (hv : Prn v) (hs : t.size ≤ 1000000) (hvs : v.size ≤ 1000000) (hk : k ≤ t.size) (w : World) :
    Calls Tryz.prog 96 #[.agg #[.string t, .int .i64 k], .string v, .bool false, .bool true] w fun e w' => e = .returned (.agg #[.string (putT t k v), .int .i64 (k + v.size : Nat)]) ∧ Fr 0 [] [] w w' := by
  have e1 : (t.extract 0 k).size = k := by simp; omega
  have e2 : (t.extract k t.size).size = t.size - k := by simp
  have hb := fun w => sBefore_c t k ht hs hk w
  have hc := fun w => sAfter_c t k ht hs hk w
  have hn := fun w => sCount_c v hv hvs w
  have hpa := (ht.extract k t.size).asc
  have hput : putT t k v = t.extract 0 k ++ v ++ t.extract k t.size := rfl
  obtain ⟨A, hA⟩ : ∃ A, t.extract 0 k = A := ⟨_, rfl⟩
  obtain ⟨B, hB⟩ : ∃ B, t.extract k t.size = B := ⟨_, rfl⟩
  rw [hA, hB] at hput
  rw [hput]
  rw [hA] at e1
  rw [hB] at e2 hpa
  simp only [hA] at hb
  simp only [hB] at hc
  have hbs : B.size ≤ 70368744177664 := by omega
  obtain ⟨q, hq⟩ : ∃ q, k + v.size = q := ⟨_, rfl⟩
  have hkv : IntKind.i64.wrap ((k : Int) + (v.size : Int)) = (q : Int) := by rw [wrap_in (by omega) (by omega)]; omega
  rw [hq]
  obtain ⟨M, hM⟩ : ∃ M, w.heap.size = M := ⟨_, rfl⟩
  obtain ⟨w0, hw0⟩ : ∃ w0, (w.alloc (.cells #[.string t, .int .i64 k] 61)).alloc (.cells #[.string ⟨#[]⟩, .int .i64 0] 61) = w0 := ⟨_, rfl⟩
  have hD0 : Blk w0 M #[.string t, .int .i64 k] 61 := by rw [← hw0]; exact (Blk.new' hM.symm _ _).alloc _
  have hX0 : Blk w0 (M + 1) #[.string ⟨#[]⟩, .int .i64 0] 61 := by rw [← hw0]; exact Blk.new' (by simp [hM]) _ _
  have hF0 : Fr 0 [] [] w w0 := by rw [← hw0]; exact ((Fr.refl 0 [] [] w).alloc _).alloc _
  clear hA hB hput
  replace e1 : A.size ≤ 1000000 := by omega
  replace e2 : B.size ≤ 1000000 := by omega
  go_enter Tryz.func96, Tryz.ntmps96
  go_wp2_with (fail)
  clear hw0
  have hS : (fun w' : World => Blk w' M #[.string t, .int .i64 k] 61) w0.drew := hD0.drew
  refine wp_region_plan [0, 2] [1, 3, 4] (fun w' : World => Blk w' M #[.string t, .int .i64 k] 61) (.take 0 (.take 2 (.go 1 (.go 3 (.pure 5 (.go 4 (.pure 6 .done))))))) hmix (by kernel_rfl) ?_
  repeat (first | (refine plan_take rfl hS rfl (fun w' hSw => ex_load61 rfl rfl hSw) ?_; (try simp only [Act.put, zq1, zq2, zq3, zq4, zq5, zq6])) | (refine plan_take (v := ?_) rfl hS rfl ?_ ?_; rotate_left; (intro w' hSw; (try dsimp only at hSw); go_simp <;> with_reducible rfl); (try simp only [Act.put, zq1, zq2, zq3, zq4, zq5, zq6])))
  refine plan_goS rfl rfl (fun K hK => ?_)
  go_simp; refine (hb _).mono ?_; rintro e w1 ⟨rfl, hF1⟩; have hD1 := hF1.blk0 hD0.drew; have hX1 := hF1.blk0 hX0.drew; have hF01 := hF0.drew.trans hF1; refine hK _ _ hD1 ?_; clear hK K; (try simp only [Act.put, zq1, zq2, zq3, zq4, zq5, zq6])
  refine plan_go rfl (by kernel_rfl) rfl (fun K hK => ?_)
  go_simp; refine (hc _).mono ?_; rintro e w2 ⟨rfl, hF2⟩; have hD2 := hF2.blk0 hD1; have hX2 := hF2.blk0 hX1; have hF02 := hF01.trans hF2; refine hK _ _ ?_; clear hK K; (try simp only [Act.put, zq1, zq2, zq3, zq4, zq5, zq6])
  first | (refine plan_take rfl hS rfl (fun w' hSw => ex_load61 rfl rfl hSw) ?_; (try simp only [Act.put, zq1, zq2, zq3, zq4, zq5, zq6])) | (refine plan_pure (v := ?_) rfl rfl ?_ ?_; rotate_left; (intro w'; go_simp <;> with_reducible rfl); (try simp only [Act.put, zq1, zq2, zq3, zq4, zq5, zq6]))
  refine plan_go rfl (by kernel_rfl) rfl (fun K hK => ?_)
  refine wp_runes _ _ rfl rfl hpa hbs ?_; intro rb rc w3 hcap hR3 hF3; have hD3 := hF3.blk0 hD2; have hX3 := hF3.blk0 hX2; have hF03 := hF02.trans hF3; refine hK _ _ ?_; clear hK K; (try simp only [Act.put, zq1, zq2, zq3, zq4, zq5, zq6])
  first | (refine plan_take rfl hS rfl (fun w' hSw => ex_load61 rfl rfl hSw) ?_; (try simp only [Act.put, zq1, zq2, zq3, zq4, zq5, zq6])) | (refine plan_pure (v := ?_) rfl rfl ?_ ?_; rotate_left; (intro w'; go_simp <;> with_reducible rfl); (try simp only [Act.put, zq1, zq2, zq3, zq4, zq5, zq6]))
  refine plan_done ?_
  clear hb hc hF0 hF01 hF02 hF1 hF2 hF3 hD0 hD1 hD2 hX0 hX1 hX2 hS
  go_wp2_with (fail)
  go_loopw [11] (fun v11 w' => v11 = .int .i64 0 ∧ w' = w3) (fun _ _ => 0)
  case atStart => exact ⟨rfl, rfl⟩
  obtain ⟨rfl, rfl⟩ := hrel
  go_wp2_with (fail)
  obtain ⟨Y, hY⟩ : ∃ Y, wr.heap.size = Y := ⟨_, rfl⟩
  have d1 := hD3.cell 1
  have dl := hD3.lt
  have hS : (fun w' : World => Blk w' rb (runeRow B rc) 21 ∧ w'.cell? ⟨M, 1, none⟩ = some (.int .i64 k)) wr.drew := ⟨hR3.drew, hD3.cell 1⟩
  refine wp_region_plan [6, 9] [11, 12] (fun w' : World => Blk w' rb (runeRow B rc) 21 ∧ w'.cell? ⟨M, 1, none⟩ = some (.int .i64 k)) (.pure 0 (.pure 1 (.pure 2 (.pure 3 (.pure 4 (.pure 5 (.take 6 (.pure 7 (.pure 8 (.take 9 (.pure 10 (.go 11 (.go 12 .done))))))))))))) hmix (by kernel_rfl) ?_
  repeat (first | (refine plan_move rfl rfl rfl ?_; (try simp only [Act.put, zq1, zq2, zq3, zq4, zq5, zq6])) | (refine plan_pure rfl rfl (fun w' => ex_runesTo rfl rfl rfl ?_ ?_) ?_; omega; omega; (try simp only [Act.put, zq1, zq2, zq3, zq4, zq5, zq6])) | (refine plan_pure rfl rfl (fun w' => ex_runesFrom rfl rfl rfl ?_ ?_) ?_; omega; omega; (try simp only [Act.put, zq1, zq2, zq3, zq4, zq5, zq6])) | (refine plan_take rfl hS rfl (fun w' hSw => ex_textOf rfl rfl hSw.1 hpa ?_ ?_ hcap) ?_; omega; omega; (try simp only [Act.put, zq1, zq2, zq3, zq4, zq5, zq6])) | (refine plan_pure rfl rfl (fun w' => ex_add rfl rfl rfl ?_) ?_; ((try simp only [ByteArray.size_append, Int.toNat_natCast]) <;> omega); (try simp only [Act.put, zq1, zq2, zq3, zq4, zq5, zq6])) | (refine plan_pure rfl rfl (fun w' => ex_add rfl rfl rfl ?_) ?_; (simp [ByteArray.size_append]; omega); (try simp only [Act.put, zq1, zq2, zq3, zq4, zq5, zq6])) | (refine plan_pure (v := ?_) rfl rfl ?_ ?_; rotate_left; (intro w'; go_simp <;> with_reducible rfl); (try simp only [Act.put, zq1, zq2, zq3, zq4, zq5, zq6])) | (refine plan_take (v := ?_) rfl hS rfl ?_ ?_; rotate_left; (intro w' hSw; (try dsimp only at hSw); go_simp <;> with_reducible rfl); (try simp only [Act.put, zq1, zq2, zq3, zq4, zq5, zq6])))
  refine plan_goS rfl rfl (fun K hK => ?_)
  go_simp; refine hK _ _ ⟨hR3.drew.alloc _, (hD3.drew.alloc _).cell 1⟩ ?_; clear hK K; (try simp only [Act.put, zq1, zq2, zq3, zq4, zq5, zq6])
  refine plan_go rfl (by kernel_rfl) rfl (fun K hK => ?_)
  go_simp; refine hK _ _ ?_; clear hK K; (try simp only [Act.put, zq1, zq2, zq3, zq4, zq5, zq6])
  refine plan_done ?_
  go_wp2_with (fail)
  have hY4 : Blk (wr.drew.alloc (.cells #[.string (A ++ v ++ B), .int .i64 k] 61)).drew Y #[.string (A ++ v ++ B), .int .i64 k] 61 := (Blk.new' (by rw [← hY]; rfl) _ _).drew
  have hX4 := (hX3.drew.alloc (.cells #[.string (A ++ v ++ B), .int .i64 k] 61)).drew
  have hF04 := (hF03.drew.alloc (.cells #[.string (A ++ v ++ B), .int .i64 k] 61)).drew
  have hMY : M + 1 ≠ Y := by have := hX3.lt; omega
  have hYM : w.heap.size ≤ Y := by have := hF03.size; omega
  have hS : (fun w' : World => Blk w' Y #[.string (A ++ v ++ B), .int .i64 k] 61) (wr.drew.alloc (.cells #[.string (A ++ v ++ B), .int .i64 k] 61)).drew := hY4
  clear hD3 hR3 hX3 hF03 d1 dl
  refine wp_region_plan [1] [3, 6] (fun w' : World => Blk w' Y #[.string (A ++ v ++ B), .int .i64 k] 61) (.pure 0 (.take 1 (.pure 2 (.go 3 (.pure 4 (.pure 5 (.go 6 .done))))))) hmix (by kernel_rfl) ?_
  repeat (first | (refine plan_move rfl rfl rfl ?_; (try simp only [Act.put, zq1, zq2, zq3, zq4, zq5, zq6])) | (refine plan_take rfl hS rfl (fun w' hSw => ex_load3 rfl rfl hSw) ?_; (try simp only [Act.put, zq1, zq2, zq3, zq4, zq5, zq6])) | (refine plan_pure (v := ?_) rfl rfl ?_ ?_; rotate_left; (intro w'; go_simp <;> with_reducible rfl); (try simp only [Act.put, zq1, zq2, zq3, zq4, zq5, zq6])) | (refine plan_take (v := ?_) rfl hS rfl ?_ ?_; rotate_left; (intro w' hSw; (try dsimp only at hSw); go_simp <;> with_reducible rfl); (try simp only [Act.put, zq1, zq2, zq3, zq4, zq5, zq6])))
  refine plan_goS rfl rfl (fun K hK => ?_)
  go_simp; refine (hn _).mono ?_; rintro e w5 ⟨rfl, hF5⟩; have hY5 := hF5.blk0 hY4; have hX5 := hF5.blk0 hX4; have hF05 := hF04.trans hF5; obtain ⟨y0, y1, yf0, yf1⟩ := hY5.c2; have yl := hY5.lt; refine hK _ _ hY5 ?_; clear hK K; (try simp only [Act.put, zq1, zq2, zq3, zq4, zq5, zq6])
  repeat (first | (refine plan_take rfl hS rfl (fun w' hSw => ex_load3 rfl rfl hSw) ?_; (try simp only [Act.put, zq1, zq2, zq3, zq4, zq5, zq6])) | (refine plan_pure (v := ?_) rfl rfl ?_ ?_; rotate_left; (intro w'; go_simp <;> with_reducible rfl); (try simp only [Act.put, zq1, zq2, zq3, zq4, zq5, zq6])))
  refine plan_go rfl (by kernel_rfl) rfl (fun K hK => ?_)
  go_simp; refine hK _ _ ?_; clear hK K; (try simp only [Act.put, zq1, zq2, zq3, zq4, zq5, zq6])
  refine plan_done ?_
  have hY6 := hY5.set 1 (.int .i64 q)
  have hX6 := hX5.other (a := ⟨Y, 1, none⟩) hMY (.int .i64 q)
  have hF06 := hF05.setCell (a := ⟨Y, 1, none⟩) (Nat.zero_le _) (.inr (.inl hYM)) (.int .i64 q)
  obtain ⟨x0, x1, xf0, xf1⟩ := hX6.c2
  have xl := hX6.lt
  obtain ⟨y0, y1, yf0, yf1⟩ := hY6.c2
  have yl := hY6.lt
  generalize w5.setCell ⟨Y, 1, none⟩ (.int .i64 q) = w6 at *
  go_wp2_with (fail)
  refine bodyPost_ret (res61 rfl rfl ((hX6.set 0 _).set 1 _) rfl) rfl ?_
  exact ⟨rfl, (hF06.setCell (a := ⟨M + 1, 0, none⟩) (Nat.zero_le _) (.inr (.inl (by show _ ≤ M + 1; omega))) _).setCell (a := ⟨M + 1, 1, none⟩) (Nat.zero_le _) (.inr (.inl (by show _ ≤ M + 1; omega))) _⟩
end Go.Proofs.YtiepopbmbgfhkaaGreat

namespace Go.Proofs.YtiepopbmbgfhkaaGreat
open Go.RowKit
set_option maxHeartbeats 4000000
set_option maxRecDepth 20000
set_option linter.unusedVariables false
set_option linter.unusedSimpArgs false

/-- What a step leaves: a document, what is taken out, whether it is looked at. -/
def StepPost (t : ByteArray) (k : Nat) (w : World) (e : Ending) (w' : World) : Prop := ∃ (x : ByteArray) (b : Bool), e = .returned (.tuple #[.agg #[.string t, .int .i64 k], .string x, .bool b]) ∧ Fr 0 [] [] w w'

theorem sBeforeCut_c (t : ByteArray) (k n : Nat) (ht : Prn t) (hs : t.size ≤ 1000000) (hk : k ≤ t.size) (hn : n ≤ 1000000) (w : World) :
    Calls Tryz.prog 128 #[.agg #[.string t, .int .i64 k], .int .i64 n] w (StepPost (t.extract 0 (k - min n k) ++ t.extract k t.size) (k - min n k) w) := by
  obtain ⟨m, hm⟩ : ∃ m, min n k = m := ⟨_, rfl⟩
  obtain ⟨i, hi⟩ : ∃ i, k - m = i := ⟨_, rfl⟩
  have hii : IntKind.i64.wrap ((k : Int) - (m : Int)) = (i : Int) := by rw [wrap_in (by omega) (by omega)]; omega
  have him : i + m = k := by omega
  have hc := fun w => cut_c t k i m ht hs (by omega) w
  simp only [him] at hc
  rw [hm, hi]
  obtain ⟨M, hM⟩ : ∃ M, w.heap.size = M := ⟨_, rfl⟩
  obtain ⟨w0, hw0⟩ : ∃ w0, (w.alloc (.cells #[.string t, .int .i64 k] 61)).alloc (.cells #[.string ⟨#[]⟩, .int .i64 0] 61) = w0 := ⟨_, rfl⟩
  have hD0 : Blk w0 M #[.string t, .int .i64 k] 61 := by rw [← hw0]; exact (Blk.new' hM.symm _ _).alloc _
  have hX0 : Blk w0 (M + 1) #[.string ⟨#[]⟩, .int .i64 0] 61 := by rw [← hw0]; exact Blk.new' (by simp [hM]) _ _
  have hF0 : Fr 0 [] [] w w0 := by rw [← hw0]; exact ((Fr.refl 0 [] [] w).alloc _).alloc _
  obtain ⟨A, hA⟩ : ∃ A, t.extract 0 i ++ t.extract k t.size = A := ⟨_, rfl⟩
  obtain ⟨B, hB⟩ : ∃ B, t.extract i k = B := ⟨_, rfl⟩
  simp only [hA, hB] at hc
  rw [hA]
  obtain ⟨d0, d1, df0, df1⟩ := hD0.c2
  have dl := hD0.lt
  have fin : ∀ w1, Fr 0 [] [] w0 w1 → Blk w1 (M + 1) #[.string ⟨#[]⟩, .int .i64 0] 61 ∧ Fr 0 [] [] w w1 ∧ M + 1 < w1.heap.size := fun w1 hF1 => ⟨hF1.blk0 hX0, hF0.trans hF1, (hF1.blk0 hX0).lt⟩
  have fin2 : ∀ w1, Blk w1 (M + 1) #[.string ⟨#[]⟩, .int .i64 0] 61 → Fr 0 [] [] w w1 → Fr 0 [] [] w ((w1.setCell ⟨M + 1, 0, none⟩ (.string A)).setCell ⟨M + 1, 1, none⟩ (.int .i64 i)) := fun w1 _ h =>
    (h.setCell (a := ⟨M + 1, 0, none⟩) (Nat.zero_le _) (.inr (.inl (by show _ ≤ M + 1; omega))) _).setCell (a := ⟨M + 1, 1, none⟩) (Nat.zero_le _) (.inr (.inl (by show _ ≤ M + 1; omega))) _
  clear hA hB hi
  by_cases hle : (n : Int) ≤ k
  · obtain rfl : m = n := by omega
    clear hm hF0 hX0 hD0
    go_enter Tryz.func128, Tryz.ntmps128
    go_wp2_with (fail)
    refine (hc _).mono ?_
    rintro e w1 ⟨rfl, hF1⟩
    obtain ⟨hX1, hF01, xl⟩ := fin w1 hF1
    obtain ⟨x0, x1, xf0, xf1⟩ := hX1.c2
    clear d0 d1 df0 df1 dl hw0
    obtain ⟨Y, hY⟩ : ∃ Y, w1.heap.size = Y := ⟨_, rfl⟩
    rw [hY] at xl
    go_wp2_with (fail)
    refine bodyPost_ret (res61_3 rfl rfl (((hX1.set 0 _).set 1 _).alloc _) rfl) rfl ?_
    exact ⟨_, _, rfl, (fin2 _ hX1 hF01).alloc _⟩
  · obtain rfl : m = k := by omega
    obtain rfl : i = 0 := by omega
    clear hm hF0 hX0 hD0
    go_enter Tryz.func128, Tryz.ntmps128
    go_wp2_with (fail)
    refine (hc _).mono ?_
    rintro e w1 ⟨rfl, hF1⟩
    obtain ⟨hX1, hF01, xl⟩ := fin w1 hF1
    obtain ⟨x0, x1, xf0, xf1⟩ := hX1.c2
    clear d0 d1 df0 df1 dl hw0
    obtain ⟨Y, hY⟩ : ∃ Y, w1.heap.size = Y := ⟨_, rfl⟩
    rw [hY] at xl
    go_wp2_with (fail)
    refine bodyPost_ret (res61_3 rfl rfl (((hX1.set 0 _).set 1 _).alloc _) rfl) rfl ?_
    exact ⟨_, _, rfl, (fin2 _ hX1 hF01).alloc _⟩

theorem sBehindCut_c (t : ByteArray) (k n : Nat) (ht : Prn t) (hs : t.size ≤ 1000000) (hk : k ≤ t.size) (hn : n ≤ t.size - k ∨ t.size - k = 0) (hn9 : n ≤ 1000000) (w : World) :
    Calls Tryz.prog 129 #[.agg #[.string t, .int .i64 k], .int .i64 n] w (StepPost (t.extract 0 k ++ t.extract (k + min n (t.size - k)) t.size) k w) := by
  have esz : (t.extract k t.size).size = t.size - k := by simp
  have ha := fun w => sAfter_c t k ht hs hk w
  have hcn := fun w => sCount_c (t.extract k t.size) (ht.extract _ _) (by omega) w
  simp only [esz] at hcn
  obtain ⟨r, hr⟩ : ∃ r, t.size - k = r := ⟨_, rfl⟩
  rw [hr] at hn ⊢
  simp only [hr] at hcn
  obtain ⟨m, hm⟩ : ∃ m, min n r = m := ⟨_, rfl⟩
  have hc := fun w => cut_c t k k m ht hs (by omega) w
  rw [hm]
  have hr9 : r ≤ 1000000 := by omega
  obtain ⟨M, hM⟩ : ∃ M, w.heap.size = M := ⟨_, rfl⟩
  obtain ⟨w0, hw0⟩ : ∃ w0, (w.alloc (.cells #[.string t, .int .i64 k] 61)).alloc (.cells #[.string ⟨#[]⟩, .int .i64 0] 61) = w0 := ⟨_, rfl⟩
  have hD0 : Blk w0 M #[.string t, .int .i64 k] 61 := by rw [← hw0]; exact (Blk.new' hM.symm _ _).alloc _
  have hX0 : Blk w0 (M + 1) #[.string ⟨#[]⟩, .int .i64 0] 61 := by rw [← hw0]; exact Blk.new' (by simp [hM]) _ _
  have hF0 : Fr 0 [] [] w w0 := by rw [← hw0]; exact ((Fr.refl 0 [] [] w).alloc _).alloc _
  obtain ⟨A, hA⟩ : ∃ A, t.extract 0 k ++ t.extract (k + m) t.size = A := ⟨_, rfl⟩
  obtain ⟨B, hB⟩ : ∃ B, t.extract k (k + m) = B := ⟨_, rfl⟩
  simp only [hA, hB] at hc
  rw [hA]
  obtain ⟨C, hC⟩ : ∃ C, t.extract k t.size = C := ⟨_, rfl⟩
  simp only [hC] at ha hcn
  obtain ⟨d0, d1, df0, df1⟩ := hD0.c2
  have dl := hD0.lt
  have fin : ∀ w1, Fr 0 [] [] w0 w1 → Blk w1 (M + 1) #[.string ⟨#[]⟩, .int .i64 0] 61 ∧ Fr 0 [] [] w w1 ∧ M + 1 < w1.heap.size := fun w1 hF1 => ⟨hF1.blk0 hX0, hF0.trans hF1, (hF1.blk0 hX0).lt⟩
  have finD : ∀ w1, Fr 0 [] [] w0 w1 → Blk w1 M #[.string t, .int .i64 k] 61 := fun w1 hF1 => hF1.blk0 hD0
  have fin2 : ∀ w1, Blk w1 (M + 1) #[.string ⟨#[]⟩, .int .i64 0] 61 → Fr 0 [] [] w w1 → Fr 0 [] [] w ((w1.setCell ⟨M + 1, 0, none⟩ (.string A)).setCell ⟨M + 1, 1, none⟩ (.int .i64 k)) := fun w1 _ h =>
    (h.setCell (a := ⟨M + 1, 0, none⟩) (Nat.zero_le _) (.inr (.inl (by show _ ≤ M + 1; omega))) _).setCell (a := ⟨M + 1, 1, none⟩) (Nat.zero_le _) (.inr (.inl (by show _ ≤ M + 1; omega))) _
  clear hA hB hC esz hr
  by_cases hle : (n : Int) ≤ r
  · obtain rfl : m = n := by omega
    have n1 : ¬ (r : Int) < m := by omega
    clear hm hF0 hX0 hD0 hn
    go_enter Tryz.func129, Tryz.ntmps129
    go_wp2_with (fail)
    refine (ha _).mono ?_
    rintro e w1 ⟨rfl, hF1⟩
    clear d0 d1 df0 df1 dl hw0
    go_wp2_with (fail)
    refine (hcn _).mono ?_
    rintro e w2 ⟨rfl, hF2⟩
    obtain ⟨d0, d1, df0, df1⟩ := (finD w2 (hF1.trans hF2)).c2
    have dl := (finD w2 (hF1.trans hF2)).lt
    go_wp2_with (fail)
    refine (hc _).mono ?_
    rintro e w3 ⟨rfl, hF3⟩
    obtain ⟨hX3, hF03, xl⟩ := fin w3 ((hF1.trans hF2).trans hF3)
    obtain ⟨x0, x1, xf0, xf1⟩ := hX3.c2
    clear d0 d1 df0 df1 dl
    obtain ⟨Y, hY⟩ : ∃ Y, w3.heap.size = Y := ⟨_, rfl⟩
    rw [hY] at xl
    go_wp2_with (fail)
    refine bodyPost_ret (res61_3 rfl rfl (((hX3.set 0 _).set 1 _).alloc _) rfl) rfl ?_
    exact ⟨_, _, rfl, (fin2 _ hX3 hF03).alloc _⟩
  · obtain rfl : r = 0 := by omega
    obtain rfl : m = 0 := by omega
    have n1 : (0 : Int) < n := by omega
    clear hm hF0 hX0 hD0 hn
    go_enter Tryz.func129, Tryz.ntmps129
    go_wp2_with (fail)
    refine (ha _).mono ?_
    rintro e w1 ⟨rfl, hF1⟩
    clear d0 d1 df0 df1 dl hw0
    go_wp2_with (fail)
    refine (hcn _).mono ?_
    rintro e w2 ⟨rfl, hF2⟩
    obtain ⟨d0, d1, df0, df1⟩ := (finD w2 (hF1.trans hF2)).c2
    have dl := (finD w2 (hF1.trans hF2)).lt
    go_wp2_with (fail)
    refine (hc _).mono ?_
    rintro e w3 ⟨rfl, hF3⟩
    obtain ⟨hX3, hF03, xl⟩ := fin w3 ((hF1.trans hF2).trans hF3)
    obtain ⟨x0, x1, xf0, xf1⟩ := hX3.c2
    clear d0 d1 df0 df1 dl
    obtain ⟨Y, hY⟩ : ∃ Y, w3.heap.size = Y := ⟨_, rfl⟩
    rw [hY] at xl
    go_wp2_with (fail)
    refine bodyPost_ret (res61_3 rfl rfl (((hX3.set 0 _).set 1 _).alloc _) rfl) rfl ?_
    exact ⟨_, _, rfl, (fin2 _ hX3 hF03).alloc _⟩
end Go.Proofs.YtiepopbmbgfhkaaGreat
