/-
  The set's player: a key chooses a suggestion, or puts the chosen one in.
-/
import Derived.Test.YtiepopbmbgfhkaaGreatQ42
import Derived.Test.YtiepopbmbgfhkaaGreatQ41
namespace Go.Proofs.YtiepopbmbgfhkaaGreat
open Go.RowKit
open List renaming setIfInBounds_toArray → zq1, set_cons_zero → zq2, set_cons_succ → zq3
open Int renaming toNat_natCast → zq4, toNat_sub → zq5, toNat_zero → zq6
set_option maxHeartbeats 8000000
set_option maxRecDepth 20000
set_option linter.unusedVariables false
set_option linter.unusedSimpArgs false

section
variable {nb base : Nat} {w : World} {p : Nat} {S : Sess} {ov hv : Value} {P : PL} {V : PV} {i : Nat}
theorem choose_tab {c : ByteArray} (h : Ply base w p S ov hv P V) (hnb : V.bs.length ≤ nb) (hS : SessOk S) (hkp : Kept S i P.s) (hc : c.toList = [9]) (cpl : Bool) :
    Calls Tryz.prog 56 #[.pointer (some ⟨p, 0, none⟩), .string c, .bool cpl] w (PlyPost nb base p S ov hv (P.st ((P.s.next (S.cp 0 0)).wt P.s.tmp)) (.tuple #[]) w) := by
  have hC := plC h.blk
  obtain ⟨vp, vc, hvo⟩ := h.rows.o.form
  have c15 := hC.c15
  rw [hvo] at c15
  have c13 := hC.c13
  have c14 := hC.c14
  have c2 := hC.c2
  have c4 := hC.c4
  have f13 := hC.f 13
  have f14 := hC.f 14
  have hlt := hC.lt
  have hol := hS.hol
  have htl := hkp.tmp_mem.2
  have hst := fun w => stepped1_c (q := S.cp 0 0) hS.m1 hS.m2 (show P.s.tmp.length ≤ 12 by omega) hkp.sel w
  go_enter Tryz.func56, Tryz.ntmps56
  go_wp2_with (fail)
  have hS : (fun w' : World => w'.cell? ⟨p, 13, none⟩ = some (.int .i64 P.s.sel) ∧ w'.cell? ⟨p, 14, none⟩ = some (.int .i64 P.s.vs) ∧ w'.cell? ⟨p, 15, none⟩ = some (.slice vp P.s.tmp.length vc) ∧ w'.cell? ⟨p, 2, none⟩ = some (.int .i64 S.most)) w.drew := ⟨c13, c14, c15, c2⟩
  refine wp_region_plan [5, 9, 13, 19] [20, 26, 29] (fun w' : World => w'.cell? ⟨p, 13, none⟩ = some (.int .i64 P.s.sel) ∧ w'.cell? ⟨p, 14, none⟩ = some (.int .i64 P.s.vs) ∧ w'.cell? ⟨p, 15, none⟩ = some (.slice vp P.s.tmp.length vc) ∧ w'.cell? ⟨p, 2, none⟩ = some (.int .i64 S.most)) (.pure 0 (.pure 1 (.pure 2 (.pure 3 (.pure 4 (.take 5 (.pure 6 (.pure 7 (.pure 8 (.take 9 (.pure 10 (.pure 11 (.pure 12 (.take 13 (.pure 14 (.pure 15 (.pure 16 (.pure 17 (.pure 18 (.take 19 (.go 20 (.pure 21 (.pure 22 (.pure 23 (.pure 24 (.pure 25 (.go 26 (.pure 27 (.pure 28 (.go 29 .done)))))))))))))))))))))))))))))) hmix (by kernel_rfl) ?_
  repeat (first | (refine plan_move rfl rfl rfl ?_; (try simp only [Act.put, zq1, zq2, zq3, zq4, zq5, zq6])) | (refine plan_pure (v := ?_) rfl rfl ?_ ?_; rotate_left; (intro w'; go_simp <;> with_reducible rfl); (try simp only [Act.put, zq1, zq2, zq3, zq4, zq5, zq6])) | (refine plan_take (v := ?_) rfl hS rfl ?_ ?_; rotate_left; (intro w' hSw; (try dsimp only at hSw); go_simp <;> with_reducible rfl); (try simp only [Act.put, zq1, zq2, zq3, zq4, zq5, zq6])))
  refine plan_go rfl (by kernel_rfl) rfl (fun K hK => ?_)
  go_simp; refine (hst _).mono ?_; rintro e w2 ⟨rfl, rfl⟩; refine hK _ _ ?_; clear hK K; (try simp only [Act.put, zq1, zq2, zq3, zq4, zq5, zq6])
  repeat (first | (refine plan_move rfl rfl rfl ?_; (try simp only [Act.put, zq1, zq2, zq3, zq4, zq5, zq6])) | (refine plan_pure (v := ?_) rfl rfl ?_ ?_; rotate_left; (intro w'; go_simp <;> with_reducible rfl); (try simp only [Act.put, zq1, zq2, zq3, zq4, zq5, zq6])))
  refine plan_go rfl (by kernel_rfl) rfl (fun K hK => ?_)
  go_simp; refine hK _ _ ?_; clear hK K; (try simp only [Act.put, zq1, zq2, zq3, zq4, zq5, zq6])
  repeat (first | (refine plan_pure (v := ?_) rfl rfl ?_ ?_; rotate_left; (intro w'; go_simp <;> with_reducible rfl); (try simp only [Act.put, zq1, zq2, zq3, zq4, zq5, zq6])))
  refine plan_go rfl (by kernel_rfl) rfl (fun K hK => ?_)
  go_simp; refine hK _ _ ?_; clear hK K; (try simp only [Act.put, zq1, zq2, zq3, zq4, zq5, zq6])
  refine plan_done ?_
  go_wp2_with (fail)
  go_end0
  have h2 := (h.fr0 ((Fr.refl 0 [] [] w).drew)).put 13 (.int .i64 (P.s.next (S.cp 0 0)).sel) (P' := P.st { P.s with sel := (P.s.next (S.cp 0 0)).sel }) (V' := V) rfl rfl rfl rfl rfl ⟨rfl, rfl, rfl, rfl, rfl, rfl⟩ rfl rfl
  have h3 := h2.put 14 (.int .i64 (P.s.next (S.cp 0 0)).vs) (P' := P.st ((P.s.next (S.cp 0 0)).wt P.s.tmp)) (V' := V) rfl rfl rfl rfl rfl ⟨rfl, rfl, rfl, rfl, rfl, rfl⟩ rfl rfl
  exact ⟨rfl, ⟨V, h3, hnb⟩, (((Fr.refl base PT [] w).drew).trans ((h.fr0 ((Fr.refl 0 [] [] w).drew)).putF 13 _)).trans (h2.putF 14 _)⟩
theorem choose_down {c : ByteArray} (h : Ply base w p S ov hv P V) (hnb : V.bs.length ≤ nb) (hS : SessOk S) (hkp : Kept S i P.s) (hc : c.toList = [27, 91, 66]) (cpl : Bool) (hd : cpl = true) :
    Calls Tryz.prog 56 #[.pointer (some ⟨p, 0, none⟩), .string c, .bool cpl] w (PlyPost nb base p S ov hv (P.st ((P.s.next (S.cp 0 0)).wt P.s.tmp)) (.tuple #[]) w) := by
  have hC := plC h.blk
  obtain ⟨vp, vc, hvo⟩ := h.rows.o.form
  have c15 := hC.c15
  rw [hvo] at c15
  have c13 := hC.c13
  have c14 := hC.c14
  have c2 := hC.c2
  have c4 := hC.c4
  have f13 := hC.f 13
  have f14 := hC.f 14
  have hlt := hC.lt
  have hol := hS.hol
  have htl := hkp.tmp_mem.2
  have hst := fun w => stepped1_c (q := S.cp 0 0) hS.m1 hS.m2 (show P.s.tmp.length ≤ 12 by omega) hkp.sel w
  subst hd
  go_enter Tryz.func56, Tryz.ntmps56
  go_wp2_with (fail)
  have hS : (fun w' : World => w'.cell? ⟨p, 13, none⟩ = some (.int .i64 P.s.sel) ∧ w'.cell? ⟨p, 14, none⟩ = some (.int .i64 P.s.vs) ∧ w'.cell? ⟨p, 15, none⟩ = some (.slice vp P.s.tmp.length vc) ∧ w'.cell? ⟨p, 2, none⟩ = some (.int .i64 S.most)) w.drew := ⟨c13, c14, c15, c2⟩
  refine wp_region_plan [5, 9, 13, 19] [20, 26, 29] (fun w' : World => w'.cell? ⟨p, 13, none⟩ = some (.int .i64 P.s.sel) ∧ w'.cell? ⟨p, 14, none⟩ = some (.int .i64 P.s.vs) ∧ w'.cell? ⟨p, 15, none⟩ = some (.slice vp P.s.tmp.length vc) ∧ w'.cell? ⟨p, 2, none⟩ = some (.int .i64 S.most)) (.pure 0 (.pure 1 (.pure 2 (.pure 3 (.pure 4 (.take 5 (.pure 6 (.pure 7 (.pure 8 (.take 9 (.pure 10 (.pure 11 (.pure 12 (.take 13 (.pure 14 (.pure 15 (.pure 16 (.pure 17 (.pure 18 (.take 19 (.go 20 (.pure 21 (.pure 22 (.pure 23 (.pure 24 (.pure 25 (.go 26 (.pure 27 (.pure 28 (.go 29 .done)))))))))))))))))))))))))))))) hmix (by kernel_rfl) ?_
  repeat (first | (refine plan_move rfl rfl rfl ?_; (try simp only [Act.put, zq1, zq2, zq3, zq4, zq5, zq6])) | (refine plan_pure (v := ?_) rfl rfl ?_ ?_; rotate_left; (intro w'; go_simp <;> with_reducible rfl); (try simp only [Act.put, zq1, zq2, zq3, zq4, zq5, zq6])) | (refine plan_take (v := ?_) rfl hS rfl ?_ ?_; rotate_left; (intro w' hSw; (try dsimp only at hSw); go_simp <;> with_reducible rfl); (try simp only [Act.put, zq1, zq2, zq3, zq4, zq5, zq6])))
  refine plan_go rfl (by kernel_rfl) rfl (fun K hK => ?_)
  go_simp; refine (hst _).mono ?_; rintro e w2 ⟨rfl, rfl⟩; refine hK _ _ ?_; clear hK K; (try simp only [Act.put, zq1, zq2, zq3, zq4, zq5, zq6])
  repeat (first | (refine plan_move rfl rfl rfl ?_; (try simp only [Act.put, zq1, zq2, zq3, zq4, zq5, zq6])) | (refine plan_pure (v := ?_) rfl rfl ?_ ?_; rotate_left; (intro w'; go_simp <;> with_reducible rfl); (try simp only [Act.put, zq1, zq2, zq3, zq4, zq5, zq6])))
  refine plan_go rfl (by kernel_rfl) rfl (fun K hK => ?_)
  go_simp; refine hK _ _ ?_; clear hK K; (try simp only [Act.put, zq1, zq2, zq3, zq4, zq5, zq6])
  repeat (first | (refine plan_pure (v := ?_) rfl rfl ?_ ?_; rotate_left; (intro w'; go_simp <;> with_reducible rfl); (try simp only [Act.put, zq1, zq2, zq3, zq4, zq5, zq6])))
  refine plan_go rfl (by kernel_rfl) rfl (fun K hK => ?_)
  go_simp; refine hK _ _ ?_; clear hK K; (try simp only [Act.put, zq1, zq2, zq3, zq4, zq5, zq6])
  refine plan_done ?_
  go_wp2_with (fail)
  go_end0
  have h2 := (h.fr0 ((Fr.refl 0 [] [] w).drew)).put 13 (.int .i64 (P.s.next (S.cp 0 0)).sel) (P' := P.st { P.s with sel := (P.s.next (S.cp 0 0)).sel }) (V' := V) rfl rfl rfl rfl rfl ⟨rfl, rfl, rfl, rfl, rfl, rfl⟩ rfl rfl
  have h3 := h2.put 14 (.int .i64 (P.s.next (S.cp 0 0)).vs) (P' := P.st ((P.s.next (S.cp 0 0)).wt P.s.tmp)) (V' := V) rfl rfl rfl rfl rfl ⟨rfl, rfl, rfl, rfl, rfl, rfl⟩ rfl rfl
  exact ⟨rfl, ⟨V, h3, hnb⟩, (((Fr.refl base PT [] w).drew).trans ((h.fr0 ((Fr.refl 0 [] [] w).drew)).putF 13 _)).trans (h2.putF 14 _)⟩
theorem choose_down2 {c : ByteArray} (h : Ply base w p S ov hv P V) (hnb : V.bs.length ≤ nb) (hS : SessOk S) (hkp : Kept S i P.s) (hc : c.toList = [27, 91, 66]) (cpl : Bool) (hd : cpl = false) (hdn : S.down = true) :
    Calls Tryz.prog 56 #[.pointer (some ⟨p, 0, none⟩), .string c, .bool cpl] w (PlyPost nb base p S ov hv (P.st ((P.s.next (S.cp 0 0)).wt P.s.tmp)) (.tuple #[]) w) := by
  have hC := plC h.blk
  obtain ⟨vp, vc, hvo⟩ := h.rows.o.form
  have c15 := hC.c15
  rw [hvo] at c15
  have c13 := hC.c13
  have c14 := hC.c14
  have c2 := hC.c2
  have c4 := hC.c4
  have f13 := hC.f 13
  have f14 := hC.f 14
  have hlt := hC.lt
  have hol := hS.hol
  have htl := hkp.tmp_mem.2
  have hst := fun w => stepped1_c (q := S.cp 0 0) hS.m1 hS.m2 (show P.s.tmp.length ≤ 12 by omega) hkp.sel w
  subst hd
  rw [hdn] at c4
  go_enter Tryz.func56, Tryz.ntmps56
  go_wp2_with (fail)
  have hS : (fun w' : World => w'.cell? ⟨p, 13, none⟩ = some (.int .i64 P.s.sel) ∧ w'.cell? ⟨p, 14, none⟩ = some (.int .i64 P.s.vs) ∧ w'.cell? ⟨p, 15, none⟩ = some (.slice vp P.s.tmp.length vc) ∧ w'.cell? ⟨p, 2, none⟩ = some (.int .i64 S.most)) w.drew := ⟨c13, c14, c15, c2⟩
  refine wp_region_plan [5, 9, 13, 19] [20, 26, 29] (fun w' : World => w'.cell? ⟨p, 13, none⟩ = some (.int .i64 P.s.sel) ∧ w'.cell? ⟨p, 14, none⟩ = some (.int .i64 P.s.vs) ∧ w'.cell? ⟨p, 15, none⟩ = some (.slice vp P.s.tmp.length vc) ∧ w'.cell? ⟨p, 2, none⟩ = some (.int .i64 S.most)) (.pure 0 (.pure 1 (.pure 2 (.pure 3 (.pure 4 (.take 5 (.pure 6 (.pure 7 (.pure 8 (.take 9 (.pure 10 (.pure 11 (.pure 12 (.take 13 (.pure 14 (.pure 15 (.pure 16 (.pure 17 (.pure 18 (.take 19 (.go 20 (.pure 21 (.pure 22 (.pure 23 (.pure 24 (.pure 25 (.go 26 (.pure 27 (.pure 28 (.go 29 .done)))))))))))))))))))))))))))))) hmix (by kernel_rfl) ?_
  repeat (first | (refine plan_move rfl rfl rfl ?_; (try simp only [Act.put, zq1, zq2, zq3, zq4, zq5, zq6])) | (refine plan_pure (v := ?_) rfl rfl ?_ ?_; rotate_left; (intro w'; go_simp <;> with_reducible rfl); (try simp only [Act.put, zq1, zq2, zq3, zq4, zq5, zq6])) | (refine plan_take (v := ?_) rfl hS rfl ?_ ?_; rotate_left; (intro w' hSw; (try dsimp only at hSw); go_simp <;> with_reducible rfl); (try simp only [Act.put, zq1, zq2, zq3, zq4, zq5, zq6])))
  refine plan_go rfl (by kernel_rfl) rfl (fun K hK => ?_)
  go_simp; refine (hst _).mono ?_; rintro e w2 ⟨rfl, rfl⟩; refine hK _ _ ?_; clear hK K; (try simp only [Act.put, zq1, zq2, zq3, zq4, zq5, zq6])
  repeat (first | (refine plan_move rfl rfl rfl ?_; (try simp only [Act.put, zq1, zq2, zq3, zq4, zq5, zq6])) | (refine plan_pure (v := ?_) rfl rfl ?_ ?_; rotate_left; (intro w'; go_simp <;> with_reducible rfl); (try simp only [Act.put, zq1, zq2, zq3, zq4, zq5, zq6])))
  refine plan_go rfl (by kernel_rfl) rfl (fun K hK => ?_)
  go_simp; refine hK _ _ ?_; clear hK K; (try simp only [Act.put, zq1, zq2, zq3, zq4, zq5, zq6])
  repeat (first | (refine plan_pure (v := ?_) rfl rfl ?_ ?_; rotate_left; (intro w'; go_simp <;> with_reducible rfl); (try simp only [Act.put, zq1, zq2, zq3, zq4, zq5, zq6])))
  refine plan_go rfl (by kernel_rfl) rfl (fun K hK => ?_)
  go_simp; refine hK _ _ ?_; clear hK K; (try simp only [Act.put, zq1, zq2, zq3, zq4, zq5, zq6])
  refine plan_done ?_
  go_wp2_with (fail)
  go_end0
  have h2 := (h.fr0 ((Fr.refl 0 [] [] w).drew)).put 13 (.int .i64 (P.s.next (S.cp 0 0)).sel) (P' := P.st { P.s with sel := (P.s.next (S.cp 0 0)).sel }) (V' := V) rfl rfl rfl rfl rfl ⟨rfl, rfl, rfl, rfl, rfl, rfl⟩ rfl rfl
  have h3 := h2.put 14 (.int .i64 (P.s.next (S.cp 0 0)).vs) (P' := P.st ((P.s.next (S.cp 0 0)).wt P.s.tmp)) (V' := V) rfl rfl rfl rfl rfl ⟨rfl, rfl, rfl, rfl, rfl, rfl⟩ rfl rfl
  exact ⟨rfl, ⟨V, h3, hnb⟩, (((Fr.refl base PT [] w).drew).trans ((h.fr0 ((Fr.refl 0 [] [] w).drew)).putF 13 _)).trans (h2.putF 14 _)⟩
theorem choose_back {c : ByteArray} (h : Ply base w p S ov hv P V) (hnb : V.bs.length ≤ nb) (hS : SessOk S) (hkp : Kept S i P.s) (hc : c.toList = [27, 91, 90]) (cpl : Bool) :
    Calls Tryz.prog 56 #[.pointer (some ⟨p, 0, none⟩), .string c, .bool cpl] w (PlyPost nb base p S ov hv (P.st ((P.s.prev (S.cp 0 0)).wt P.s.tmp)) (.tuple #[]) w) := by
  have hC := plC h.blk
  obtain ⟨vp, vc, hvo⟩ := h.rows.o.form
  have c15 := hC.c15
  rw [hvo] at c15
  have c13 := hC.c13
  have c14 := hC.c14
  have c2 := hC.c2
  have c4 := hC.c4
  have f13 := hC.f 13
  have f14 := hC.f 14
  have hlt := hC.lt
  have hol := hS.hol
  have htl := hkp.tmp_mem.2
  have hst := fun w => stepped2_c (q := S.cp 0 0) hS.m1 hS.m2 (show P.s.tmp.length ≤ 12 by omega) hkp.sel w
  go_enter Tryz.func56, Tryz.ntmps56
  go_wp2_with (fail)
  have hS : (fun w' : World => w'.cell? ⟨p, 13, none⟩ = some (.int .i64 P.s.sel) ∧ w'.cell? ⟨p, 14, none⟩ = some (.int .i64 P.s.vs) ∧ w'.cell? ⟨p, 15, none⟩ = some (.slice vp P.s.tmp.length vc) ∧ w'.cell? ⟨p, 2, none⟩ = some (.int .i64 S.most)) w.drew := ⟨c13, c14, c15, c2⟩
  refine wp_region_plan [5, 9, 13, 19] [20, 26, 29] (fun w' : World => w'.cell? ⟨p, 13, none⟩ = some (.int .i64 P.s.sel) ∧ w'.cell? ⟨p, 14, none⟩ = some (.int .i64 P.s.vs) ∧ w'.cell? ⟨p, 15, none⟩ = some (.slice vp P.s.tmp.length vc) ∧ w'.cell? ⟨p, 2, none⟩ = some (.int .i64 S.most)) (.pure 0 (.pure 1 (.pure 2 (.pure 3 (.pure 4 (.take 5 (.pure 6 (.pure 7 (.pure 8 (.take 9 (.pure 10 (.pure 11 (.pure 12 (.take 13 (.pure 14 (.pure 15 (.pure 16 (.pure 17 (.pure 18 (.take 19 (.go 20 (.pure 21 (.pure 22 (.pure 23 (.pure 24 (.pure 25 (.go 26 (.pure 27 (.pure 28 (.go 29 .done)))))))))))))))))))))))))))))) hmix (by kernel_rfl) ?_
  repeat (first | (refine plan_move rfl rfl rfl ?_; (try simp only [Act.put, zq1, zq2, zq3, zq4, zq5, zq6])) | (refine plan_pure (v := ?_) rfl rfl ?_ ?_; rotate_left; (intro w'; go_simp <;> with_reducible rfl); (try simp only [Act.put, zq1, zq2, zq3, zq4, zq5, zq6])) | (refine plan_take (v := ?_) rfl hS rfl ?_ ?_; rotate_left; (intro w' hSw; (try dsimp only at hSw); go_simp <;> with_reducible rfl); (try simp only [Act.put, zq1, zq2, zq3, zq4, zq5, zq6])))
  refine plan_go rfl (by kernel_rfl) rfl (fun K hK => ?_)
  go_simp; refine (hst _).mono ?_; rintro e w2 ⟨rfl, rfl⟩; refine hK _ _ ?_; clear hK K; (try simp only [Act.put, zq1, zq2, zq3, zq4, zq5, zq6])
  repeat (first | (refine plan_move rfl rfl rfl ?_; (try simp only [Act.put, zq1, zq2, zq3, zq4, zq5, zq6])) | (refine plan_pure (v := ?_) rfl rfl ?_ ?_; rotate_left; (intro w'; go_simp <;> with_reducible rfl); (try simp only [Act.put, zq1, zq2, zq3, zq4, zq5, zq6])))
  refine plan_go rfl (by kernel_rfl) rfl (fun K hK => ?_)
  go_simp; refine hK _ _ ?_; clear hK K; (try simp only [Act.put, zq1, zq2, zq3, zq4, zq5, zq6])
  repeat (first | (refine plan_pure (v := ?_) rfl rfl ?_ ?_; rotate_left; (intro w'; go_simp <;> with_reducible rfl); (try simp only [Act.put, zq1, zq2, zq3, zq4, zq5, zq6])))
  refine plan_go rfl (by kernel_rfl) rfl (fun K hK => ?_)
  go_simp; refine hK _ _ ?_; clear hK K; (try simp only [Act.put, zq1, zq2, zq3, zq4, zq5, zq6])
  refine plan_done ?_
  go_wp2_with (fail)
  go_end0
  have h2 := (h.fr0 ((Fr.refl 0 [] [] w).drew)).put 13 (.int .i64 (P.s.prev (S.cp 0 0)).sel) (P' := P.st { P.s with sel := (P.s.prev (S.cp 0 0)).sel }) (V' := V) rfl rfl rfl rfl rfl ⟨rfl, rfl, rfl, rfl, rfl, rfl⟩ rfl rfl
  have h3 := h2.put 14 (.int .i64 (P.s.prev (S.cp 0 0)).vs) (P' := P.st ((P.s.prev (S.cp 0 0)).wt P.s.tmp)) (V' := V) rfl rfl rfl rfl rfl ⟨rfl, rfl, rfl, rfl, rfl, rfl⟩ rfl rfl
  exact ⟨rfl, ⟨V, h3, hnb⟩, (((Fr.refl base PT [] w).drew).trans ((h.fr0 ((Fr.refl 0 [] [] w).drew)).putF 13 _)).trans (h2.putF 14 _)⟩
theorem choose_up {c : ByteArray} (h : Ply base w p S ov hv P V) (hnb : V.bs.length ≤ nb) (hS : SessOk S) (hkp : Kept S i P.s) (hc : c.toList = [27, 91, 65]) (cpl : Bool) (hd : cpl = true) :
    Calls Tryz.prog 56 #[.pointer (some ⟨p, 0, none⟩), .string c, .bool cpl] w (PlyPost nb base p S ov hv (P.st ((P.s.prev (S.cp 0 0)).wt P.s.tmp)) (.tuple #[]) w) := by
  have hC := plC h.blk
  obtain ⟨vp, vc, hvo⟩ := h.rows.o.form
  have c15 := hC.c15
  rw [hvo] at c15
  have c13 := hC.c13
  have c14 := hC.c14
  have c2 := hC.c2
  have c4 := hC.c4
  have f13 := hC.f 13
  have f14 := hC.f 14
  have hlt := hC.lt
  have hol := hS.hol
  have htl := hkp.tmp_mem.2
  have hst := fun w => stepped2_c (q := S.cp 0 0) hS.m1 hS.m2 (show P.s.tmp.length ≤ 12 by omega) hkp.sel w
  subst hd
  go_enter Tryz.func56, Tryz.ntmps56
  go_wp2_with (fail)
  have hS : (fun w' : World => w'.cell? ⟨p, 13, none⟩ = some (.int .i64 P.s.sel) ∧ w'.cell? ⟨p, 14, none⟩ = some (.int .i64 P.s.vs) ∧ w'.cell? ⟨p, 15, none⟩ = some (.slice vp P.s.tmp.length vc) ∧ w'.cell? ⟨p, 2, none⟩ = some (.int .i64 S.most)) w.drew := ⟨c13, c14, c15, c2⟩
  refine wp_region_plan [5, 9, 13, 19] [20, 26, 29] (fun w' : World => w'.cell? ⟨p, 13, none⟩ = some (.int .i64 P.s.sel) ∧ w'.cell? ⟨p, 14, none⟩ = some (.int .i64 P.s.vs) ∧ w'.cell? ⟨p, 15, none⟩ = some (.slice vp P.s.tmp.length vc) ∧ w'.cell? ⟨p, 2, none⟩ = some (.int .i64 S.most)) (.pure 0 (.pure 1 (.pure 2 (.pure 3 (.pure 4 (.take 5 (.pure 6 (.pure 7 (.pure 8 (.take 9 (.pure 10 (.pure 11 (.pure 12 (.take 13 (.pure 14 (.pure 15 (.pure 16 (.pure 17 (.pure 18 (.take 19 (.go 20 (.pure 21 (.pure 22 (.pure 23 (.pure 24 (.pure 25 (.go 26 (.pure 27 (.pure 28 (.go 29 .done)))))))))))))))))))))))))))))) hmix (by kernel_rfl) ?_
  repeat (first | (refine plan_move rfl rfl rfl ?_; (try simp only [Act.put, zq1, zq2, zq3, zq4, zq5, zq6])) | (refine plan_pure (v := ?_) rfl rfl ?_ ?_; rotate_left; (intro w'; go_simp <;> with_reducible rfl); (try simp only [Act.put, zq1, zq2, zq3, zq4, zq5, zq6])) | (refine plan_take (v := ?_) rfl hS rfl ?_ ?_; rotate_left; (intro w' hSw; (try dsimp only at hSw); go_simp <;> with_reducible rfl); (try simp only [Act.put, zq1, zq2, zq3, zq4, zq5, zq6])))
  refine plan_go rfl (by kernel_rfl) rfl (fun K hK => ?_)
  go_simp; refine (hst _).mono ?_; rintro e w2 ⟨rfl, rfl⟩; refine hK _ _ ?_; clear hK K; (try simp only [Act.put, zq1, zq2, zq3, zq4, zq5, zq6])
  repeat (first | (refine plan_move rfl rfl rfl ?_; (try simp only [Act.put, zq1, zq2, zq3, zq4, zq5, zq6])) | (refine plan_pure (v := ?_) rfl rfl ?_ ?_; rotate_left; (intro w'; go_simp <;> with_reducible rfl); (try simp only [Act.put, zq1, zq2, zq3, zq4, zq5, zq6])))
  refine plan_go rfl (by kernel_rfl) rfl (fun K hK => ?_)
  go_simp; refine hK _ _ ?_; clear hK K; (try simp only [Act.put, zq1, zq2, zq3, zq4, zq5, zq6])
  repeat (first | (refine plan_pure (v := ?_) rfl rfl ?_ ?_; rotate_left; (intro w'; go_simp <;> with_reducible rfl); (try simp only [Act.put, zq1, zq2, zq3, zq4, zq5, zq6])))
  refine plan_go rfl (by kernel_rfl) rfl (fun K hK => ?_)
  go_simp; refine hK _ _ ?_; clear hK K; (try simp only [Act.put, zq1, zq2, zq3, zq4, zq5, zq6])
  refine plan_done ?_
  go_wp2_with (fail)
  go_end0
  have h2 := (h.fr0 ((Fr.refl 0 [] [] w).drew)).put 13 (.int .i64 (P.s.prev (S.cp 0 0)).sel) (P' := P.st { P.s with sel := (P.s.prev (S.cp 0 0)).sel }) (V' := V) rfl rfl rfl rfl rfl ⟨rfl, rfl, rfl, rfl, rfl, rfl⟩ rfl rfl
  have h3 := h2.put 14 (.int .i64 (P.s.prev (S.cp 0 0)).vs) (P' := P.st ((P.s.prev (S.cp 0 0)).wt P.s.tmp)) (V' := V) rfl rfl rfl rfl rfl ⟨rfl, rfl, rfl, rfl, rfl, rfl⟩ rfl rfl
  exact ⟨rfl, ⟨V, h3, hnb⟩, (((Fr.refl base PT [] w).drew).trans ((h.fr0 ((Fr.refl 0 [] [] w).drew)).putF 13 _)).trans (h2.putF 14 _)⟩
theorem choose_no {c : ByteArray} (h : Ply base w p S ov hv P V) (hnb : V.bs.length ≤ nb) (hS : SessOk S) (hc : (c.toList = [27, 91, 66] ∧ S.down = false) ∨ c.toList = [27, 91, 65]) :
    Calls Tryz.prog 56 #[.pointer (some ⟨p, 0, none⟩), .string c, .bool false] w (PlyPost nb base p S ov hv P (.tuple #[]) w) := by
  have hC := plC h.blk
  have c4 := hC.c4
  have hlt := hC.lt
  rcases hc with ⟨hc, hdn⟩ | hc
  · rw [hdn] at c4
    go_enter Tryz.func56, Tryz.ntmps56
    go_wp2_with (fail)
    go_end0
    exact ⟨rfl, ⟨V, h, hnb⟩, Fr.refl _ _ _ _⟩
  · go_enter Tryz.func56, Tryz.ntmps56
    go_wp2_with (fail)
    go_end0
    exact ⟨rfl, ⟨V, h, hnb⟩, Fr.refl _ _ _ _⟩

/-- Any other key. -/
structure OtherKey (c : ByteArray) : Prop where
  k1 : (c.toList == [9]) = false
  k2 : (c.toList == [27, 91, 66]) = false
  k3 : (c.toList == [27, 91, 90]) = false
  k4 : (c.toList == [27, 91, 65]) = false

theorem choose_none {c : ByteArray} (h : Ply base w p S ov hv P V) (hnb : V.bs.length ≤ nb) (hS : SessOk S) (hc : OtherKey c) (hsel : P.s.sel = -1) :
    Calls Tryz.prog 56 #[.pointer (some ⟨p, 0, none⟩), .string c, .bool false] w (PlyPost nb base p S ov hv (P.st ((P.s.chosen (S.cp 0 0)).wt P.s.tmp)) (.tuple #[]) w) := by
  have hC := plC h.blk
  have c13 := hC.c13
  have c14 := hC.c14
  have f13 := hC.f 13
  have f14 := hC.f 14
  have hlt := hC.lt
  obtain ⟨k1, k2, k3, k4⟩ := hc
  have hch : (P.s.chosen (S.cp 0 0)).wt P.s.tmp = { P.s with sel := -1, vs := 0 } := by
    unfold PS.chosen
    rw [if_pos hsel]
    show PS.mk _ _ _ _ _ P.s.sel _ _ _ = _
    rw [hsel]
  rw [hch]
  clear hch hsel
  go_enter Tryz.func56, Tryz.ntmps56
  go_wp2_with (fail)
  go_end0
  have h2 := h.put 13 (.int .i64 (-1)) (P' := P.st { P.s with sel := -1 }) (V' := V) rfl rfl rfl rfl rfl ⟨rfl, rfl, rfl, rfl, rfl, rfl⟩ rfl rfl
  have h3 := h2.put 14 (.int .i64 0) (P' := P.st { P.s with sel := -1, vs := 0 }) (V' := V) rfl rfl rfl rfl rfl ⟨rfl, rfl, rfl, rfl, rfl, rfl⟩ rfl rfl
  exact ⟨rfl, ⟨V, h3, hnb⟩, (h.putF 13 _).trans (h2.putF 14 _)⟩
end
end Go.Proofs.YtiepopbmbgfhkaaGreat
