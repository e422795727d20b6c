/-
  The set's player: what keys are bound to.
-/
import Derived.Test.YtiepopbmbgfhkaaGreatQ46
import Derived.Test.YtiepopbmbgfhkaaGreatQ36
namespace Go.Proofs.YtiepopbmbgfhkaaGreat
open Go.RowKit
open List renaming setIfInBounds_toArray → zq1, set_cons_zero → zq2, set_cons_succ → zq3
open Int renaming toNat_natCast → zq4, toNat_sub → zq5, toNat_zero → zq6
set_option maxHeartbeats 8000000
set_option maxRecDepth 20000
set_option linter.unusedVariables false
set_option linter.unusedSimpArgs false

theorem head_of {c : ByteArray} {x : UInt8} {l : List UInt8} (h : c.toList = x :: l) : ∃ h0 : 0 < c.size, c[0] = x := by
  rw [ByteArray.toList_eq] at h
  have h0 : 0 < c.data.toList.length := by rw [h]; simp
  have h0' : 0 < c.size := by simpa using h0
  refine ⟨h0', ?_⟩
  have e : c.data.toList[0]'h0 = x := by simp [h]
  exact e
theorem del_eq (t : ByteArray) (k : Nat) (hk : k ≤ t.size) : t.extract (k + min 1 (t.size - k)) t.size = t.extract (k + 1) t.size := by
  by_cases h : k = t.size
  · rw [extract_empty _ _ _ (by omega), extract_empty _ _ _ (by omega)]
  · rw [show min 1 (t.size - k) = 1 by omega]
theorem back_eq (k : Nat) : k - min 1 k = k - 1 := by omega
def PS.doc (s : PS) (g : ByteArray → Nat → ByteArray × Nat) : PS := { s with t := (g s.t s.k).1, k := (g s.t s.k).2 }

/-- A block of another kind is written. -/
theorem Ply.otherT {base : Nat} {w : World} {p : Nat} {S : Sess} {ov hv : Value} {P : PL} {V : PV} {X : Nat} {cs : Array Value} {ty : TypeId} (h : Ply base w p S ov hv P V) (hX : Blk w X cs ty) (h1 : ty ≠ 63) (h2 : ty ≠ 9) (h3 : ty ≠ 29) (hb : base ≤ X) (i : Nat) (v : Value) : Ply base (w.setCell ⟨X, i, none⟩ v) p S ov hv P V := by
  have hF : Fr base [] [X] w (w.setCell ⟨X, i, none⟩ v) := fr_cell hb i v
  have n1 : p ≠ X := (hX.ne h.blk h1).symm
  have n2 : V.ga ≠ X := by obtain ⟨c, hc⟩ := h.rows.a.blk; exact hc.ne hX h2.symm
  have n3 : V.gk ≠ X := by obtain ⟨c, hc⟩ := h.kept.k.blk; exact hc.ne hX h2.symm
  have n4 : ∀ (u : Value) xs, OS base w u xs → ∀ g, u.ownBlock = some g → g ∉ [X] := fun u xs ho g hg e => by
    obtain ⟨-, c, hc⟩ := row_blk ho g hg
    exact hc.ne hX h2.symm (List.mem_singleton.1 e)
  exact ⟨⟨hF.blk h.blk (.inr ⟨by simpa using n1, by simp⟩), h.bp, Nat.le_trans h.bw hF.size, h.rows.fr hF (fun b hb => by rw [List.mem_singleton.1 hb]; exact ⟨_, ty, hX, h3⟩) (by simpa using n2) (n4 _ _ h.rows.l) (n4 _ _ h.rows.b), h.ino.lowB hF h.inl, h.inl⟩, h.kept.fr hF (by simpa using n3)⟩
/-- What stands ahead of a step: the player, the step. -/
structure StepW (base : Nat) (w W : World) (p N : Nat) (S : Sess) (ov hv : Value) (P : PL) (V : PV) (op n : Int) : Prop where
  h : Ply base W p S ov hv P V
  e : Blk W N #[.int .i64 op, .int .i64 n, .string ⟨#[]⟩, .bool false] 151
  f : Fr 0 [] [] w W
theorem StepW.new {base : Nat} {w : World} {p N : Nat} {S : Sess} {ov hv : Value} {P : PL} {V : PV} (h : Ply base w p S ov hv P V) (hN : w.heap.size = N) (op n : Int) : StepW base w (w.alloc (.cells #[.int .i64 op, .int .i64 n, .string ⟨#[]⟩, .bool false] 151)) p N S ov hv P V op n :=
  ⟨h.fr0 ((Fr.refl 0 [] [] w).alloc _), Blk.new' hN.symm _ _, (Fr.refl 0 [] [] w).alloc _⟩
theorem StepW.set {base : Nat} {w w4 : World} {p N : Nat} {S : Sess} {ov hv : Value} {P : PL} {V : PV} {a0 a1 : Int} (h : StepW base w w4 p N S ov hv P V a0 a1) (hN : w.heap.size = N) (hb : base ≤ N) (op n : Int) : StepW base w ((((w4.setCell ⟨N, 0, none⟩ (.int .i64 op)).setCell ⟨N, 1, none⟩ (.int .i64 n)).setCell ⟨N, 2, none⟩ (.string ⟨#[]⟩)).setCell ⟨N, 3, none⟩ (.bool false)) p N S ov hv P V op n := by
  have e0 := h.e
  have e1 := e0.set 0 (.int .i64 op)
  have e2 := e1.set 1 (.int .i64 n)
  have e3 := e2.set 2 (.string ⟨#[]⟩)
  have e4 := e3.set 3 (.bool false)
  have h1 := h.h.otherT e0 (by decide) (by decide) (by decide) hb 0 (.int .i64 op)
  have h2 := h1.otherT e1 (by decide) (by decide) (by decide) hb 1 (.int .i64 n)
  have h3 := h2.otherT e2 (by decide) (by decide) (by decide) hb 2 (.string ⟨#[]⟩)
  have h4 := h3.otherT e3 (by decide) (by decide) (by decide) hb 3 (.bool false)
  have st : ∀ (W : World) (i : Nat) (v : Value), Fr 0 [] [] w W → Fr 0 [] [] w (W.setCell ⟨N, i, none⟩ v) := fun W i v h => h.setCell (a := ⟨N, i, none⟩) (Nat.zero_le _) (.inr (.inl (Nat.le_of_eq hN))) v
  exact ⟨h4, e4, st _ _ _ (st _ _ _ (st _ _ _ (st _ _ _ h.f)))⟩

section
variable {nb base : Nat} {w : World} {p : Nat} {S : Sess} {ov hv : Value} {P : PL} {V : PV}
theorem bd_right {c : ByteArray} (h : Ply base w p S ov hv P V) (hnb : V.bs.length ≤ nb) (ht : Prn P.s.t) (hts : P.s.t.size ≤ 1000) (hk : P.s.k ≤ P.s.t.size) (hc : c.toList = [27, 91, 67]) :
    Calls Tryz.prog 58 #[.pointer (some ⟨p, 0, none⟩), .string c] w (PlyPost nb base p S ov hv (P.st (P.s.doc gRight)) (.tuple #[]) w) := by
  obtain ⟨h0, hc0⟩ := head_of hc
  obtain ⟨N, hN⟩ : ∃ N, w.heap.size = N := ⟨_, rfl⟩
  have hst := fun w => step17_c P.s.t P.s.k ht (by omega) hk w
  have hst : ∀ w, Calls Tryz.prog 99 #[.agg #[.string P.s.t, .int .i64 P.s.k], .agg #[.int .i64 17, .int .i64 0, .string ⟨#[]⟩, .bool false]] w (StepPost (gRight P.s.t P.s.k).1 (gRight P.s.t P.s.k).2 w) := hst
  have hdoc : P.s.doc gRight = { P.s with t := (gRight P.s.t P.s.k).1, k := (gRight P.s.t P.s.k).2 } := rfl
  rw [hdoc]
  obtain ⟨T, hT⟩ : ∃ T, (gRight P.s.t P.s.k).1 = T := ⟨_, rfl⟩
  obtain ⟨q, hq⟩ : ∃ q, (gRight P.s.t P.s.k).2 = q := ⟨_, rfl⟩
  simp only [hT, hq] at hst
  rw [hT, hq]
  clear hT hq hdoc
  have h1 := h.fr0 ((Fr.refl 0 [] [] w).alloc (.cells #[.int .i64 0, .int .i64 0, .string ⟨#[]⟩, .bool false] 151))
  have hE : Blk (w.alloc (.cells #[.int .i64 0, .int .i64 0, .string ⟨#[]⟩, .bool false] 151)) N #[.int .i64 0, .int .i64 0, .string ⟨#[]⟩, .bool false] 151 := Blk.new' hN.symm _ _
  have hFw : Fr 0 [] [] w (w.alloc (.cells #[.int .i64 0, .int .i64 0, .string ⟨#[]⟩, .bool false] 151)) := (Fr.refl 0 [] [] w).alloc _
  have hC := plC h.blk
  have c9 := hC.c9
  have c11 := hC.c11
  have c12 := hC.c12
  have hlt := hC.lt
  rw [hN] at hlt
  have hbw : base ≤ N := by have := h.bw; omega
  clear hC
  cases hpl : S.plain with
  | true =>
    rw [hpl] at c9
    go_enter Tryz.func58, Tryz.ntmps58
    go_wp2_with (fail)
    have hW := StepW.new h hN 17 0
    clear c9 c11 c12 hlt h1 hE hFw
    have hS : (fun w' : World => w'.cell? ⟨p, 11, none⟩ = some (.string P.s.t) ∧ w'.cell? ⟨p, 12, none⟩ = some (.int .i64 P.s.k) ∧ w'.cell? ⟨N, 0, none⟩ = some (.int .i64 17) ∧ w'.cell? ⟨N, 1, none⟩ = some (.int .i64 0) ∧ w'.cell? ⟨N, 2, none⟩ = some (.string ⟨#[]⟩) ∧ w'.cell? ⟨N, 3, none⟩ = some (.bool false)) _ := ⟨(plC hW.h.blk).c11, (plC hW.h.blk).c12, hW.e.cell 0, hW.e.cell 1, hW.e.cell 2, hW.e.cell 3⟩
    refine wp_region_plan [4, 5] [6, 13] (fun w' : World => w'.cell? ⟨p, 11, none⟩ = some (.string P.s.t) ∧ w'.cell? ⟨p, 12, none⟩ = some (.int .i64 P.s.k) ∧ w'.cell? ⟨N, 0, none⟩ = some (.int .i64 17) ∧ w'.cell? ⟨N, 1, none⟩ = some (.int .i64 0) ∧ w'.cell? ⟨N, 2, none⟩ = some (.string ⟨#[]⟩) ∧ w'.cell? ⟨N, 3, none⟩ = some (.bool false)) (.pure 0 (.pure 1 (.pure 2 (.pure 3 (.take 4 (.take 5 (.go 6 (.pure 7 (.pure 8 (.pure 9 (.pure 10 (.pure 11 (.pure 12 (.go 13 .done)))))))))))))) hmix (by kernel_rfl) ?_
    repeat (first | (refine plan_move rfl rfl rfl ?_; (try simp only [Act.put, zq1, zq2, zq3, zq4, zq5, zq6])) | (refine plan_pure (v := ?_) rfl rfl ?_ ?_; rotate_left; (intro w'; go_simp <;> with_reducible rfl); (try simp only [Act.put, zq1, zq2, zq3, zq4, zq5, zq6])) | (refine plan_take (v := ?_) rfl hS rfl ?_ ?_; rotate_left; (intro w' hSw; (try dsimp only at hSw); go_simp <;> with_reducible rfl); (try simp only [Act.put, zq1, zq2, zq3, zq4, zq5, zq6])))
    refine plan_go rfl (by kernel_rfl) rfl (fun K hK => ?_)
    go_simp; refine (hst _).mono ?_; rintro e w2 ⟨x, b, rfl, hF2⟩; have h3 := (hW.h.fr0 ((Fr.refl 0 [] [] _).drew)).fr0 hF2; have hF3 : Fr 0 [] [] w w2 := (hW.f.drew).trans hF2; refine hK _ _ ?_; clear hK K; have e11 := (plC h3.blk).c11; have e12 := (plC h3.blk).c12; have ef11 := h3.blk.frozen 11; have ef12 := h3.blk.frozen 12; have el := h3.blk.lt; (try simp only [Act.put, zq1, zq2, zq3, zq4, zq5, zq6])
    repeat (first | (refine plan_move rfl rfl rfl ?_; (try simp only [Act.put, zq1, zq2, zq3, zq4, zq5, zq6])) | (refine plan_pure (v := ?_) rfl rfl ?_ ?_; rotate_left; (intro w'; go_simp <;> with_reducible rfl); (try simp only [Act.put, zq1, zq2, zq3, zq4, zq5, zq6])))
    refine plan_go rfl (by kernel_rfl) rfl (fun K hK => ?_)
    go_simp; refine hK _ _ ?_; clear hK K; (try simp only [Act.put, zq1, zq2, zq3, zq4, zq5, zq6])
    refine plan_done ?_
    go_wp2_with (fail)
    go_end0
    have y1 := h3.put 11 (.string T) (P' := P.st { P.s with t := T }) (V' := V) rfl rfl rfl rfl rfl ⟨rfl, rfl, rfl, rfl, rfl, rfl⟩ rfl rfl
    have y2 := y1.put 12 (.int .i64 q) (P' := P.st { P.s with t := T, k := q }) (V' := V) rfl rfl rfl rfl rfl ⟨rfl, rfl, rfl, rfl, rfl, rfl⟩ rfl rfl
    exact ⟨rfl, ⟨V, y2, hnb⟩, (hF3.any.trans (h3.putF 11 _)).trans (y1.putF 12 _)⟩
  | false =>
    rw [hpl] at c9
    go_enter Tryz.func58, Tryz.ntmps58
    go_wp2_with (fail)
    have hW := StepW.new h hN 17 0
    clear c9 c11 c12 hlt h1 hE hFw
    have hS : (fun w' : World => w'.cell? ⟨p, 11, none⟩ = some (.string P.s.t) ∧ w'.cell? ⟨p, 12, none⟩ = some (.int .i64 P.s.k) ∧ w'.cell? ⟨N, 0, none⟩ = some (.int .i64 17) ∧ w'.cell? ⟨N, 1, none⟩ = some (.int .i64 0) ∧ w'.cell? ⟨N, 2, none⟩ = some (.string ⟨#[]⟩) ∧ w'.cell? ⟨N, 3, none⟩ = some (.bool false)) _ := ⟨(plC hW.h.blk).c11, (plC hW.h.blk).c12, hW.e.cell 0, hW.e.cell 1, hW.e.cell 2, hW.e.cell 3⟩
    refine wp_region_plan [4, 5] [6, 13] (fun w' : World => w'.cell? ⟨p, 11, none⟩ = some (.string P.s.t) ∧ w'.cell? ⟨p, 12, none⟩ = some (.int .i64 P.s.k) ∧ w'.cell? ⟨N, 0, none⟩ = some (.int .i64 17) ∧ w'.cell? ⟨N, 1, none⟩ = some (.int .i64 0) ∧ w'.cell? ⟨N, 2, none⟩ = some (.string ⟨#[]⟩) ∧ w'.cell? ⟨N, 3, none⟩ = some (.bool false)) (.pure 0 (.pure 1 (.pure 2 (.pure 3 (.take 4 (.take 5 (.go 6 (.pure 7 (.pure 8 (.pure 9 (.pure 10 (.pure 11 (.pure 12 (.go 13 .done)))))))))))))) hmix (by kernel_rfl) ?_
    repeat (first | (refine plan_move rfl rfl rfl ?_; (try simp only [Act.put, zq1, zq2, zq3, zq4, zq5, zq6])) | (refine plan_pure (v := ?_) rfl rfl ?_ ?_; rotate_left; (intro w'; go_simp <;> with_reducible rfl); (try simp only [Act.put, zq1, zq2, zq3, zq4, zq5, zq6])) | (refine plan_take (v := ?_) rfl hS rfl ?_ ?_; rotate_left; (intro w' hSw; (try dsimp only at hSw); go_simp <;> with_reducible rfl); (try simp only [Act.put, zq1, zq2, zq3, zq4, zq5, zq6])))
    refine plan_go rfl (by kernel_rfl) rfl (fun K hK => ?_)
    go_simp; refine (hst _).mono ?_; rintro e w2 ⟨x, b, rfl, hF2⟩; have h3 := (hW.h.fr0 ((Fr.refl 0 [] [] _).drew)).fr0 hF2; have hF3 : Fr 0 [] [] w w2 := (hW.f.drew).trans hF2; refine hK _ _ ?_; clear hK K; have e11 := (plC h3.blk).c11; have e12 := (plC h3.blk).c12; have ef11 := h3.blk.frozen 11; have ef12 := h3.blk.frozen 12; have el := h3.blk.lt; (try simp only [Act.put, zq1, zq2, zq3, zq4, zq5, zq6])
    repeat (first | (refine plan_move rfl rfl rfl ?_; (try simp only [Act.put, zq1, zq2, zq3, zq4, zq5, zq6])) | (refine plan_pure (v := ?_) rfl rfl ?_ ?_; rotate_left; (intro w'; go_simp <;> with_reducible rfl); (try simp only [Act.put, zq1, zq2, zq3, zq4, zq5, zq6])))
    refine plan_go rfl (by kernel_rfl) rfl (fun K hK => ?_)
    go_simp; refine hK _ _ ?_; clear hK K; (try simp only [Act.put, zq1, zq2, zq3, zq4, zq5, zq6])
    refine plan_done ?_
    go_wp2_with (fail)
    go_end0
    have y1 := h3.put 11 (.string T) (P' := P.st { P.s with t := T }) (V' := V) rfl rfl rfl rfl rfl ⟨rfl, rfl, rfl, rfl, rfl, rfl⟩ rfl rfl
    have y2 := y1.put 12 (.int .i64 q) (P' := P.st { P.s with t := T, k := q }) (V' := V) rfl rfl rfl rfl rfl ⟨rfl, rfl, rfl, rfl, rfl, rfl⟩ rfl rfl
    exact ⟨rfl, ⟨V, y2, hnb⟩, (hF3.any.trans (h3.putF 11 _)).trans (y1.putF 12 _)⟩
theorem bd_ctlF {c : ByteArray} (h : Ply base w p S ov hv P V) (hnb : V.bs.length ≤ nb) (ht : Prn P.s.t) (hts : P.s.t.size ≤ 1000) (hk : P.s.k ≤ P.s.t.size) (hc : c.toList = [6]) (hpl : S.plain = false) :
    Calls Tryz.prog 58 #[.pointer (some ⟨p, 0, none⟩), .string c] w (PlyPost nb base p S ov hv (P.st (P.s.doc gRight)) (.tuple #[]) w) := by
  obtain ⟨h0, hc0⟩ := head_of hc
  obtain ⟨N, hN⟩ : ∃ N, w.heap.size = N := ⟨_, rfl⟩
  have hst := fun w => step17_c P.s.t P.s.k ht (by omega) hk w
  have hst : ∀ w, Calls Tryz.prog 99 #[.agg #[.string P.s.t, .int .i64 P.s.k], .agg #[.int .i64 17, .int .i64 0, .string ⟨#[]⟩, .bool false]] w (StepPost (gRight P.s.t P.s.k).1 (gRight P.s.t P.s.k).2 w) := hst
  have hdoc : P.s.doc gRight = { P.s with t := (gRight P.s.t P.s.k).1, k := (gRight P.s.t P.s.k).2 } := rfl
  rw [hdoc]
  obtain ⟨T, hT⟩ : ∃ T, (gRight P.s.t P.s.k).1 = T := ⟨_, rfl⟩
  obtain ⟨q, hq⟩ : ∃ q, (gRight P.s.t P.s.k).2 = q := ⟨_, rfl⟩
  simp only [hT, hq] at hst
  rw [hT, hq]
  clear hT hq hdoc
  have h1 := h.fr0 ((Fr.refl 0 [] [] w).alloc (.cells #[.int .i64 0, .int .i64 0, .string ⟨#[]⟩, .bool false] 151))
  have hE : Blk (w.alloc (.cells #[.int .i64 0, .int .i64 0, .string ⟨#[]⟩, .bool false] 151)) N #[.int .i64 0, .int .i64 0, .string ⟨#[]⟩, .bool false] 151 := Blk.new' hN.symm _ _
  have hFw : Fr 0 [] [] w (w.alloc (.cells #[.int .i64 0, .int .i64 0, .string ⟨#[]⟩, .bool false] 151)) := (Fr.refl 0 [] [] w).alloc _
  have hC := plC h.blk
  have c9 := hC.c9
  have c11 := hC.c11
  have c12 := hC.c12
  have hlt := hC.lt
  rw [hN] at hlt
  have hbw : base ≤ N := by have := h.bw; omega
  clear hC
  rw [hpl] at c9
  go_enter Tryz.func58, Tryz.ntmps58
  go_wp2_with (fail)
  have hW := StepW.new h hN 17 0
  clear c9 c11 c12 hlt h1 hE hFw
  have hS : (fun w' : World => w'.cell? ⟨p, 11, none⟩ = some (.string P.s.t) ∧ w'.cell? ⟨p, 12, none⟩ = some (.int .i64 P.s.k) ∧ w'.cell? ⟨N, 0, none⟩ = some (.int .i64 17) ∧ w'.cell? ⟨N, 1, none⟩ = some (.int .i64 0) ∧ w'.cell? ⟨N, 2, none⟩ = some (.string ⟨#[]⟩) ∧ w'.cell? ⟨N, 3, none⟩ = some (.bool false)) _ := ⟨(plC hW.h.blk).c11, (plC hW.h.blk).c12, hW.e.cell 0, hW.e.cell 1, hW.e.cell 2, hW.e.cell 3⟩
  refine wp_region_plan [4, 5] [6, 13] (fun w' : World => w'.cell? ⟨p, 11, none⟩ = some (.string P.s.t) ∧ w'.cell? ⟨p, 12, none⟩ = some (.int .i64 P.s.k) ∧ w'.cell? ⟨N, 0, none⟩ = some (.int .i64 17) ∧ w'.cell? ⟨N, 1, none⟩ = some (.int .i64 0) ∧ w'.cell? ⟨N, 2, none⟩ = some (.string ⟨#[]⟩) ∧ w'.cell? ⟨N, 3, none⟩ = some (.bool false)) (.pure 0 (.pure 1 (.pure 2 (.pure 3 (.take 4 (.take 5 (.go 6 (.pure 7 (.pure 8 (.pure 9 (.pure 10 (.pure 11 (.pure 12 (.go 13 .done)))))))))))))) hmix (by kernel_rfl) ?_
  repeat (first | (refine plan_move rfl rfl rfl ?_; (try simp only [Act.put, zq1, zq2, zq3, zq4, zq5, zq6])) | (refine plan_pure (v := ?_) rfl rfl ?_ ?_; rotate_left; (intro w'; go_simp <;> with_reducible rfl); (try simp only [Act.put, zq1, zq2, zq3, zq4, zq5, zq6])) | (refine plan_take (v := ?_) rfl hS rfl ?_ ?_; rotate_left; (intro w' hSw; (try dsimp only at hSw); go_simp <;> with_reducible rfl); (try simp only [Act.put, zq1, zq2, zq3, zq4, zq5, zq6])))
  refine plan_go rfl (by kernel_rfl) rfl (fun K hK => ?_)
  go_simp; refine (hst _).mono ?_; rintro e w2 ⟨x, b, rfl, hF2⟩; have h3 := (hW.h.fr0 ((Fr.refl 0 [] [] _).drew)).fr0 hF2; have hF3 : Fr 0 [] [] w w2 := (hW.f.drew).trans hF2; refine hK _ _ ?_; clear hK K; have e11 := (plC h3.blk).c11; have e12 := (plC h3.blk).c12; have ef11 := h3.blk.frozen 11; have ef12 := h3.blk.frozen 12; have el := h3.blk.lt; (try simp only [Act.put, zq1, zq2, zq3, zq4, zq5, zq6])
  repeat (first | (refine plan_move rfl rfl rfl ?_; (try simp only [Act.put, zq1, zq2, zq3, zq4, zq5, zq6])) | (refine plan_pure (v := ?_) rfl rfl ?_ ?_; rotate_left; (intro w'; go_simp <;> with_reducible rfl); (try simp only [Act.put, zq1, zq2, zq3, zq4, zq5, zq6])))
  refine plan_go rfl (by kernel_rfl) rfl (fun K hK => ?_)
  go_simp; refine hK _ _ ?_; clear hK K; (try simp only [Act.put, zq1, zq2, zq3, zq4, zq5, zq6])
  refine plan_done ?_
  go_wp2_with (fail)
  go_end0
  have y1 := h3.put 11 (.string T) (P' := P.st { P.s with t := T }) (V' := V) rfl rfl rfl rfl rfl ⟨rfl, rfl, rfl, rfl, rfl, rfl⟩ rfl rfl
  have y2 := y1.put 12 (.int .i64 q) (P' := P.st { P.s with t := T, k := q }) (V' := V) rfl rfl rfl rfl rfl ⟨rfl, rfl, rfl, rfl, rfl, rfl⟩ rfl rfl
  exact ⟨rfl, ⟨V, y2, hnb⟩, (hF3.any.trans (h3.putF 11 _)).trans (y1.putF 12 _)⟩
theorem bd_left {c : ByteArray} (h : Ply base w p S ov hv P V) (hnb : V.bs.length ≤ nb) (ht : Prn P.s.t) (hts : P.s.t.size ≤ 1000) (hk : P.s.k ≤ P.s.t.size) (hc : c.toList = [27, 91, 68]) :
    Calls Tryz.prog 58 #[.pointer (some ⟨p, 0, none⟩), .string c] w (PlyPost nb base p S ov hv (P.st (P.s.doc gLeft)) (.tuple #[]) w) := by
  obtain ⟨h0, hc0⟩ := head_of hc
  obtain ⟨N, hN⟩ : ∃ N, w.heap.size = N := ⟨_, rfl⟩
  have hst := fun w => step18_c P.s.t P.s.k ht (by omega) hk w
  have hst : ∀ w, Calls Tryz.prog 99 #[.agg #[.string P.s.t, .int .i64 P.s.k], .agg #[.int .i64 18, .int .i64 0, .string ⟨#[]⟩, .bool false]] w (StepPost (gLeft P.s.t P.s.k).1 (gLeft P.s.t P.s.k).2 w) := hst
  have hdoc : P.s.doc gLeft = { P.s with t := (gLeft P.s.t P.s.k).1, k := (gLeft P.s.t P.s.k).2 } := rfl
  rw [hdoc]
  obtain ⟨T, hT⟩ : ∃ T, (gLeft P.s.t P.s.k).1 = T := ⟨_, rfl⟩
  obtain ⟨q, hq⟩ : ∃ q, (gLeft P.s.t P.s.k).2 = q := ⟨_, rfl⟩
  simp only [hT, hq] at hst
  rw [hT, hq]
  clear hT hq hdoc
  have h1 := h.fr0 ((Fr.refl 0 [] [] w).alloc (.cells #[.int .i64 0, .int .i64 0, .string ⟨#[]⟩, .bool false] 151))
  have hE : Blk (w.alloc (.cells #[.int .i64 0, .int .i64 0, .string ⟨#[]⟩, .bool false] 151)) N #[.int .i64 0, .int .i64 0, .string ⟨#[]⟩, .bool false] 151 := Blk.new' hN.symm _ _
  have hFw : Fr 0 [] [] w (w.alloc (.cells #[.int .i64 0, .int .i64 0, .string ⟨#[]⟩, .bool false] 151)) := (Fr.refl 0 [] [] w).alloc _
  have hC := plC h.blk
  have c9 := hC.c9
  have c11 := hC.c11
  have c12 := hC.c12
  have hlt := hC.lt
  rw [hN] at hlt
  have hbw : base ≤ N := by have := h.bw; omega
  clear hC
  cases hpl : S.plain with
  | true =>
    rw [hpl] at c9
    go_enter Tryz.func58, Tryz.ntmps58
    go_wp2_with (fail)
    have hW := StepW.new h hN 18 0
    clear c9 c11 c12 hlt h1 hE hFw
    have hS : (fun w' : World => w'.cell? ⟨p, 11, none⟩ = some (.string P.s.t) ∧ w'.cell? ⟨p, 12, none⟩ = some (.int .i64 P.s.k) ∧ w'.cell? ⟨N, 0, none⟩ = some (.int .i64 18) ∧ w'.cell? ⟨N, 1, none⟩ = some (.int .i64 0) ∧ w'.cell? ⟨N, 2, none⟩ = some (.string ⟨#[]⟩) ∧ w'.cell? ⟨N, 3, none⟩ = some (.bool false)) _ := ⟨(plC hW.h.blk).c11, (plC hW.h.blk).c12, hW.e.cell 0, hW.e.cell 1, hW.e.cell 2, hW.e.cell 3⟩
    refine wp_region_plan [4, 5] [6, 13] (fun w' : World => w'.cell? ⟨p, 11, none⟩ = some (.string P.s.t) ∧ w'.cell? ⟨p, 12, none⟩ = some (.int .i64 P.s.k) ∧ w'.cell? ⟨N, 0, none⟩ = some (.int .i64 18) ∧ w'.cell? ⟨N, 1, none⟩ = some (.int .i64 0) ∧ w'.cell? ⟨N, 2, none⟩ = some (.string ⟨#[]⟩) ∧ w'.cell? ⟨N, 3, none⟩ = some (.bool false)) (.pure 0 (.pure 1 (.pure 2 (.pure 3 (.take 4 (.take 5 (.go 6 (.pure 7 (.pure 8 (.pure 9 (.pure 10 (.pure 11 (.pure 12 (.go 13 .done)))))))))))))) hmix (by kernel_rfl) ?_
    repeat (first | (refine plan_move rfl rfl rfl ?_; (try simp only [Act.put, zq1, zq2, zq3, zq4, zq5, zq6])) | (refine plan_pure (v := ?_) rfl rfl ?_ ?_; rotate_left; (intro w'; go_simp <;> with_reducible rfl); (try simp only [Act.put, zq1, zq2, zq3, zq4, zq5, zq6])) | (refine plan_take (v := ?_) rfl hS rfl ?_ ?_; rotate_left; (intro w' hSw; (try dsimp only at hSw); go_simp <;> with_reducible rfl); (try simp only [Act.put, zq1, zq2, zq3, zq4, zq5, zq6])))
    refine plan_go rfl (by kernel_rfl) rfl (fun K hK => ?_)
    go_simp; refine (hst _).mono ?_; rintro e w2 ⟨x, b, rfl, hF2⟩; have h3 := (hW.h.fr0 ((Fr.refl 0 [] [] _).drew)).fr0 hF2; have hF3 : Fr 0 [] [] w w2 := (hW.f.drew).trans hF2; refine hK _ _ ?_; clear hK K; have e11 := (plC h3.blk).c11; have e12 := (plC h3.blk).c12; have ef11 := h3.blk.frozen 11; have ef12 := h3.blk.frozen 12; have el := h3.blk.lt; (try simp only [Act.put, zq1, zq2, zq3, zq4, zq5, zq6])
    repeat (first | (refine plan_move rfl rfl rfl ?_; (try simp only [Act.put, zq1, zq2, zq3, zq4, zq5, zq6])) | (refine plan_pure (v := ?_) rfl rfl ?_ ?_; rotate_left; (intro w'; go_simp <;> with_reducible rfl); (try simp only [Act.put, zq1, zq2, zq3, zq4, zq5, zq6])))
    refine plan_go rfl (by kernel_rfl) rfl (fun K hK => ?_)
    go_simp; refine hK _ _ ?_; clear hK K; (try simp only [Act.put, zq1, zq2, zq3, zq4, zq5, zq6])
    refine plan_done ?_
    go_wp2_with (fail)
    go_end0
    have y1 := h3.put 11 (.string T) (P' := P.st { P.s with t := T }) (V' := V) rfl rfl rfl rfl rfl ⟨rfl, rfl, rfl, rfl, rfl, rfl⟩ rfl rfl
    have y2 := y1.put 12 (.int .i64 q) (P' := P.st { P.s with t := T, k := q }) (V' := V) rfl rfl rfl rfl rfl ⟨rfl, rfl, rfl, rfl, rfl, rfl⟩ rfl rfl
    exact ⟨rfl, ⟨V, y2, hnb⟩, (hF3.any.trans (h3.putF 11 _)).trans (y1.putF 12 _)⟩
  | false =>
    rw [hpl] at c9
    go_enter Tryz.func58, Tryz.ntmps58
    go_wp2_with (fail)
    have hW := StepW.new h hN 18 0
    clear c9 c11 c12 hlt h1 hE hFw
    have hS : (fun w' : World => w'.cell? ⟨p, 11, none⟩ = some (.string P.s.t) ∧ w'.cell? ⟨p, 12, none⟩ = some (.int .i64 P.s.k) ∧ w'.cell? ⟨N, 0, none⟩ = some (.int .i64 18) ∧ w'.cell? ⟨N, 1, none⟩ = some (.int .i64 0) ∧ w'.cell? ⟨N, 2, none⟩ = some (.string ⟨#[]⟩) ∧ w'.cell? ⟨N, 3, none⟩ = some (.bool false)) _ := ⟨(plC hW.h.blk).c11, (plC hW.h.blk).c12, hW.e.cell 0, hW.e.cell 1, hW.e.cell 2, hW.e.cell 3⟩
    refine wp_region_plan [4, 5] [6, 13] (fun w' : World => w'.cell? ⟨p, 11, none⟩ = some (.string P.s.t) ∧ w'.cell? ⟨p, 12, none⟩ = some (.int .i64 P.s.k) ∧ w'.cell? ⟨N, 0, none⟩ = some (.int .i64 18) ∧ w'.cell? ⟨N, 1, none⟩ = some (.int .i64 0) ∧ w'.cell? ⟨N, 2, none⟩ = some (.string ⟨#[]⟩) ∧ w'.cell? ⟨N, 3, none⟩ = some (.bool false)) (.pure 0 (.pure 1 (.pure 2 (.pure 3 (.take 4 (.take 5 (.go 6 (.pure 7 (.pure 8 (.pure 9 (.pure 10 (.pure 11 (.pure 12 (.go 13 .done)))))))))))))) hmix (by kernel_rfl) ?_
    repeat (first | (refine plan_move rfl rfl rfl ?_; (try simp only [Act.put, zq1, zq2, zq3, zq4, zq5, zq6])) | (refine plan_pure (v := ?_) rfl rfl ?_ ?_; rotate_left; (intro w'; go_simp <;> with_reducible rfl); (try simp only [Act.put, zq1, zq2, zq3, zq4, zq5, zq6])) | (refine plan_take (v := ?_) rfl hS rfl ?_ ?_; rotate_left; (intro w' hSw; (try dsimp only at hSw); go_simp <;> with_reducible rfl); (try simp only [Act.put, zq1, zq2, zq3, zq4, zq5, zq6])))
    refine plan_go rfl (by kernel_rfl) rfl (fun K hK => ?_)
    go_simp; refine (hst _).mono ?_; rintro e w2 ⟨x, b, rfl, hF2⟩; have h3 := (hW.h.fr0 ((Fr.refl 0 [] [] _).drew)).fr0 hF2; have hF3 : Fr 0 [] [] w w2 := (hW.f.drew).trans hF2; refine hK _ _ ?_; clear hK K; have e11 := (plC h3.blk).c11; have e12 := (plC h3.blk).c12; have ef11 := h3.blk.frozen 11; have ef12 := h3.blk.frozen 12; have el := h3.blk.lt; (try simp only [Act.put, zq1, zq2, zq3, zq4, zq5, zq6])
    repeat (first | (refine plan_move rfl rfl rfl ?_; (try simp only [Act.put, zq1, zq2, zq3, zq4, zq5, zq6])) | (refine plan_pure (v := ?_) rfl rfl ?_ ?_; rotate_left; (intro w'; go_simp <;> with_reducible rfl); (try simp only [Act.put, zq1, zq2, zq3, zq4, zq5, zq6])))
    refine plan_go rfl (by kernel_rfl) rfl (fun K hK => ?_)
    go_simp; refine hK _ _ ?_; clear hK K; (try simp only [Act.put, zq1, zq2, zq3, zq4, zq5, zq6])
    refine plan_done ?_
    go_wp2_with (fail)
    go_end0
    have y1 := h3.put 11 (.string T) (P' := P.st { P.s with t := T }) (V' := V) rfl rfl rfl rfl rfl ⟨rfl, rfl, rfl, rfl, rfl, rfl⟩ rfl rfl
    have y2 := y1.put 12 (.int .i64 q) (P' := P.st { P.s with t := T, k := q }) (V' := V) rfl rfl rfl rfl rfl ⟨rfl, rfl, rfl, rfl, rfl, rfl⟩ rfl rfl
    exact ⟨rfl, ⟨V, y2, hnb⟩, (hF3.any.trans (h3.putF 11 _)).trans (y1.putF 12 _)⟩
theorem bd_ctlB {c : ByteArray} (h : Ply base w p S ov hv P V) (hnb : V.bs.length ≤ nb) (ht : Prn P.s.t) (hts : P.s.t.size ≤ 1000) (hk : P.s.k ≤ P.s.t.size) (hc : c.toList = [2]) (hpl : S.plain = false) :
    Calls Tryz.prog 58 #[.pointer (some ⟨p, 0, none⟩), .string c] w (PlyPost nb base p S ov hv (P.st (P.s.doc gLeft)) (.tuple #[]) w) := by
  obtain ⟨h0, hc0⟩ := head_of hc
  obtain ⟨N, hN⟩ : ∃ N, w.heap.size = N := ⟨_, rfl⟩
  have hst := fun w => step18_c P.s.t P.s.k ht (by omega) hk w
  have hst : ∀ w, Calls Tryz.prog 99 #[.agg #[.string P.s.t, .int .i64 P.s.k], .agg #[.int .i64 18, .int .i64 0, .string ⟨#[]⟩, .bool false]] w (StepPost (gLeft P.s.t P.s.k).1 (gLeft P.s.t P.s.k).2 w) := hst
  have hdoc : P.s.doc gLeft = { P.s with t := (gLeft P.s.t P.s.k).1, k := (gLeft P.s.t P.s.k).2 } := rfl
  rw [hdoc]
  obtain ⟨T, hT⟩ : ∃ T, (gLeft P.s.t P.s.k).1 = T := ⟨_, rfl⟩
  obtain ⟨q, hq⟩ : ∃ q, (gLeft P.s.t P.s.k).2 = q := ⟨_, rfl⟩
  simp only [hT, hq] at hst
  rw [hT, hq]
  clear hT hq hdoc
  have h1 := h.fr0 ((Fr.refl 0 [] [] w).alloc (.cells #[.int .i64 0, .int .i64 0, .string ⟨#[]⟩, .bool false] 151))
  have hE : Blk (w.alloc (.cells #[.int .i64 0, .int .i64 0, .string ⟨#[]⟩, .bool false] 151)) N #[.int .i64 0, .int .i64 0, .string ⟨#[]⟩, .bool false] 151 := Blk.new' hN.symm _ _
  have hFw : Fr 0 [] [] w (w.alloc (.cells #[.int .i64 0, .int .i64 0, .string ⟨#[]⟩, .bool false] 151)) := (Fr.refl 0 [] [] w).alloc _
  have hC := plC h.blk
  have c9 := hC.c9
  have c11 := hC.c11
  have c12 := hC.c12
  have hlt := hC.lt
  rw [hN] at hlt
  have hbw : base ≤ N := by have := h.bw; omega
  clear hC
  rw [hpl] at c9
  go_enter Tryz.func58, Tryz.ntmps58
  go_wp2_with (fail)
  have hW := StepW.new h hN 18 0
  clear c9 c11 c12 hlt h1 hE hFw
  have hS : (fun w' : World => w'.cell? ⟨p, 11, none⟩ = some (.string P.s.t) ∧ w'.cell? ⟨p, 12, none⟩ = some (.int .i64 P.s.k) ∧ w'.cell? ⟨N, 0, none⟩ = some (.int .i64 18) ∧ w'.cell? ⟨N, 1, none⟩ = some (.int .i64 0) ∧ w'.cell? ⟨N, 2, none⟩ = some (.string ⟨#[]⟩) ∧ w'.cell? ⟨N, 3, none⟩ = some (.bool false)) _ := ⟨(plC hW.h.blk).c11, (plC hW.h.blk).c12, hW.e.cell 0, hW.e.cell 1, hW.e.cell 2, hW.e.cell 3⟩
  refine wp_region_plan [4, 5] [6, 13] (fun w' : World => w'.cell? ⟨p, 11, none⟩ = some (.string P.s.t) ∧ w'.cell? ⟨p, 12, none⟩ = some (.int .i64 P.s.k) ∧ w'.cell? ⟨N, 0, none⟩ = some (.int .i64 18) ∧ w'.cell? ⟨N, 1, none⟩ = some (.int .i64 0) ∧ w'.cell? ⟨N, 2, none⟩ = some (.string ⟨#[]⟩) ∧ w'.cell? ⟨N, 3, none⟩ = some (.bool false)) (.pure 0 (.pure 1 (.pure 2 (.pure 3 (.take 4 (.take 5 (.go 6 (.pure 7 (.pure 8 (.pure 9 (.pure 10 (.pure 11 (.pure 12 (.go 13 .done)))))))))))))) hmix (by kernel_rfl) ?_
  repeat (first | (refine plan_move rfl rfl rfl ?_; (try simp only [Act.put, zq1, zq2, zq3, zq4, zq5, zq6])) | (refine plan_pure (v := ?_) rfl rfl ?_ ?_; rotate_left; (intro w'; go_simp <;> with_reducible rfl); (try simp only [Act.put, zq1, zq2, zq3, zq4, zq5, zq6])) | (refine plan_take (v := ?_) rfl hS rfl ?_ ?_; rotate_left; (intro w' hSw; (try dsimp only at hSw); go_simp <;> with_reducible rfl); (try simp only [Act.put, zq1, zq2, zq3, zq4, zq5, zq6])))
  refine plan_go rfl (by kernel_rfl) rfl (fun K hK => ?_)
  go_simp; refine (hst _).mono ?_; rintro e w2 ⟨x, b, rfl, hF2⟩; have h3 := (hW.h.fr0 ((Fr.refl 0 [] [] _).drew)).fr0 hF2; have hF3 : Fr 0 [] [] w w2 := (hW.f.drew).trans hF2; refine hK _ _ ?_; clear hK K; have e11 := (plC h3.blk).c11; have e12 := (plC h3.blk).c12; have ef11 := h3.blk.frozen 11; have ef12 := h3.blk.frozen 12; have el := h3.blk.lt; (try simp only [Act.put, zq1, zq2, zq3, zq4, zq5, zq6])
  repeat (first | (refine plan_move rfl rfl rfl ?_; (try simp only [Act.put, zq1, zq2, zq3, zq4, zq5, zq6])) | (refine plan_pure (v := ?_) rfl rfl ?_ ?_; rotate_left; (intro w'; go_simp <;> with_reducible rfl); (try simp only [Act.put, zq1, zq2, zq3, zq4, zq5, zq6])))
  refine plan_go rfl (by kernel_rfl) rfl (fun K hK => ?_)
  go_simp; refine hK _ _ ?_; clear hK K; (try simp only [Act.put, zq1, zq2, zq3, zq4, zq5, zq6])
  refine plan_done ?_
  go_wp2_with (fail)
  go_end0
  have y1 := h3.put 11 (.string T) (P' := P.st { P.s with t := T }) (V' := V) rfl rfl rfl rfl rfl ⟨rfl, rfl, rfl, rfl, rfl, rfl⟩ rfl rfl
  have y2 := y1.put 12 (.int .i64 q) (P' := P.st { P.s with t := T, k := q }) (V' := V) rfl rfl rfl rfl rfl ⟨rfl, rfl, rfl, rfl, rfl, rfl⟩ rfl rfl
  exact ⟨rfl, ⟨V, y2, hnb⟩, (hF3.any.trans (h3.putF 11 _)).trans (y1.putF 12 _)⟩
theorem bd_del {c : ByteArray} (h : Ply base w p S ov hv P V) (hnb : V.bs.length ≤ nb) (ht : Prn P.s.t) (hts : P.s.t.size ≤ 1000) (hk : P.s.k ≤ P.s.t.size) (hc : c.toList = [27, 91, 51, 126]) :
    Calls Tryz.prog 58 #[.pointer (some ⟨p, 0, none⟩), .string c] w (PlyPost nb base p S ov hv (P.st (P.s.doc gDel)) (.tuple #[]) w) := by
  obtain ⟨h0, hc0⟩ := head_of hc
  obtain ⟨N, hN⟩ : ∃ N, w.heap.size = N := ⟨_, rfl⟩
  have hst := fun w => step14_c P.s.t P.s.k ht (by omega) hk w
  simp only [del_eq P.s.t P.s.k hk] at hst
  have hst : ∀ w, Calls Tryz.prog 99 #[.agg #[.string P.s.t, .int .i64 P.s.k], .agg #[.int .i64 14, .int .i64 0, .string ⟨#[]⟩, .bool false]] w (StepPost (gDel P.s.t P.s.k).1 (gDel P.s.t P.s.k).2 w) := hst
  have hdoc : P.s.doc gDel = { P.s with t := (gDel P.s.t P.s.k).1, k := (gDel P.s.t P.s.k).2 } := rfl
  rw [hdoc]
  obtain ⟨T, hT⟩ : ∃ T, (gDel P.s.t P.s.k).1 = T := ⟨_, rfl⟩
  obtain ⟨q, hq⟩ : ∃ q, (gDel P.s.t P.s.k).2 = q := ⟨_, rfl⟩
  simp only [hT, hq] at hst
  rw [hT, hq]
  clear hT hq hdoc
  have h1 := h.fr0 ((Fr.refl 0 [] [] w).alloc (.cells #[.int .i64 0, .int .i64 0, .string ⟨#[]⟩, .bool false] 151))
  have hE : Blk (w.alloc (.cells #[.int .i64 0, .int .i64 0, .string ⟨#[]⟩, .bool false] 151)) N #[.int .i64 0, .int .i64 0, .string ⟨#[]⟩, .bool false] 151 := Blk.new' hN.symm _ _
  have hFw : Fr 0 [] [] w (w.alloc (.cells #[.int .i64 0, .int .i64 0, .string ⟨#[]⟩, .bool false] 151)) := (Fr.refl 0 [] [] w).alloc _
  have hC := plC h.blk
  have c9 := hC.c9
  have c11 := hC.c11
  have c12 := hC.c12
  have hlt := hC.lt
  rw [hN] at hlt
  have hbw : base ≤ N := by have := h.bw; omega
  clear hC
  cases hpl : S.plain with
  | true =>
    rw [hpl] at c9
    go_enter Tryz.func58, Tryz.ntmps58
    go_wp2_with (fail)
    have hW := StepW.new h hN 14 0
    clear c9 c11 c12 hlt h1 hE hFw
    have hS : (fun w' : World => w'.cell? ⟨p, 11, none⟩ = some (.string P.s.t) ∧ w'.cell? ⟨p, 12, none⟩ = some (.int .i64 P.s.k) ∧ w'.cell? ⟨N, 0, none⟩ = some (.int .i64 14) ∧ w'.cell? ⟨N, 1, none⟩ = some (.int .i64 0) ∧ w'.cell? ⟨N, 2, none⟩ = some (.string ⟨#[]⟩) ∧ w'.cell? ⟨N, 3, none⟩ = some (.bool false)) _ := ⟨(plC hW.h.blk).c11, (plC hW.h.blk).c12, hW.e.cell 0, hW.e.cell 1, hW.e.cell 2, hW.e.cell 3⟩
    refine wp_region_plan [4, 5] [6, 13] (fun w' : World => w'.cell? ⟨p, 11, none⟩ = some (.string P.s.t) ∧ w'.cell? ⟨p, 12, none⟩ = some (.int .i64 P.s.k) ∧ w'.cell? ⟨N, 0, none⟩ = some (.int .i64 14) ∧ w'.cell? ⟨N, 1, none⟩ = some (.int .i64 0) ∧ w'.cell? ⟨N, 2, none⟩ = some (.string ⟨#[]⟩) ∧ w'.cell? ⟨N, 3, none⟩ = some (.bool false)) (.pure 0 (.pure 1 (.pure 2 (.pure 3 (.take 4 (.take 5 (.go 6 (.pure 7 (.pure 8 (.pure 9 (.pure 10 (.pure 11 (.pure 12 (.go 13 .done)))))))))))))) hmix (by kernel_rfl) ?_
    repeat (first | (refine plan_move rfl rfl rfl ?_; (try simp only [Act.put, zq1, zq2, zq3, zq4, zq5, zq6])) | (refine plan_pure (v := ?_) rfl rfl ?_ ?_; rotate_left; (intro w'; go_simp <;> with_reducible rfl); (try simp only [Act.put, zq1, zq2, zq3, zq4, zq5, zq6])) | (refine plan_take (v := ?_) rfl hS rfl ?_ ?_; rotate_left; (intro w' hSw; (try dsimp only at hSw); go_simp <;> with_reducible rfl); (try simp only [Act.put, zq1, zq2, zq3, zq4, zq5, zq6])))
    refine plan_go rfl (by kernel_rfl) rfl (fun K hK => ?_)
    go_simp; refine (hst _).mono ?_; rintro e w2 ⟨x, b, rfl, hF2⟩; have h3 := (hW.h.fr0 ((Fr.refl 0 [] [] _).drew)).fr0 hF2; have hF3 : Fr 0 [] [] w w2 := (hW.f.drew).trans hF2; refine hK _ _ ?_; clear hK K; have e11 := (plC h3.blk).c11; have e12 := (plC h3.blk).c12; have ef11 := h3.blk.frozen 11; have ef12 := h3.blk.frozen 12; have el := h3.blk.lt; (try simp only [Act.put, zq1, zq2, zq3, zq4, zq5, zq6])
    repeat (first | (refine plan_move rfl rfl rfl ?_; (try simp only [Act.put, zq1, zq2, zq3, zq4, zq5, zq6])) | (refine plan_pure (v := ?_) rfl rfl ?_ ?_; rotate_left; (intro w'; go_simp <;> with_reducible rfl); (try simp only [Act.put, zq1, zq2, zq3, zq4, zq5, zq6])))
    refine plan_go rfl (by kernel_rfl) rfl (fun K hK => ?_)
    go_simp; refine hK _ _ ?_; clear hK K; (try simp only [Act.put, zq1, zq2, zq3, zq4, zq5, zq6])
    refine plan_done ?_
    go_wp2_with (fail)
    go_end0
    have y1 := h3.put 11 (.string T) (P' := P.st { P.s with t := T }) (V' := V) rfl rfl rfl rfl rfl ⟨rfl, rfl, rfl, rfl, rfl, rfl⟩ rfl rfl
    have y2 := y1.put 12 (.int .i64 q) (P' := P.st { P.s with t := T, k := q }) (V' := V) rfl rfl rfl rfl rfl ⟨rfl, rfl, rfl, rfl, rfl, rfl⟩ rfl rfl
    exact ⟨rfl, ⟨V, y2, hnb⟩, (hF3.any.trans (h3.putF 11 _)).trans (y1.putF 12 _)⟩
  | false =>
    rw [hpl] at c9
    go_enter Tryz.func58, Tryz.ntmps58
    go_wp2_with (fail)
    have hW := StepW.new h hN 14 0
    clear c9 c11 c12 hlt h1 hE hFw
    have hS : (fun w' : World => w'.cell? ⟨p, 11, none⟩ = some (.string P.s.t) ∧ w'.cell? ⟨p, 12, none⟩ = some (.int .i64 P.s.k) ∧ w'.cell? ⟨N, 0, none⟩ = some (.int .i64 14) ∧ w'.cell? ⟨N, 1, none⟩ = some (.int .i64 0) ∧ w'.cell? ⟨N, 2, none⟩ = some (.string ⟨#[]⟩) ∧ w'.cell? ⟨N, 3, none⟩ = some (.bool false)) _ := ⟨(plC hW.h.blk).c11, (plC hW.h.blk).c12, hW.e.cell 0, hW.e.cell 1, hW.e.cell 2, hW.e.cell 3⟩
    refine wp_region_plan [4, 5] [6, 13] (fun w' : World => w'.cell? ⟨p, 11, none⟩ = some (.string P.s.t) ∧ w'.cell? ⟨p, 12, none⟩ = some (.int .i64 P.s.k) ∧ w'.cell? ⟨N, 0, none⟩ = some (.int .i64 14) ∧ w'.cell? ⟨N, 1, none⟩ = some (.int .i64 0) ∧ w'.cell? ⟨N, 2, none⟩ = some (.string ⟨#[]⟩) ∧ w'.cell? ⟨N, 3, none⟩ = some (.bool false)) (.pure 0 (.pure 1 (.pure 2 (.pure 3 (.take 4 (.take 5 (.go 6 (.pure 7 (.pure 8 (.pure 9 (.pure 10 (.pure 11 (.pure 12 (.go 13 .done)))))))))))))) hmix (by kernel_rfl) ?_
    repeat (first | (refine plan_move rfl rfl rfl ?_; (try simp only [Act.put, zq1, zq2, zq3, zq4, zq5, zq6])) | (refine plan_pure (v := ?_) rfl rfl ?_ ?_; rotate_left; (intro w'; go_simp <;> with_reducible rfl); (try simp only [Act.put, zq1, zq2, zq3, zq4, zq5, zq6])) | (refine plan_take (v := ?_) rfl hS rfl ?_ ?_; rotate_left; (intro w' hSw; (try dsimp only at hSw); go_simp <;> with_reducible rfl); (try simp only [Act.put, zq1, zq2, zq3, zq4, zq5, zq6])))
    refine plan_go rfl (by kernel_rfl) rfl (fun K hK => ?_)
    go_simp; refine (hst _).mono ?_; rintro e w2 ⟨x, b, rfl, hF2⟩; have h3 := (hW.h.fr0 ((Fr.refl 0 [] [] _).drew)).fr0 hF2; have hF3 : Fr 0 [] [] w w2 := (hW.f.drew).trans hF2; refine hK _ _ ?_; clear hK K; have e11 := (plC h3.blk).c11; have e12 := (plC h3.blk).c12; have ef11 := h3.blk.frozen 11; have ef12 := h3.blk.frozen 12; have el := h3.blk.lt; (try simp only [Act.put, zq1, zq2, zq3, zq4, zq5, zq6])
    repeat (first | (refine plan_move rfl rfl rfl ?_; (try simp only [Act.put, zq1, zq2, zq3, zq4, zq5, zq6])) | (refine plan_pure (v := ?_) rfl rfl ?_ ?_; rotate_left; (intro w'; go_simp <;> with_reducible rfl); (try simp only [Act.put, zq1, zq2, zq3, zq4, zq5, zq6])))
    refine plan_go rfl (by kernel_rfl) rfl (fun K hK => ?_)
    go_simp; refine hK _ _ ?_; clear hK K; (try simp only [Act.put, zq1, zq2, zq3, zq4, zq5, zq6])
    refine plan_done ?_
    go_wp2_with (fail)
    go_end0
    have y1 := h3.put 11 (.string T) (P' := P.st { P.s with t := T }) (V' := V) rfl rfl rfl rfl rfl ⟨rfl, rfl, rfl, rfl, rfl, rfl⟩ rfl rfl
    have y2 := y1.put 12 (.int .i64 q) (P' := P.st { P.s with t := T, k := q }) (V' := V) rfl rfl rfl rfl rfl ⟨rfl, rfl, rfl, rfl, rfl, rfl⟩ rfl rfl
    exact ⟨rfl, ⟨V, y2, hnb⟩, (hF3.any.trans (h3.putF 11 _)).trans (y1.putF 12 _)⟩
theorem bd_ctlD {c : ByteArray} (h : Ply base w p S ov hv P V) (hnb : V.bs.length ≤ nb) (ht : Prn P.s.t) (hts : P.s.t.size ≤ 1000) (hk : P.s.k ≤ P.s.t.size) (hc : c.toList = [4]) (hpl : S.plain = false) :
    Calls Tryz.prog 58 #[.pointer (some ⟨p, 0, none⟩), .string c] w (PlyPost nb base p S ov hv (P.st (P.s.doc gDel)) (.tuple #[]) w) := by
  obtain ⟨h0, hc0⟩ := head_of hc
  obtain ⟨N, hN⟩ : ∃ N, w.heap.size = N := ⟨_, rfl⟩
  have hst := fun w => step14_c P.s.t P.s.k ht (by omega) hk w
  simp only [del_eq P.s.t P.s.k hk] at hst
  have hst : ∀ w, Calls Tryz.prog 99 #[.agg #[.string P.s.t, .int .i64 P.s.k], .agg #[.int .i64 14, .int .i64 0, .string ⟨#[]⟩, .bool false]] w (StepPost (gDel P.s.t P.s.k).1 (gDel P.s.t P.s.k).2 w) := hst
  have hdoc : P.s.doc gDel = { P.s with t := (gDel P.s.t P.s.k).1, k := (gDel P.s.t P.s.k).2 } := rfl
  rw [hdoc]
  obtain ⟨T, hT⟩ : ∃ T, (gDel P.s.t P.s.k).1 = T := ⟨_, rfl⟩
  obtain ⟨q, hq⟩ : ∃ q, (gDel P.s.t P.s.k).2 = q := ⟨_, rfl⟩
  simp only [hT, hq] at hst
  rw [hT, hq]
  clear hT hq hdoc
  have h1 := h.fr0 ((Fr.refl 0 [] [] w).alloc (.cells #[.int .i64 0, .int .i64 0, .string ⟨#[]⟩, .bool false] 151))
  have hE : Blk (w.alloc (.cells #[.int .i64 0, .int .i64 0, .string ⟨#[]⟩, .bool false] 151)) N #[.int .i64 0, .int .i64 0, .string ⟨#[]⟩, .bool false] 151 := Blk.new' hN.symm _ _
  have hFw : Fr 0 [] [] w (w.alloc (.cells #[.int .i64 0, .int .i64 0, .string ⟨#[]⟩, .bool false] 151)) := (Fr.refl 0 [] [] w).alloc _
  have hC := plC h.blk
  have c9 := hC.c9
  have c11 := hC.c11
  have c12 := hC.c12
  have hlt := hC.lt
  rw [hN] at hlt
  have hbw : base ≤ N := by have := h.bw; omega
  clear hC
  rw [hpl] at c9
  go_enter Tryz.func58, Tryz.ntmps58
  go_wp2_with (fail)
  have hW := StepW.new h hN 14 0
  clear c9 c11 c12 hlt h1 hE hFw
  have hS : (fun w' : World => w'.cell? ⟨p, 11, none⟩ = some (.string P.s.t) ∧ w'.cell? ⟨p, 12, none⟩ = some (.int .i64 P.s.k) ∧ w'.cell? ⟨N, 0, none⟩ = some (.int .i64 14) ∧ w'.cell? ⟨N, 1, none⟩ = some (.int .i64 0) ∧ w'.cell? ⟨N, 2, none⟩ = some (.string ⟨#[]⟩) ∧ w'.cell? ⟨N, 3, none⟩ = some (.bool false)) _ := ⟨(plC hW.h.blk).c11, (plC hW.h.blk).c12, hW.e.cell 0, hW.e.cell 1, hW.e.cell 2, hW.e.cell 3⟩
  refine wp_region_plan [4, 5] [6, 13] (fun w' : World => w'.cell? ⟨p, 11, none⟩ = some (.string P.s.t) ∧ w'.cell? ⟨p, 12, none⟩ = some (.int .i64 P.s.k) ∧ w'.cell? ⟨N, 0, none⟩ = some (.int .i64 14) ∧ w'.cell? ⟨N, 1, none⟩ = some (.int .i64 0) ∧ w'.cell? ⟨N, 2, none⟩ = some (.string ⟨#[]⟩) ∧ w'.cell? ⟨N, 3, none⟩ = some (.bool false)) (.pure 0 (.pure 1 (.pure 2 (.pure 3 (.take 4 (.take 5 (.go 6 (.pure 7 (.pure 8 (.pure 9 (.pure 10 (.pure 11 (.pure 12 (.go 13 .done)))))))))))))) hmix (by kernel_rfl) ?_
  repeat (first | (refine plan_move rfl rfl rfl ?_; (try simp only [Act.put, zq1, zq2, zq3, zq4, zq5, zq6])) | (refine plan_pure (v := ?_) rfl rfl ?_ ?_; rotate_left; (intro w'; go_simp <;> with_reducible rfl); (try simp only [Act.put, zq1, zq2, zq3, zq4, zq5, zq6])) | (refine plan_take (v := ?_) rfl hS rfl ?_ ?_; rotate_left; (intro w' hSw; (try dsimp only at hSw); go_simp <;> with_reducible rfl); (try simp only [Act.put, zq1, zq2, zq3, zq4, zq5, zq6])))
  refine plan_go rfl (by kernel_rfl) rfl (fun K hK => ?_)
  go_simp; refine (hst _).mono ?_; rintro e w2 ⟨x, b, rfl, hF2⟩; have h3 := (hW.h.fr0 ((Fr.refl 0 [] [] _).drew)).fr0 hF2; have hF3 : Fr 0 [] [] w w2 := (hW.f.drew).trans hF2; refine hK _ _ ?_; clear hK K; have e11 := (plC h3.blk).c11; have e12 := (plC h3.blk).c12; have ef11 := h3.blk.frozen 11; have ef12 := h3.blk.frozen 12; have el := h3.blk.lt; (try simp only [Act.put, zq1, zq2, zq3, zq4, zq5, zq6])
  repeat (first | (refine plan_move rfl rfl rfl ?_; (try simp only [Act.put, zq1, zq2, zq3, zq4, zq5, zq6])) | (refine plan_pure (v := ?_) rfl rfl ?_ ?_; rotate_left; (intro w'; go_simp <;> with_reducible rfl); (try simp only [Act.put, zq1, zq2, zq3, zq4, zq5, zq6])))
  refine plan_go rfl (by kernel_rfl) rfl (fun K hK => ?_)
  go_simp; refine hK _ _ ?_; clear hK K; (try simp only [Act.put, zq1, zq2, zq3, zq4, zq5, zq6])
  refine plan_done ?_
  go_wp2_with (fail)
  go_end0
  have y1 := h3.put 11 (.string T) (P' := P.st { P.s with t := T }) (V' := V) rfl rfl rfl rfl rfl ⟨rfl, rfl, rfl, rfl, rfl, rfl⟩ rfl rfl
  have y2 := y1.put 12 (.int .i64 q) (P' := P.st { P.s with t := T, k := q }) (V' := V) rfl rfl rfl rfl rfl ⟨rfl, rfl, rfl, rfl, rfl, rfl⟩ rfl rfl
  exact ⟨rfl, ⟨V, y2, hnb⟩, (hF3.any.trans (h3.putF 11 _)).trans (y1.putF 12 _)⟩
theorem bd_ctlH {c : ByteArray} (h : Ply base w p S ov hv P V) (hnb : V.bs.length ≤ nb) (ht : Prn P.s.t) (hts : P.s.t.size ≤ 1000) (hk : P.s.k ≤ P.s.t.size) (hc : c.toList = [8]) (hpl : S.plain = false) :
    Calls Tryz.prog 58 #[.pointer (some ⟨p, 0, none⟩), .string c] w (PlyPost nb base p S ov hv (P.st (P.s.doc gBack)) (.tuple #[]) w) := by
  obtain ⟨h0, hc0⟩ := head_of hc
  obtain ⟨N, hN⟩ : ∃ N, w.heap.size = N := ⟨_, rfl⟩
  have hst := fun w => step16_c P.s.t P.s.k ht (by omega) hk w
  simp only [back_eq] at hst
  have hst : ∀ w, Calls Tryz.prog 99 #[.agg #[.string P.s.t, .int .i64 P.s.k], .agg #[.int .i64 16, .int .i64 0, .string ⟨#[]⟩, .bool false]] w (StepPost (gBack P.s.t P.s.k).1 (gBack P.s.t P.s.k).2 w) := hst
  have hdoc : P.s.doc gBack = { P.s with t := (gBack P.s.t P.s.k).1, k := (gBack P.s.t P.s.k).2 } := rfl
  rw [hdoc]
  obtain ⟨T, hT⟩ : ∃ T, (gBack P.s.t P.s.k).1 = T := ⟨_, rfl⟩
  obtain ⟨q, hq⟩ : ∃ q, (gBack P.s.t P.s.k).2 = q := ⟨_, rfl⟩
  simp only [hT, hq] at hst
  rw [hT, hq]
  clear hT hq hdoc
  have h1 := h.fr0 ((Fr.refl 0 [] [] w).alloc (.cells #[.int .i64 0, .int .i64 0, .string ⟨#[]⟩, .bool false] 151))
  have hE : Blk (w.alloc (.cells #[.int .i64 0, .int .i64 0, .string ⟨#[]⟩, .bool false] 151)) N #[.int .i64 0, .int .i64 0, .string ⟨#[]⟩, .bool false] 151 := Blk.new' hN.symm _ _
  have hFw : Fr 0 [] [] w (w.alloc (.cells #[.int .i64 0, .int .i64 0, .string ⟨#[]⟩, .bool false] 151)) := (Fr.refl 0 [] [] w).alloc _
  have hC := plC h.blk
  have c9 := hC.c9
  have c11 := hC.c11
  have c12 := hC.c12
  have hlt := hC.lt
  rw [hN] at hlt
  have hbw : base ≤ N := by have := h.bw; omega
  clear hC
  rw [hpl] at c9
  go_enter Tryz.func58, Tryz.ntmps58
  go_wp2_with (fail)
  have hW := StepW.new h hN 16 0
  clear c9 c11 c12 hlt h1 hE hFw
  have hS : (fun w' : World => w'.cell? ⟨p, 11, none⟩ = some (.string P.s.t) ∧ w'.cell? ⟨p, 12, none⟩ = some (.int .i64 P.s.k) ∧ w'.cell? ⟨N, 0, none⟩ = some (.int .i64 16) ∧ w'.cell? ⟨N, 1, none⟩ = some (.int .i64 0) ∧ w'.cell? ⟨N, 2, none⟩ = some (.string ⟨#[]⟩) ∧ w'.cell? ⟨N, 3, none⟩ = some (.bool false)) _ := ⟨(plC hW.h.blk).c11, (plC hW.h.blk).c12, hW.e.cell 0, hW.e.cell 1, hW.e.cell 2, hW.e.cell 3⟩
  refine wp_region_plan [4, 5] [6, 13] (fun w' : World => w'.cell? ⟨p, 11, none⟩ = some (.string P.s.t) ∧ w'.cell? ⟨p, 12, none⟩ = some (.int .i64 P.s.k) ∧ w'.cell? ⟨N, 0, none⟩ = some (.int .i64 16) ∧ w'.cell? ⟨N, 1, none⟩ = some (.int .i64 0) ∧ w'.cell? ⟨N, 2, none⟩ = some (.string ⟨#[]⟩) ∧ w'.cell? ⟨N, 3, none⟩ = some (.bool false)) (.pure 0 (.pure 1 (.pure 2 (.pure 3 (.take 4 (.take 5 (.go 6 (.pure 7 (.pure 8 (.pure 9 (.pure 10 (.pure 11 (.pure 12 (.go 13 .done)))))))))))))) hmix (by kernel_rfl) ?_
  repeat (first | (refine plan_move rfl rfl rfl ?_; (try simp only [Act.put, zq1, zq2, zq3, zq4, zq5, zq6])) | (refine plan_pure (v := ?_) rfl rfl ?_ ?_; rotate_left; (intro w'; go_simp <;> with_reducible rfl); (try simp only [Act.put, zq1, zq2, zq3, zq4, zq5, zq6])) | (refine plan_take (v := ?_) rfl hS rfl ?_ ?_; rotate_left; (intro w' hSw; (try dsimp only at hSw); go_simp <;> with_reducible rfl); (try simp only [Act.put, zq1, zq2, zq3, zq4, zq5, zq6])))
  refine plan_go rfl (by kernel_rfl) rfl (fun K hK => ?_)
  go_simp; refine (hst _).mono ?_; rintro e w2 ⟨x, b, rfl, hF2⟩; have h3 := (hW.h.fr0 ((Fr.refl 0 [] [] _).drew)).fr0 hF2; have hF3 : Fr 0 [] [] w w2 := (hW.f.drew).trans hF2; refine hK _ _ ?_; clear hK K; have e11 := (plC h3.blk).c11; have e12 := (plC h3.blk).c12; have ef11 := h3.blk.frozen 11; have ef12 := h3.blk.frozen 12; have el := h3.blk.lt; (try simp only [Act.put, zq1, zq2, zq3, zq4, zq5, zq6])
  repeat (first | (refine plan_move rfl rfl rfl ?_; (try simp only [Act.put, zq1, zq2, zq3, zq4, zq5, zq6])) | (refine plan_pure (v := ?_) rfl rfl ?_ ?_; rotate_left; (intro w'; go_simp <;> with_reducible rfl); (try simp only [Act.put, zq1, zq2, zq3, zq4, zq5, zq6])))
  refine plan_go rfl (by kernel_rfl) rfl (fun K hK => ?_)
  go_simp; refine hK _ _ ?_; clear hK K; (try simp only [Act.put, zq1, zq2, zq3, zq4, zq5, zq6])
  refine plan_done ?_
  go_wp2_with (fail)
  go_end0
  have y1 := h3.put 11 (.string T) (P' := P.st { P.s with t := T }) (V' := V) rfl rfl rfl rfl rfl ⟨rfl, rfl, rfl, rfl, rfl, rfl⟩ rfl rfl
  have y2 := y1.put 12 (.int .i64 q) (P' := P.st { P.s with t := T, k := q }) (V' := V) rfl rfl rfl rfl rfl ⟨rfl, rfl, rfl, rfl, rfl, rfl⟩ rfl rfl
  exact ⟨rfl, ⟨V, y2, hnb⟩, (hF3.any.trans (h3.putF 11 _)).trans (y1.putF 12 _)⟩
theorem bd_back {c : ByteArray} (h : Ply base w p S ov hv P V) (hnb : V.bs.length ≤ nb) (ht : Prn P.s.t) (hts : P.s.t.size ≤ 1000) (hk : P.s.k ≤ P.s.t.size) (hc : c.toList = [127]) :
    Calls Tryz.prog 58 #[.pointer (some ⟨p, 0, none⟩), .string c] w (PlyPost nb base p S ov hv (P.st (P.s.doc gBack)) (.tuple #[]) w) := by
  obtain ⟨h0, hc0⟩ := head_of hc
  obtain ⟨N, hN⟩ : ∃ N, w.heap.size = N := ⟨_, rfl⟩
  have hst := fun w => step16_c P.s.t P.s.k ht (by omega) hk w
  simp only [back_eq] at hst
  have hst : ∀ w, Calls Tryz.prog 99 #[.agg #[.string P.s.t, .int .i64 P.s.k], .agg #[.int .i64 16, .int .i64 0, .string ⟨#[]⟩, .bool false]] w (StepPost (gBack P.s.t P.s.k).1 (gBack P.s.t P.s.k).2 w) := hst
  have hdoc : P.s.doc gBack = { P.s with t := (gBack P.s.t P.s.k).1, k := (gBack P.s.t P.s.k).2 } := rfl
  rw [hdoc]
  obtain ⟨T, hT⟩ : ∃ T, (gBack P.s.t P.s.k).1 = T := ⟨_, rfl⟩
  obtain ⟨q, hq⟩ : ∃ q, (gBack P.s.t P.s.k).2 = q := ⟨_, rfl⟩
  simp only [hT, hq] at hst
  rw [hT, hq]
  clear hT hq hdoc
  have h1 := h.fr0 ((Fr.refl 0 [] [] w).alloc (.cells #[.int .i64 0, .int .i64 0, .string ⟨#[]⟩, .bool false] 151))
  have hE : Blk (w.alloc (.cells #[.int .i64 0, .int .i64 0, .string ⟨#[]⟩, .bool false] 151)) N #[.int .i64 0, .int .i64 0, .string ⟨#[]⟩, .bool false] 151 := Blk.new' hN.symm _ _
  have hFw : Fr 0 [] [] w (w.alloc (.cells #[.int .i64 0, .int .i64 0, .string ⟨#[]⟩, .bool false] 151)) := (Fr.refl 0 [] [] w).alloc _
  have hC := plC h.blk
  have c9 := hC.c9
  have c11 := hC.c11
  have c12 := hC.c12
  have hlt := hC.lt
  rw [hN] at hlt
  have hbw : base ≤ N := by have := h.bw; omega
  clear hC
  cases hpl : S.plain with
  | true =>
    rw [hpl] at c9
    go_enter Tryz.func58, Tryz.ntmps58
    go_wp2_with (fail)
    have hW := StepW.new h hN 16 0
    clear c9 c11 c12 hlt h1 hE hFw
    have hS : (fun w' : World => w'.cell? ⟨p, 11, none⟩ = some (.string P.s.t) ∧ w'.cell? ⟨p, 12, none⟩ = some (.int .i64 P.s.k) ∧ w'.cell? ⟨N, 0, none⟩ = some (.int .i64 16) ∧ w'.cell? ⟨N, 1, none⟩ = some (.int .i64 0) ∧ w'.cell? ⟨N, 2, none⟩ = some (.string ⟨#[]⟩) ∧ w'.cell? ⟨N, 3, none⟩ = some (.bool false)) _ := ⟨(plC hW.h.blk).c11, (plC hW.h.blk).c12, hW.e.cell 0, hW.e.cell 1, hW.e.cell 2, hW.e.cell 3⟩
    refine wp_region_plan [4, 5] [6, 13] (fun w' : World => w'.cell? ⟨p, 11, none⟩ = some (.string P.s.t) ∧ w'.cell? ⟨p, 12, none⟩ = some (.int .i64 P.s.k) ∧ w'.cell? ⟨N, 0, none⟩ = some (.int .i64 16) ∧ w'.cell? ⟨N, 1, none⟩ = some (.int .i64 0) ∧ w'.cell? ⟨N, 2, none⟩ = some (.string ⟨#[]⟩) ∧ w'.cell? ⟨N, 3, none⟩ = some (.bool false)) (.pure 0 (.pure 1 (.pure 2 (.pure 3 (.take 4 (.take 5 (.go 6 (.pure 7 (.pure 8 (.pure 9 (.pure 10 (.pure 11 (.pure 12 (.go 13 .done)))))))))))))) hmix (by kernel_rfl) ?_
    repeat (first | (refine plan_move rfl rfl rfl ?_; (try simp only [Act.put, zq1, zq2, zq3, zq4, zq5, zq6])) | (refine plan_pure (v := ?_) rfl rfl ?_ ?_; rotate_left; (intro w'; go_simp <;> with_reducible rfl); (try simp only [Act.put, zq1, zq2, zq3, zq4, zq5, zq6])) | (refine plan_take (v := ?_) rfl hS rfl ?_ ?_; rotate_left; (intro w' hSw; (try dsimp only at hSw); go_simp <;> with_reducible rfl); (try simp only [Act.put, zq1, zq2, zq3, zq4, zq5, zq6])))
    refine plan_go rfl (by kernel_rfl) rfl (fun K hK => ?_)
    go_simp; refine (hst _).mono ?_; rintro e w2 ⟨x, b, rfl, hF2⟩; have h3 := (hW.h.fr0 ((Fr.refl 0 [] [] _).drew)).fr0 hF2; have hF3 : Fr 0 [] [] w w2 := (hW.f.drew).trans hF2; refine hK _ _ ?_; clear hK K; have e11 := (plC h3.blk).c11; have e12 := (plC h3.blk).c12; have ef11 := h3.blk.frozen 11; have ef12 := h3.blk.frozen 12; have el := h3.blk.lt; (try simp only [Act.put, zq1, zq2, zq3, zq4, zq5, zq6])
    repeat (first | (refine plan_move rfl rfl rfl ?_; (try simp only [Act.put, zq1, zq2, zq3, zq4, zq5, zq6])) | (refine plan_pure (v := ?_) rfl rfl ?_ ?_; rotate_left; (intro w'; go_simp <;> with_reducible rfl); (try simp only [Act.put, zq1, zq2, zq3, zq4, zq5, zq6])))
    refine plan_go rfl (by kernel_rfl) rfl (fun K hK => ?_)
    go_simp; refine hK _ _ ?_; clear hK K; (try simp only [Act.put, zq1, zq2, zq3, zq4, zq5, zq6])
    refine plan_done ?_
    go_wp2_with (fail)
    go_end0
    have y1 := h3.put 11 (.string T) (P' := P.st { P.s with t := T }) (V' := V) rfl rfl rfl rfl rfl ⟨rfl, rfl, rfl, rfl, rfl, rfl⟩ rfl rfl
    have y2 := y1.put 12 (.int .i64 q) (P' := P.st { P.s with t := T, k := q }) (V' := V) rfl rfl rfl rfl rfl ⟨rfl, rfl, rfl, rfl, rfl, rfl⟩ rfl rfl
    exact ⟨rfl, ⟨V, y2, hnb⟩, (hF3.any.trans (h3.putF 11 _)).trans (y1.putF 12 _)⟩
  | false =>
    rw [hpl] at c9
    go_enter Tryz.func58, Tryz.ntmps58
    go_wp2_with (fail)
    have hW := StepW.new h hN 16 0
    clear c9 c11 c12 hlt h1 hE hFw
    have hS : (fun w' : World => w'.cell? ⟨p, 11, none⟩ = some (.string P.s.t) ∧ w'.cell? ⟨p, 12, none⟩ = some (.int .i64 P.s.k) ∧ w'.cell? ⟨N, 0, none⟩ = some (.int .i64 16) ∧ w'.cell? ⟨N, 1, none⟩ = some (.int .i64 0) ∧ w'.cell? ⟨N, 2, none⟩ = some (.string ⟨#[]⟩) ∧ w'.cell? ⟨N, 3, none⟩ = some (.bool false)) _ := ⟨(plC hW.h.blk).c11, (plC hW.h.blk).c12, hW.e.cell 0, hW.e.cell 1, hW.e.cell 2, hW.e.cell 3⟩
    refine wp_region_plan [4, 5] [6, 13] (fun w' : World => w'.cell? ⟨p, 11, none⟩ = some (.string P.s.t) ∧ w'.cell? ⟨p, 12, none⟩ = some (.int .i64 P.s.k) ∧ w'.cell? ⟨N, 0, none⟩ = some (.int .i64 16) ∧ w'.cell? ⟨N, 1, none⟩ = some (.int .i64 0) ∧ w'.cell? ⟨N, 2, none⟩ = some (.string ⟨#[]⟩) ∧ w'.cell? ⟨N, 3, none⟩ = some (.bool false)) (.pure 0 (.pure 1 (.pure 2 (.pure 3 (.take 4 (.take 5 (.go 6 (.pure 7 (.pure 8 (.pure 9 (.pure 10 (.pure 11 (.pure 12 (.go 13 .done)))))))))))))) hmix (by kernel_rfl) ?_
    repeat (first | (refine plan_move rfl rfl rfl ?_; (try simp only [Act.put, zq1, zq2, zq3, zq4, zq5, zq6])) | (refine plan_pure (v := ?_) rfl rfl ?_ ?_; rotate_left; (intro w'; go_simp <;> with_reducible rfl); (try simp only [Act.put, zq1, zq2, zq3, zq4, zq5, zq6])) | (refine plan_take (v := ?_) rfl hS rfl ?_ ?_; rotate_left; (intro w' hSw; (try dsimp only at hSw); go_simp <;> with_reducible rfl); (try simp only [Act.put, zq1, zq2, zq3, zq4, zq5, zq6])))
    refine plan_go rfl (by kernel_rfl) rfl (fun K hK => ?_)
    go_simp; refine (hst _).mono ?_; rintro e w2 ⟨x, b, rfl, hF2⟩; have h3 := (hW.h.fr0 ((Fr.refl 0 [] [] _).drew)).fr0 hF2; have hF3 : Fr 0 [] [] w w2 := (hW.f.drew).trans hF2; refine hK _ _ ?_; clear hK K; have e11 := (plC h3.blk).c11; have e12 := (plC h3.blk).c12; have ef11 := h3.blk.frozen 11; have ef12 := h3.blk.frozen 12; have el := h3.blk.lt; (try simp only [Act.put, zq1, zq2, zq3, zq4, zq5, zq6])
    repeat (first | (refine plan_move rfl rfl rfl ?_; (try simp only [Act.put, zq1, zq2, zq3, zq4, zq5, zq6])) | (refine plan_pure (v := ?_) rfl rfl ?_ ?_; rotate_left; (intro w'; go_simp <;> with_reducible rfl); (try simp only [Act.put, zq1, zq2, zq3, zq4, zq5, zq6])))
    refine plan_go rfl (by kernel_rfl) rfl (fun K hK => ?_)
    go_simp; refine hK _ _ ?_; clear hK K; (try simp only [Act.put, zq1, zq2, zq3, zq4, zq5, zq6])
    refine plan_done ?_
    go_wp2_with (fail)
    go_end0
    have y1 := h3.put 11 (.string T) (P' := P.st { P.s with t := T }) (V' := V) rfl rfl rfl rfl rfl ⟨rfl, rfl, rfl, rfl, rfl, rfl⟩ rfl rfl
    have y2 := y1.put 12 (.int .i64 q) (P' := P.st { P.s with t := T, k := q }) (V' := V) rfl rfl rfl rfl rfl ⟨rfl, rfl, rfl, rfl, rfl, rfl⟩ rfl rfl
    exact ⟨rfl, ⟨V, y2, hnb⟩, (hF3.any.trans (h3.putF 11 _)).trans (y1.putF 12 _)⟩
theorem bd_ctlA {c : ByteArray} (h : Ply base w p S ov hv P V) (hnb : V.bs.length ≤ nb) (ht : Prn P.s.t) (hts : P.s.t.size ≤ 1000) (hk : P.s.k ≤ P.s.t.size) (hc : c.toList = [1]) (hpl : S.plain = false) :
    Calls Tryz.prog 58 #[.pointer (some ⟨p, 0, none⟩), .string c] w (PlyPost nb base p S ov hv (P.st (P.s.doc gStart)) (.tuple #[]) w) := by
  obtain ⟨h0, hc0⟩ := head_of hc
  obtain ⟨N, hN⟩ : ∃ N, w.heap.size = N := ⟨_, rfl⟩
  have hst := fun w => step13_c P.s.t P.s.k ht (by omega) hk w
  have hst : ∀ w, Calls Tryz.prog 99 #[.agg #[.string P.s.t, .int .i64 P.s.k], .agg #[.int .i64 13, .int .i64 0, .string ⟨#[]⟩, .bool false]] w (StepPost (gStart P.s.t P.s.k).1 (gStart P.s.t P.s.k).2 w) := hst
  have hdoc : P.s.doc gStart = { P.s with t := (gStart P.s.t P.s.k).1, k := (gStart P.s.t P.s.k).2 } := rfl
  rw [hdoc]
  obtain ⟨T, hT⟩ : ∃ T, (gStart P.s.t P.s.k).1 = T := ⟨_, rfl⟩
  obtain ⟨q, hq⟩ : ∃ q, (gStart P.s.t P.s.k).2 = q := ⟨_, rfl⟩
  simp only [hT, hq] at hst
  rw [hT, hq]
  clear hT hq hdoc
  have h1 := h.fr0 ((Fr.refl 0 [] [] w).alloc (.cells #[.int .i64 0, .int .i64 0, .string ⟨#[]⟩, .bool false] 151))
  have hE : Blk (w.alloc (.cells #[.int .i64 0, .int .i64 0, .string ⟨#[]⟩, .bool false] 151)) N #[.int .i64 0, .int .i64 0, .string ⟨#[]⟩, .bool false] 151 := Blk.new' hN.symm _ _
  have hFw : Fr 0 [] [] w (w.alloc (.cells #[.int .i64 0, .int .i64 0, .string ⟨#[]⟩, .bool false] 151)) := (Fr.refl 0 [] [] w).alloc _
  have hC := plC h.blk
  have c9 := hC.c9
  have c11 := hC.c11
  have c12 := hC.c12
  have hlt := hC.lt
  rw [hN] at hlt
  have hbw : base ≤ N := by have := h.bw; omega
  clear hC
  rw [hpl] at c9
  go_enter Tryz.func58, Tryz.ntmps58
  go_wp2_with (fail)
  have hW := StepW.new h hN 13 0
  clear c9 c11 c12 hlt h1 hE hFw
  have hS : (fun w' : World => w'.cell? ⟨p, 11, none⟩ = some (.string P.s.t) ∧ w'.cell? ⟨p, 12, none⟩ = some (.int .i64 P.s.k) ∧ w'.cell? ⟨N, 0, none⟩ = some (.int .i64 13) ∧ w'.cell? ⟨N, 1, none⟩ = some (.int .i64 0) ∧ w'.cell? ⟨N, 2, none⟩ = some (.string ⟨#[]⟩) ∧ w'.cell? ⟨N, 3, none⟩ = some (.bool false)) _ := ⟨(plC hW.h.blk).c11, (plC hW.h.blk).c12, hW.e.cell 0, hW.e.cell 1, hW.e.cell 2, hW.e.cell 3⟩
  refine wp_region_plan [4, 5] [6, 13] (fun w' : World => w'.cell? ⟨p, 11, none⟩ = some (.string P.s.t) ∧ w'.cell? ⟨p, 12, none⟩ = some (.int .i64 P.s.k) ∧ w'.cell? ⟨N, 0, none⟩ = some (.int .i64 13) ∧ w'.cell? ⟨N, 1, none⟩ = some (.int .i64 0) ∧ w'.cell? ⟨N, 2, none⟩ = some (.string ⟨#[]⟩) ∧ w'.cell? ⟨N, 3, none⟩ = some (.bool false)) (.pure 0 (.pure 1 (.pure 2 (.pure 3 (.take 4 (.take 5 (.go 6 (.pure 7 (.pure 8 (.pure 9 (.pure 10 (.pure 11 (.pure 12 (.go 13 .done)))))))))))))) hmix (by kernel_rfl) ?_
  repeat (first | (refine plan_move rfl rfl rfl ?_; (try simp only [Act.put, zq1, zq2, zq3, zq4, zq5, zq6])) | (refine plan_pure (v := ?_) rfl rfl ?_ ?_; rotate_left; (intro w'; go_simp <;> with_reducible rfl); (try simp only [Act.put, zq1, zq2, zq3, zq4, zq5, zq6])) | (refine plan_take (v := ?_) rfl hS rfl ?_ ?_; rotate_left; (intro w' hSw; (try dsimp only at hSw); go_simp <;> with_reducible rfl); (try simp only [Act.put, zq1, zq2, zq3, zq4, zq5, zq6])))
  refine plan_go rfl (by kernel_rfl) rfl (fun K hK => ?_)
  go_simp; refine (hst _).mono ?_; rintro e w2 ⟨x, b, rfl, hF2⟩; have h3 := (hW.h.fr0 ((Fr.refl 0 [] [] _).drew)).fr0 hF2; have hF3 : Fr 0 [] [] w w2 := (hW.f.drew).trans hF2; refine hK _ _ ?_; clear hK K; have e11 := (plC h3.blk).c11; have e12 := (plC h3.blk).c12; have ef11 := h3.blk.frozen 11; have ef12 := h3.blk.frozen 12; have el := h3.blk.lt; (try simp only [Act.put, zq1, zq2, zq3, zq4, zq5, zq6])
  repeat (first | (refine plan_move rfl rfl rfl ?_; (try simp only [Act.put, zq1, zq2, zq3, zq4, zq5, zq6])) | (refine plan_pure (v := ?_) rfl rfl ?_ ?_; rotate_left; (intro w'; go_simp <;> with_reducible rfl); (try simp only [Act.put, zq1, zq2, zq3, zq4, zq5, zq6])))
  refine plan_go rfl (by kernel_rfl) rfl (fun K hK => ?_)
  go_simp; refine hK _ _ ?_; clear hK K; (try simp only [Act.put, zq1, zq2, zq3, zq4, zq5, zq6])
  refine plan_done ?_
  go_wp2_with (fail)
  go_end0
  have y1 := h3.put 11 (.string T) (P' := P.st { P.s with t := T }) (V' := V) rfl rfl rfl rfl rfl ⟨rfl, rfl, rfl, rfl, rfl, rfl⟩ rfl rfl
  have y2 := y1.put 12 (.int .i64 q) (P' := P.st { P.s with t := T, k := q }) (V' := V) rfl rfl rfl rfl rfl ⟨rfl, rfl, rfl, rfl, rfl, rfl⟩ rfl rfl
  exact ⟨rfl, ⟨V, y2, hnb⟩, (hF3.any.trans (h3.putF 11 _)).trans (y1.putF 12 _)⟩
theorem bd_ctlE {c : ByteArray} (h : Ply base w p S ov hv P V) (hnb : V.bs.length ≤ nb) (ht : Prn P.s.t) (hts : P.s.t.size ≤ 1000) (hk : P.s.k ≤ P.s.t.size) (hc : c.toList = [5]) (hpl : S.plain = false) :
    Calls Tryz.prog 58 #[.pointer (some ⟨p, 0, none⟩), .string c] w (PlyPost nb base p S ov hv (P.st (P.s.doc gEnd)) (.tuple #[]) w) := by
  obtain ⟨h0, hc0⟩ := head_of hc
  obtain ⟨N, hN⟩ : ∃ N, w.heap.size = N := ⟨_, rfl⟩
  have hst := fun w => step12_c P.s.t P.s.k ht (by omega) hk w
  have hst : ∀ w, Calls Tryz.prog 99 #[.agg #[.string P.s.t, .int .i64 P.s.k], .agg #[.int .i64 12, .int .i64 0, .string ⟨#[]⟩, .bool false]] w (StepPost (gEnd P.s.t P.s.k).1 (gEnd P.s.t P.s.k).2 w) := hst
  have hdoc : P.s.doc gEnd = { P.s with t := (gEnd P.s.t P.s.k).1, k := (gEnd P.s.t P.s.k).2 } := rfl
  rw [hdoc]
  obtain ⟨T, hT⟩ : ∃ T, (gEnd P.s.t P.s.k).1 = T := ⟨_, rfl⟩
  obtain ⟨q, hq⟩ : ∃ q, (gEnd P.s.t P.s.k).2 = q := ⟨_, rfl⟩
  simp only [hT, hq] at hst
  rw [hT, hq]
  clear hT hq hdoc
  have h1 := h.fr0 ((Fr.refl 0 [] [] w).alloc (.cells #[.int .i64 0, .int .i64 0, .string ⟨#[]⟩, .bool false] 151))
  have hE : Blk (w.alloc (.cells #[.int .i64 0, .int .i64 0, .string ⟨#[]⟩, .bool false] 151)) N #[.int .i64 0, .int .i64 0, .string ⟨#[]⟩, .bool false] 151 := Blk.new' hN.symm _ _
  have hFw : Fr 0 [] [] w (w.alloc (.cells #[.int .i64 0, .int .i64 0, .string ⟨#[]⟩, .bool false] 151)) := (Fr.refl 0 [] [] w).alloc _
  have hC := plC h.blk
  have c9 := hC.c9
  have c11 := hC.c11
  have c12 := hC.c12
  have hlt := hC.lt
  rw [hN] at hlt
  have hbw : base ≤ N := by have := h.bw; omega
  clear hC
  rw [hpl] at c9
  go_enter Tryz.func58, Tryz.ntmps58
  go_wp2_with (fail)
  have hW := StepW.new h hN 12 0
  clear c9 c11 c12 hlt h1 hE hFw
  have hS : (fun w' : World => w'.cell? ⟨p, 11, none⟩ = some (.string P.s.t) ∧ w'.cell? ⟨p, 12, none⟩ = some (.int .i64 P.s.k) ∧ w'.cell? ⟨N, 0, none⟩ = some (.int .i64 12) ∧ w'.cell? ⟨N, 1, none⟩ = some (.int .i64 0) ∧ w'.cell? ⟨N, 2, none⟩ = some (.string ⟨#[]⟩) ∧ w'.cell? ⟨N, 3, none⟩ = some (.bool false)) _ := ⟨(plC hW.h.blk).c11, (plC hW.h.blk).c12, hW.e.cell 0, hW.e.cell 1, hW.e.cell 2, hW.e.cell 3⟩
  refine wp_region_plan [4, 5] [6, 13] (fun w' : World => w'.cell? ⟨p, 11, none⟩ = some (.string P.s.t) ∧ w'.cell? ⟨p, 12, none⟩ = some (.int .i64 P.s.k) ∧ w'.cell? ⟨N, 0, none⟩ = some (.int .i64 12) ∧ w'.cell? ⟨N, 1, none⟩ = some (.int .i64 0) ∧ w'.cell? ⟨N, 2, none⟩ = some (.string ⟨#[]⟩) ∧ w'.cell? ⟨N, 3, none⟩ = some (.bool false)) (.pure 0 (.pure 1 (.pure 2 (.pure 3 (.take 4 (.take 5 (.go 6 (.pure 7 (.pure 8 (.pure 9 (.pure 10 (.pure 11 (.pure 12 (.go 13 .done)))))))))))))) hmix (by kernel_rfl) ?_
  repeat (first | (refine plan_move rfl rfl rfl ?_; (try simp only [Act.put, zq1, zq2, zq3, zq4, zq5, zq6])) | (refine plan_pure (v := ?_) rfl rfl ?_ ?_; rotate_left; (intro w'; go_simp <;> with_reducible rfl); (try simp only [Act.put, zq1, zq2, zq3, zq4, zq5, zq6])) | (refine plan_take (v := ?_) rfl hS rfl ?_ ?_; rotate_left; (intro w' hSw; (try dsimp only at hSw); go_simp <;> with_reducible rfl); (try simp only [Act.put, zq1, zq2, zq3, zq4, zq5, zq6])))
  refine plan_go rfl (by kernel_rfl) rfl (fun K hK => ?_)
  go_simp; refine (hst _).mono ?_; rintro e w2 ⟨x, b, rfl, hF2⟩; have h3 := (hW.h.fr0 ((Fr.refl 0 [] [] _).drew)).fr0 hF2; have hF3 : Fr 0 [] [] w w2 := (hW.f.drew).trans hF2; refine hK _ _ ?_; clear hK K; have e11 := (plC h3.blk).c11; have e12 := (plC h3.blk).c12; have ef11 := h3.blk.frozen 11; have ef12 := h3.blk.frozen 12; have el := h3.blk.lt; (try simp only [Act.put, zq1, zq2, zq3, zq4, zq5, zq6])
  repeat (first | (refine plan_move rfl rfl rfl ?_; (try simp only [Act.put, zq1, zq2, zq3, zq4, zq5, zq6])) | (refine plan_pure (v := ?_) rfl rfl ?_ ?_; rotate_left; (intro w'; go_simp <;> with_reducible rfl); (try simp only [Act.put, zq1, zq2, zq3, zq4, zq5, zq6])))
  refine plan_go rfl (by kernel_rfl) rfl (fun K hK => ?_)
  go_simp; refine hK _ _ ?_; clear hK K; (try simp only [Act.put, zq1, zq2, zq3, zq4, zq5, zq6])
  refine plan_done ?_
  go_wp2_with (fail)
  go_end0
  have y1 := h3.put 11 (.string T) (P' := P.st { P.s with t := T }) (V' := V) rfl rfl rfl rfl rfl ⟨rfl, rfl, rfl, rfl, rfl, rfl⟩ rfl rfl
  have y2 := y1.put 12 (.int .i64 q) (P' := P.st { P.s with t := T, k := q }) (V' := V) rfl rfl rfl rfl rfl ⟨rfl, rfl, rfl, rfl, rfl, rfl⟩ rfl rfl
  exact ⟨rfl, ⟨V, y2, hnb⟩, (hF3.any.trans (h3.putF 11 _)).trans (y1.putF 12 _)⟩
theorem bd_ctlK {c : ByteArray} (h : Ply base w p S ov hv P V) (hnb : V.bs.length ≤ nb) (ht : Prn P.s.t) (hts : P.s.t.size ≤ 1000) (hk : P.s.k ≤ P.s.t.size) (hc : c.toList = [11]) (hpl : S.plain = false) :
    Calls Tryz.prog 58 #[.pointer (some ⟨p, 0, none⟩), .string c] w (PlyPost nb base p S ov hv (P.st (P.s.doc gKill)) (.tuple #[]) w) := by
  obtain ⟨h0, hc0⟩ := head_of hc
  obtain ⟨N, hN⟩ : ∃ N, w.heap.size = N := ⟨_, rfl⟩
  have hst := fun w => step8_c P.s.t P.s.k ht (by omega) hk w (P.s.t.size - P.s.k) (.inl (Nat.le_refl _)) (by omega)
  simp only [Nat.min_self] at hst
  have esz : (P.s.t.extract P.s.k P.s.t.size).size = P.s.t.size - P.s.k := by simp
  have haf := fun w => sAfter_c P.s.t P.s.k ht (by omega) hk w
  have hcn := fun w => sCount_c (P.s.t.extract P.s.k P.s.t.size) (ht.extract _ _) (by omega) w
  simp only [esz] at hcn
  obtain ⟨C, hC9⟩ : ∃ C, P.s.t.extract P.s.k P.s.t.size = C := ⟨_, rfl⟩
  simp only [hC9] at haf hcn
  clear esz hC9
  have hst : ∀ w, Calls Tryz.prog 99 #[.agg #[.string P.s.t, .int .i64 P.s.k], .agg #[.int .i64 8, .int .i64 (P.s.t.size - P.s.k : Nat), .string ⟨#[]⟩, .bool false]] w (StepPost (gKill P.s.t P.s.k).1 (gKill P.s.t P.s.k).2 w) := hst
  have hdoc : P.s.doc gKill = { P.s with t := (gKill P.s.t P.s.k).1, k := (gKill P.s.t P.s.k).2 } := rfl
  rw [hdoc]
  obtain ⟨T, hT⟩ : ∃ T, (gKill P.s.t P.s.k).1 = T := ⟨_, rfl⟩
  obtain ⟨q, hq⟩ : ∃ q, (gKill P.s.t P.s.k).2 = q := ⟨_, rfl⟩
  simp only [hT, hq] at hst
  rw [hT, hq]
  clear hT hq hdoc
  have h1 := h.fr0 ((Fr.refl 0 [] [] w).alloc (.cells #[.int .i64 0, .int .i64 0, .string ⟨#[]⟩, .bool false] 151))
  have hE : Blk (w.alloc (.cells #[.int .i64 0, .int .i64 0, .string ⟨#[]⟩, .bool false] 151)) N #[.int .i64 0, .int .i64 0, .string ⟨#[]⟩, .bool false] 151 := Blk.new' hN.symm _ _
  have hFw : Fr 0 [] [] w (w.alloc (.cells #[.int .i64 0, .int .i64 0, .string ⟨#[]⟩, .bool false] 151)) := (Fr.refl 0 [] [] w).alloc _
  have hC := plC h.blk
  have c9 := hC.c9
  have c11 := hC.c11
  have c12 := hC.c12
  have hlt := hC.lt
  rw [hN] at hlt
  have hbw : base ≤ N := by have := h.bw; omega
  clear hC
  rw [hpl] at c9
  go_enter Tryz.func58, Tryz.ntmps58
  go_wp2_with (fail)
  refine (haf _).mono ?_
  rintro e w3 ⟨rfl, hF3⟩
  replace h1 := h1.fr0 hF3
  replace hE := hF3.blk0 hE
  replace hFw := hFw.trans hF3
  clear c11 c12 c9 hlt
  have c11 := (plC h1.blk).c11
  have c12 := (plC h1.blk).c12
  go_wp2_with (fail)
  refine (hcn _).mono ?_
  rintro e w4 ⟨rfl, hF4⟩
  replace h1 := h1.fr0 hF4
  replace hE := hF4.blk0 hE
  replace hFw := hFw.trans hF4
  clear c11 c12
  have c11 := (plC h1.blk).c11
  have c12 := (plC h1.blk).c12
  have hlt := h1.blk.lt
  have g0 := hE.cell 0
  have g1 := hE.cell 1
  have g2 := hE.cell 2
  have g3 := hE.cell 3
  have gf0 := hE.frozen 0
  have gf1 := hE.frozen 1
  have gf2 := hE.frozen 2
  have gf3 := hE.frozen 3
  have gl := hE.lt
  simp only [List.getElem?_toArray, List.getElem?_cons_zero, List.getElem?_cons_succ] at g0 g1 g2 g3
  go_wp2_with (fail)
  have hW := StepW.set (base := base) (w := w) (p := p) (S := S) (ov := ov) (hv := hv) (P := P) (V := V) ⟨h1, hE, hFw⟩ hN hbw 8 (P.s.t.size - P.s.k : Nat)
  clear g0 g1 g2 g3 gf0 gf1 gf2 gf3 gl
  clear c11 c12 hlt h1 hE hFw
  have hS : (fun w' : World => w'.cell? ⟨p, 11, none⟩ = some (.string P.s.t) ∧ w'.cell? ⟨p, 12, none⟩ = some (.int .i64 P.s.k) ∧ w'.cell? ⟨N, 0, none⟩ = some (.int .i64 8) ∧ w'.cell? ⟨N, 1, none⟩ = some (.int .i64 (P.s.t.size - P.s.k : Nat)) ∧ w'.cell? ⟨N, 2, none⟩ = some (.string ⟨#[]⟩) ∧ w'.cell? ⟨N, 3, none⟩ = some (.bool false)) _ := ⟨(plC hW.h.blk).c11, (plC hW.h.blk).c12, hW.e.cell 0, hW.e.cell 1, hW.e.cell 2, hW.e.cell 3⟩
  refine wp_region_plan [4, 5] [6, 13] (fun w' : World => w'.cell? ⟨p, 11, none⟩ = some (.string P.s.t) ∧ w'.cell? ⟨p, 12, none⟩ = some (.int .i64 P.s.k) ∧ w'.cell? ⟨N, 0, none⟩ = some (.int .i64 8) ∧ w'.cell? ⟨N, 1, none⟩ = some (.int .i64 (P.s.t.size - P.s.k : Nat)) ∧ w'.cell? ⟨N, 2, none⟩ = some (.string ⟨#[]⟩) ∧ w'.cell? ⟨N, 3, none⟩ = some (.bool false)) (.pure 0 (.pure 1 (.pure 2 (.pure 3 (.take 4 (.take 5 (.go 6 (.pure 7 (.pure 8 (.pure 9 (.pure 10 (.pure 11 (.pure 12 (.go 13 .done)))))))))))))) hmix (by kernel_rfl) ?_
  repeat (first | (refine plan_move rfl rfl rfl ?_; (try simp only [Act.put, zq1, zq2, zq3, zq4, zq5, zq6])) | (refine plan_pure (v := ?_) rfl rfl ?_ ?_; rotate_left; (intro w'; go_simp <;> with_reducible rfl); (try simp only [Act.put, zq1, zq2, zq3, zq4, zq5, zq6])) | (refine plan_take (v := ?_) rfl hS rfl ?_ ?_; rotate_left; (intro w' hSw; (try dsimp only at hSw); go_simp <;> with_reducible rfl); (try simp only [Act.put, zq1, zq2, zq3, zq4, zq5, zq6])))
  refine plan_go rfl (by kernel_rfl) rfl (fun K hK => ?_)
  go_simp; refine (hst _).mono ?_; rintro e w2 ⟨x, b, rfl, hF2⟩; have h3 := (hW.h.fr0 ((Fr.refl 0 [] [] _).drew)).fr0 hF2; have hF3 : Fr 0 [] [] w w2 := (hW.f.drew).trans hF2; refine hK _ _ ?_; clear hK K; have e11 := (plC h3.blk).c11; have e12 := (plC h3.blk).c12; have ef11 := h3.blk.frozen 11; have ef12 := h3.blk.frozen 12; have el := h3.blk.lt; (try simp only [Act.put, zq1, zq2, zq3, zq4, zq5, zq6])
  repeat (first | (refine plan_move rfl rfl rfl ?_; (try simp only [Act.put, zq1, zq2, zq3, zq4, zq5, zq6])) | (refine plan_pure (v := ?_) rfl rfl ?_ ?_; rotate_left; (intro w'; go_simp <;> with_reducible rfl); (try simp only [Act.put, zq1, zq2, zq3, zq4, zq5, zq6])))
  refine plan_go rfl (by kernel_rfl) rfl (fun K hK => ?_)
  go_simp; refine hK _ _ ?_; clear hK K; (try simp only [Act.put, zq1, zq2, zq3, zq4, zq5, zq6])
  refine plan_done ?_
  go_wp2_with (fail)
  go_end0
  have y1 := h3.put 11 (.string T) (P' := P.st { P.s with t := T }) (V' := V) rfl rfl rfl rfl rfl ⟨rfl, rfl, rfl, rfl, rfl, rfl⟩ rfl rfl
  have y2 := y1.put 12 (.int .i64 q) (P' := P.st { P.s with t := T, k := q }) (V' := V) rfl rfl rfl rfl rfl ⟨rfl, rfl, rfl, rfl, rfl, rfl⟩ rfl rfl
  exact ⟨rfl, ⟨V, y2, hnb⟩, (hF3.any.trans (h3.putF 11 _)).trans (y1.putF 12 _)⟩
theorem bd_ctlU {c : ByteArray} (h : Ply base w p S ov hv P V) (hnb : V.bs.length ≤ nb) (ht : Prn P.s.t) (hts : P.s.t.size ≤ 1000) (hk : P.s.k ≤ P.s.t.size) (hc : c.toList = [21]) (hpl : S.plain = false) :
    Calls Tryz.prog 58 #[.pointer (some ⟨p, 0, none⟩), .string c] w (PlyPost nb base p S ov hv (P.st (P.s.doc gKillB)) (.tuple #[]) w) := by
  obtain ⟨h0, hc0⟩ := head_of hc
  obtain ⟨N, hN⟩ : ∃ N, w.heap.size = N := ⟨_, rfl⟩
  have hst := fun w => step7_c P.s.t P.s.k ht (by omega) hk w P.s.k (by omega)
  simp only [Nat.min_self] at hst
  have hst : ∀ w, Calls Tryz.prog 99 #[.agg #[.string P.s.t, .int .i64 P.s.k], .agg #[.int .i64 7, .int .i64 P.s.k, .string ⟨#[]⟩, .bool false]] w (StepPost (gKillB P.s.t P.s.k).1 (gKillB P.s.t P.s.k).2 w) := hst
  have hdoc : P.s.doc gKillB = { P.s with t := (gKillB P.s.t P.s.k).1, k := (gKillB P.s.t P.s.k).2 } := rfl
  rw [hdoc]
  obtain ⟨T, hT⟩ : ∃ T, (gKillB P.s.t P.s.k).1 = T := ⟨_, rfl⟩
  obtain ⟨q, hq⟩ : ∃ q, (gKillB P.s.t P.s.k).2 = q := ⟨_, rfl⟩
  simp only [hT, hq] at hst
  rw [hT, hq]
  clear hT hq hdoc
  have h1 := h.fr0 ((Fr.refl 0 [] [] w).alloc (.cells #[.int .i64 0, .int .i64 0, .string ⟨#[]⟩, .bool false] 151))
  have hE : Blk (w.alloc (.cells #[.int .i64 0, .int .i64 0, .string ⟨#[]⟩, .bool false] 151)) N #[.int .i64 0, .int .i64 0, .string ⟨#[]⟩, .bool false] 151 := Blk.new' hN.symm _ _
  have hFw : Fr 0 [] [] w (w.alloc (.cells #[.int .i64 0, .int .i64 0, .string ⟨#[]⟩, .bool false] 151)) := (Fr.refl 0 [] [] w).alloc _
  have hC := plC h.blk
  have c9 := hC.c9
  have c11 := hC.c11
  have c12 := hC.c12
  have hlt := hC.lt
  rw [hN] at hlt
  have hbw : base ≤ N := by have := h.bw; omega
  clear hC
  rw [hpl] at c9
  go_enter Tryz.func58, Tryz.ntmps58
  go_wp2_with (fail)
  have hW := StepW.new h hN 7 P.s.k
  clear c9 c11 c12 hlt h1 hE hFw
  have hS : (fun w' : World => w'.cell? ⟨p, 11, none⟩ = some (.string P.s.t) ∧ w'.cell? ⟨p, 12, none⟩ = some (.int .i64 P.s.k) ∧ w'.cell? ⟨N, 0, none⟩ = some (.int .i64 7) ∧ w'.cell? ⟨N, 1, none⟩ = some (.int .i64 P.s.k) ∧ w'.cell? ⟨N, 2, none⟩ = some (.string ⟨#[]⟩) ∧ w'.cell? ⟨N, 3, none⟩ = some (.bool false)) _ := ⟨(plC hW.h.blk).c11, (plC hW.h.blk).c12, hW.e.cell 0, hW.e.cell 1, hW.e.cell 2, hW.e.cell 3⟩
  refine wp_region_plan [4, 5] [6, 13] (fun w' : World => w'.cell? ⟨p, 11, none⟩ = some (.string P.s.t) ∧ w'.cell? ⟨p, 12, none⟩ = some (.int .i64 P.s.k) ∧ w'.cell? ⟨N, 0, none⟩ = some (.int .i64 7) ∧ w'.cell? ⟨N, 1, none⟩ = some (.int .i64 P.s.k) ∧ w'.cell? ⟨N, 2, none⟩ = some (.string ⟨#[]⟩) ∧ w'.cell? ⟨N, 3, none⟩ = some (.bool false)) (.pure 0 (.pure 1 (.pure 2 (.pure 3 (.take 4 (.take 5 (.go 6 (.pure 7 (.pure 8 (.pure 9 (.pure 10 (.pure 11 (.pure 12 (.go 13 .done)))))))))))))) hmix (by kernel_rfl) ?_
  repeat (first | (refine plan_move rfl rfl rfl ?_; (try simp only [Act.put, zq1, zq2, zq3, zq4, zq5, zq6])) | (refine plan_pure (v := ?_) rfl rfl ?_ ?_; rotate_left; (intro w'; go_simp <;> with_reducible rfl); (try simp only [Act.put, zq1, zq2, zq3, zq4, zq5, zq6])) | (refine plan_take (v := ?_) rfl hS rfl ?_ ?_; rotate_left; (intro w' hSw; (try dsimp only at hSw); go_simp <;> with_reducible rfl); (try simp only [Act.put, zq1, zq2, zq3, zq4, zq5, zq6])))
  refine plan_go rfl (by kernel_rfl) rfl (fun K hK => ?_)
  go_simp; refine (hst _).mono ?_; rintro e w2 ⟨x, b, rfl, hF2⟩; have h3 := (hW.h.fr0 ((Fr.refl 0 [] [] _).drew)).fr0 hF2; have hF3 : Fr 0 [] [] w w2 := (hW.f.drew).trans hF2; refine hK _ _ ?_; clear hK K; have e11 := (plC h3.blk).c11; have e12 := (plC h3.blk).c12; have ef11 := h3.blk.frozen 11; have ef12 := h3.blk.frozen 12; have el := h3.blk.lt; (try simp only [Act.put, zq1, zq2, zq3, zq4, zq5, zq6])
  repeat (first | (refine plan_move rfl rfl rfl ?_; (try simp only [Act.put, zq1, zq2, zq3, zq4, zq5, zq6])) | (refine plan_pure (v := ?_) rfl rfl ?_ ?_; rotate_left; (intro w'; go_simp <;> with_reducible rfl); (try simp only [Act.put, zq1, zq2, zq3, zq4, zq5, zq6])))
  refine plan_go rfl (by kernel_rfl) rfl (fun K hK => ?_)
  go_simp; refine hK _ _ ?_; clear hK K; (try simp only [Act.put, zq1, zq2, zq3, zq4, zq5, zq6])
  refine plan_done ?_
  go_wp2_with (fail)
  go_end0
  have y1 := h3.put 11 (.string T) (P' := P.st { P.s with t := T }) (V' := V) rfl rfl rfl rfl rfl ⟨rfl, rfl, rfl, rfl, rfl, rfl⟩ rfl rfl
  have y2 := y1.put 12 (.int .i64 q) (P' := P.st { P.s with t := T, k := q }) (V' := V) rfl rfl rfl rfl rfl ⟨rfl, rfl, rfl, rfl, rfl, rfl⟩ rfl rfl
  exact ⟨rfl, ⟨V, y2, hnb⟩, (hF3.any.trans (h3.putF 11 _)).trans (y1.putF 12 _)⟩
theorem bd_ctlW {c : ByteArray} (h : Ply base w p S ov hv P V) (hnb : V.bs.length ≤ nb) (ht : Prn P.s.t) (hts : P.s.t.size ≤ 1000) (hk : P.s.k ≤ P.s.t.size) (hc : c.toList = [23]) (hpl : S.plain = false) :
    Calls Tryz.prog 58 #[.pointer (some ⟨p, 0, none⟩), .string c] w (PlyPost nb base p S ov hv (P.st (P.s.doc gWord)) (.tuple #[]) w) := by
  obtain ⟨h0, hc0⟩ := head_of hc
  obtain ⟨N, hN⟩ : ∃ N, w.heap.size = N := ⟨_, rfl⟩
  have hst := fun w => step15_c P.s.t P.s.k ht (by omega) hk w
  have hst : ∀ w, Calls Tryz.prog 99 #[.agg #[.string P.s.t, .int .i64 P.s.k], .agg #[.int .i64 15, .int .i64 0, .string ⟨#[]⟩, .bool false]] w (StepPost (gWord P.s.t P.s.k).1 (gWord P.s.t P.s.k).2 w) := hst
  have hdoc : P.s.doc gWord = { P.s with t := (gWord P.s.t P.s.k).1, k := (gWord P.s.t P.s.k).2 } := rfl
  rw [hdoc]
  obtain ⟨T, hT⟩ : ∃ T, (gWord P.s.t P.s.k).1 = T := ⟨_, rfl⟩
  obtain ⟨q, hq⟩ : ∃ q, (gWord P.s.t P.s.k).2 = q := ⟨_, rfl⟩
  simp only [hT, hq] at hst
  rw [hT, hq]
  clear hT hq hdoc
  have h1 := h.fr0 ((Fr.refl 0 [] [] w).alloc (.cells #[.int .i64 0, .int .i64 0, .string ⟨#[]⟩, .bool false] 151))
  have hE : Blk (w.alloc (.cells #[.int .i64 0, .int .i64 0, .string ⟨#[]⟩, .bool false] 151)) N #[.int .i64 0, .int .i64 0, .string ⟨#[]⟩, .bool false] 151 := Blk.new' hN.symm _ _
  have hFw : Fr 0 [] [] w (w.alloc (.cells #[.int .i64 0, .int .i64 0, .string ⟨#[]⟩, .bool false] 151)) := (Fr.refl 0 [] [] w).alloc _
  have hC := plC h.blk
  have c9 := hC.c9
  have c11 := hC.c11
  have c12 := hC.c12
  have hlt := hC.lt
  rw [hN] at hlt
  have hbw : base ≤ N := by have := h.bw; omega
  clear hC
  rw [hpl] at c9
  go_enter Tryz.func58, Tryz.ntmps58
  go_wp2_with (fail)
  have hW := StepW.new h hN 15 0
  clear c9 c11 c12 hlt h1 hE hFw
  have hS : (fun w' : World => w'.cell? ⟨p, 11, none⟩ = some (.string P.s.t) ∧ w'.cell? ⟨p, 12, none⟩ = some (.int .i64 P.s.k) ∧ w'.cell? ⟨N, 0, none⟩ = some (.int .i64 15) ∧ w'.cell? ⟨N, 1, none⟩ = some (.int .i64 0) ∧ w'.cell? ⟨N, 2, none⟩ = some (.string ⟨#[]⟩) ∧ w'.cell? ⟨N, 3, none⟩ = some (.bool false)) _ := ⟨(plC hW.h.blk).c11, (plC hW.h.blk).c12, hW.e.cell 0, hW.e.cell 1, hW.e.cell 2, hW.e.cell 3⟩
  refine wp_region_plan [4, 5] [6, 13] (fun w' : World => w'.cell? ⟨p, 11, none⟩ = some (.string P.s.t) ∧ w'.cell? ⟨p, 12, none⟩ = some (.int .i64 P.s.k) ∧ w'.cell? ⟨N, 0, none⟩ = some (.int .i64 15) ∧ w'.cell? ⟨N, 1, none⟩ = some (.int .i64 0) ∧ w'.cell? ⟨N, 2, none⟩ = some (.string ⟨#[]⟩) ∧ w'.cell? ⟨N, 3, none⟩ = some (.bool false)) (.pure 0 (.pure 1 (.pure 2 (.pure 3 (.take 4 (.take 5 (.go 6 (.pure 7 (.pure 8 (.pure 9 (.pure 10 (.pure 11 (.pure 12 (.go 13 .done)))))))))))))) hmix (by kernel_rfl) ?_
  repeat (first | (refine plan_move rfl rfl rfl ?_; (try simp only [Act.put, zq1, zq2, zq3, zq4, zq5, zq6])) | (refine plan_pure (v := ?_) rfl rfl ?_ ?_; rotate_left; (intro w'; go_simp <;> with_reducible rfl); (try simp only [Act.put, zq1, zq2, zq3, zq4, zq5, zq6])) | (refine plan_take (v := ?_) rfl hS rfl ?_ ?_; rotate_left; (intro w' hSw; (try dsimp only at hSw); go_simp <;> with_reducible rfl); (try simp only [Act.put, zq1, zq2, zq3, zq4, zq5, zq6])))
  refine plan_go rfl (by kernel_rfl) rfl (fun K hK => ?_)
  go_simp; refine (hst _).mono ?_; rintro e w2 ⟨x, b, rfl, hF2⟩; have h3 := (hW.h.fr0 ((Fr.refl 0 [] [] _).drew)).fr0 hF2; have hF3 : Fr 0 [] [] w w2 := (hW.f.drew).trans hF2; refine hK _ _ ?_; clear hK K; have e11 := (plC h3.blk).c11; have e12 := (plC h3.blk).c12; have ef11 := h3.blk.frozen 11; have ef12 := h3.blk.frozen 12; have el := h3.blk.lt; (try simp only [Act.put, zq1, zq2, zq3, zq4, zq5, zq6])
  repeat (first | (refine plan_move rfl rfl rfl ?_; (try simp only [Act.put, zq1, zq2, zq3, zq4, zq5, zq6])) | (refine plan_pure (v := ?_) rfl rfl ?_ ?_; rotate_left; (intro w'; go_simp <;> with_reducible rfl); (try simp only [Act.put, zq1, zq2, zq3, zq4, zq5, zq6])))
  refine plan_go rfl (by kernel_rfl) rfl (fun K hK => ?_)
  go_simp; refine hK _ _ ?_; clear hK K; (try simp only [Act.put, zq1, zq2, zq3, zq4, zq5, zq6])
  refine plan_done ?_
  go_wp2_with (fail)
  go_end0
  have y1 := h3.put 11 (.string T) (P' := P.st { P.s with t := T }) (V' := V) rfl rfl rfl rfl rfl ⟨rfl, rfl, rfl, rfl, rfl, rfl⟩ rfl rfl
  have y2 := y1.put 12 (.int .i64 q) (P' := P.st { P.s with t := T, k := q }) (V' := V) rfl rfl rfl rfl rfl ⟨rfl, rfl, rfl, rfl, rfl, rfl⟩ rfl rfl
  exact ⟨rfl, ⟨V, y2, hnb⟩, (hF3.any.trans (h3.putF 11 _)).trans (y1.putF 12 _)⟩
end
end Go.Proofs.YtiepopbmbgfhkaaGreat
