/-
  The set's player: ^C and ^D.
  The set's player: return.
-/
import Derived.Test.YtiepopbmbgfhkaaGreatQ45
namespace Go.Proofs.YtiepopbmbgfhkaaGreat
open Go.RowKit
open List renaming setIfInBounds_toArray → zq1, set_cons_zero → zq2, set_cons_succ → zq3
open Int renaming toNat_natCast → zq4, toNat_sub → zq5, toNat_zero → zq6
set_option maxHeartbeats 8000000
set_option maxRecDepth 20000
set_option linter.unusedVariables false
set_option linter.unusedSimpArgs false

section
variable {nb base : Nat} {w : World} {p : Nat} {S : Sess} {ov hv : Value} {P : PL} {V : PV}
theorem act_d_no {c : ByteArray} (h : Ply base w p S ov hv P V) (hnb : V.bs.length ≤ nb) (hc : c.toList = [4]) (cpl : Bool) (hz : P.s.t ≠ .empty) :
    Calls Tryz.prog 57 #[.pointer (some ⟨p, 0, none⟩), .string c, .bool cpl] w (PlyPost nb base p S ov hv P (.bool false) w) := by
  have hC := plC h.blk
  have c11 := hC.c11
  have hlt := hC.lt
  have hse := str_ne hz
  rw [show (ByteArray.empty).toList = [] by rw [ByteArray.toList_eq]; rfl] at hse
  clear hz
  go_enter Tryz.func57, Tryz.ntmps57
  go_wp2_with (fail)
  go_ret
  exact ⟨rfl, ⟨V, h, hnb⟩, Fr.refl _ _ _ _⟩

theorem act_d {c : ByteArray} (h : Ply base w p S ov hv P V) (hnb : V.bs.length ≤ nb) (hnb9 : nb ≤ 1000) (hc : c.toList = [4]) (cpl : Bool) (hz : P.s.t = .empty) :
    Calls Tryz.prog 57 #[.pointer (some ⟨p, 0, none⟩), .string c, .bool cpl] w (PlyPost (nb + 1) base p S ov hv { P with over := true } (.bool false) w) := by
  have hC := plC h.blk
  have c11 := hC.c11
  have c20 := hC.c20
  have hlt := hC.lt
  rw [hz] at c11
  obtain ⟨N, hN⟩ : ∃ N, w.heap.size = N := ⟨_, rfl⟩
  have h0 := (h.fr0 ((Fr.refl 0 [] [] w).alloc (.cells #[.string .empty] 9))).mid
  clear hz
  go_enter Tryz.func57, Tryz.ntmps57
  go_wp2_with (first | (refine wpList_plain rfl (fun K hK => ?_); refine wp_appo (t := .empty) (base := base) _ _ rfl rfl rfl (h0.rows.b) (Blk.new' (by first | rfl | rw [← hN]) _ _) (by omega) (h0.bw) ?_; intro p1 n1 c1 w1 hO1 hat1 hF1; refine hK _ _ ?_; clear hK K; obtain ⟨m1, hFm1⟩ := h0.appB hO1 (by first | exact hat1 | simpa [hN] using hat1) hF1; have q20 : w1.cell? ⟨p, 20, none⟩ = some V.vb := m1.blk.cell 20; have q21 : w1.cell? ⟨p, 21, none⟩ = some (.bool P.over) := m1.blk.cell 21; have qf20 := m1.blk.frozen 20; have qf21 := m1.blk.frozen 21; have ql := m1.blk.lt))
  go_ret
  have m2 := m1.put (P0' := P) (V0' := { V with vb := .slice p1 n1 c1, bs := V.bs ++ [.empty] }) 20 (.slice p1 n1 c1) rfl
  have m3 := m2.put (P0' := { P with over := true }) (V0' := { V with vb := .slice p1 n1 c1, bs := V.bs ++ [.empty] }) 21 (.bool true) rfl
  have hF0 : Fr base PT [] w w1 := ((Fr.refl base PT [] w).alloc _).trans hFm1
  have m4 : PlyM base _ p S ov hv { P with over := true } { V with vb := .slice p1 n1 c1, bs := V.bs ++ [.empty] } { P with over := true } { V with vb := .slice p1 n1 c1, bs := V.bs ++ [.empty] } := m3.st rfl rfl rfl rfl
  exact ⟨rfl, ⟨_, m4.done, by show (V.bs ++ [ByteArray.empty]).length ≤ nb + 1; simp; omega⟩, (hF0.trans (m1.putF 20 _)).trans (m2.putF 21 _)⟩

theorem act_c {c : ByteArray} (h : Ply base w p S ov hv P V) (hnb : V.bs.length ≤ nb) (hnb9 : nb ≤ 1000) (hA : ActH P.s) (hc : c.toList = [3]) (cpl : Bool) :
    Calls Tryz.prog 57 #[.pointer (some ⟨p, 0, none⟩), .string c, .bool cpl] w (PlyPost (nb + 1) base p S ov hv (P.st P.s.cancel) (.bool false) w) := by
  have hC := plC h.blk
  have c11 := hC.c11
  have c20 := hC.c20
  have hlt := hC.lt
  have hhl := hA.hhl
  obtain ⟨N, hN⟩ : ∃ N, w.heap.size = N := ⟨_, rfl⟩
  have h0 := (h.fr0 (((Fr.refl 0 [] [] w).drew).alloc (.cells #[.string P.s.t] 9))).mid
  go_enter Tryz.func57, Tryz.ntmps57
  go_wp2_with (fail)
  have hS : (fun w' : World => w'.cell? ⟨p, 20, none⟩ = some V.vb ∧ w'.cell? ⟨p, 11, none⟩ = some (.string P.s.t)) w.drew := ⟨c20, c11⟩
  refine wp_region_plan [5, 10] [11, 12, 16, 19] (fun w' : World => w'.cell? ⟨p, 20, none⟩ = some V.vb ∧ w'.cell? ⟨p, 11, none⟩ = some (.string P.s.t)) (.pure 0 (.pure 1 (.pure 2 (.pure 3 (.pure 4 (.take 5 (.pure 6 (.pure 7 (.pure 8 (.pure 9 (.take 10 (.pure 13 (.go 11 (.go 12 (.pure 14 (.pure 15 (.go 16 (.pure 17 (.pure 18 (.go 19 .done)))))))))))))))))))) hmix (by kernel_rfl) ?_
  repeat (first | (refine plan_move rfl rfl rfl ?_; (try simp only [Act.put, zq1, zq2, zq3, zq4, zq5, zq6])) | (refine plan_pure (v := ?_) rfl rfl ?_ ?_; rotate_left; (intro w'; go_simp <;> with_reducible rfl); (try simp only [Act.put, zq1, zq2, zq3, zq4, zq5, zq6])) | (refine plan_take (v := ?_) rfl hS rfl ?_ ?_; rotate_left; (intro w' hSw; (try dsimp only at hSw); go_simp <;> with_reducible rfl); (try simp only [Act.put, zq1, zq2, zq3, zq4, zq5, zq6])))
  refine plan_goS rfl rfl (fun K hK => ?_)
  go_simp; refine hK _ _ ⟨h0.blk.cell 20, h0.blk.cell 11⟩ ?_; clear hK K; (try simp only [Act.put, zq1, zq2, zq3, zq4, zq5, zq6])
  refine plan_go rfl (by kernel_rfl) rfl (fun K hK => ?_)
  refine wp_appo (t := P.s.t) (base := base) _ _ rfl rfl rfl (h0.rows.b) (Blk.new' (by first | rfl | rw [← hN]) _ _) (by omega) (h0.bw) ?_; intro p1 n1 c1 w1 hO1 hat1 hF1; refine hK _ _ ?_; clear hK K; obtain ⟨m1, hFm1⟩ := h0.appB hO1 (by first | exact hat1 | simpa [hN] using hat1) hF1; have q20 : w1.cell? ⟨p, 20, none⟩ = some V.vb := m1.blk.cell 20; have q11 : w1.cell? ⟨p, 11, none⟩ = some (.string P.s.t) := m1.blk.cell 11; have q12 : w1.cell? ⟨p, 12, none⟩ = some (.int .i64 P.s.k) := m1.blk.cell 12; have qf20 := m1.blk.frozen 20; have qf11 := m1.blk.frozen 11; have qf12 := m1.blk.frozen 12; have ql := m1.blk.lt; (try simp only [Act.put, zq1, zq2, zq3, zq4, zq5, zq6])
  repeat (first | (refine plan_pure (v := ?_) rfl rfl ?_ ?_; rotate_left; (intro w'; go_simp <;> with_reducible rfl); (try simp only [Act.put, zq1, zq2, zq3, zq4, zq5, zq6])))
  refine plan_go rfl (by kernel_rfl) rfl (fun K hK => ?_)
  go_simp; refine hK _ _ ?_; clear hK K; (try simp only [Act.put, zq1, zq2, zq3, zq4, zq5, zq6])
  repeat (first | (refine plan_pure (v := ?_) rfl rfl ?_ ?_; rotate_left; (intro w'; go_simp <;> with_reducible rfl); (try simp only [Act.put, zq1, zq2, zq3, zq4, zq5, zq6])))
  refine plan_go rfl (by kernel_rfl) rfl (fun K hK => ?_)
  go_simp; refine hK _ _ ?_; clear hK K; (try simp only [Act.put, zq1, zq2, zq3, zq4, zq5, zq6])
  refine plan_done ?_
  go_wp2_with (fail)
  have m2 := m1.put (P0' := P) (V0' := { V with vb := .slice p1 n1 c1, bs := V.bs ++ [P.s.t] }) 20 (.slice p1 n1 c1) rfl
  have m3 := m2.put (P0' := P.st { P.s with t := .empty }) (V0' := { V with vb := .slice p1 n1 c1, bs := V.bs ++ [P.s.t] }) 11 (.string .empty) rfl
  have m4 := m3.put (P0' := P.st { P.s with t := .empty, k := 0 }) (V0' := { V with vb := .slice p1 n1 c1, bs := V.bs ++ [P.s.t] }) 12 (.int .i64 0) rfl
  have hF0 : Fr base PT [] w w1 := (((Fr.refl base PT [] w).drew).alloc _).trans hFm1
  have hF4 := ((hF0.trans (m1.putF 20 (.slice p1 n1 c1))).trans (m2.putF 11 (.string .empty))).trans (m3.putF 12 (.int .i64 0))
  have m5 : PlyM base _ p S ov hv (P.st { P.s with t := .empty, k := 0 }) { V with vb := .slice p1 n1 c1, bs := V.bs ++ [P.s.t] } (P.st { P.s with t := .empty, k := 0 }) { V with vb := .slice p1 n1 c1, bs := V.bs ++ [P.s.t] } := m4.st rfl rfl rfl rfl
  refine (pClear_c (nb := nb + 1) m5.done.toPly0 (by show (V.bs ++ [P.s.t]).length ≤ nb + 1; simp; omega) (by show P.s.hs.length ≤ 1000; omega)).mono ?_
  rintro e w2 ⟨rfl, hV, hF2⟩
  go_wp2_with (fail)
  go_ret
  exact ⟨rfl, hV, hF4.trans hF2⟩
end
end Go.Proofs.YtiepopbmbgfhkaaGreat

namespace Go.Proofs.YtiepopbmbgfhkaaGreat
open Go.RowKit
open List renaming setIfInBounds_toArray → zq1, set_cons_zero → zq2, set_cons_succ → zq3
open Int renaming toNat_natCast → zq4, toNat_sub → zq5, toNat_zero → zq6
set_option maxHeartbeats 8000000
set_option maxRecDepth 20000
set_option linter.unusedVariables false
set_option linter.unusedSimpArgs false

theorem own_lt {base : Nat} {w : World} {v : Value} {xs : List ByteArray} (ho : OS base w v xs) {b : Nat} (hb : w.heap.size ≤ b) : b ∉ v.ownBlock.toList := fun hm => by
  have hm : v.ownBlock = some b := by simpa using hm
  obtain ⟨-, ds, h⟩ := row_blk ho b hm
  have := h.lt
  omega
/-- A line is executed: what stands behind the first two stores. -/
def EnR (nb base : Nat) (w : World) (p : Nat) (S : Sess) (ov hv : Value) (P : PL) (wx : World) : Prop :=
  ∃ V', Ply base wx p S ov hv (P.st (P.s.lined P.s.t)) V' ∧ V'.bs.length ≤ nb ∧ Fr base PT [] w wx

section
variable {nb base : Nat} {w : World} {p : Nat} {S : Sess} {ov hv : Value} {P : PL} {V : PV}
theorem act_enter0 {c : ByteArray} (h : Ply base w p S ov hv P V) (hnb : V.bs.length ≤ nb) (hnb9 : nb ≤ 1000) (hA : ActH P.s) (hov : P.over = false) (hc : c.toList = [13]) (cpl : Bool) :
    Calls Tryz.prog 57 #[.pointer (some ⟨p, 0, none⟩), .string c, .bool cpl] w (PlyPost (nb + 1) base p S ov hv { s := P.s.ran, over := decide (S.exit ≠ .empty ∧ P.s.t = S.exit), opn := P.opn } (.bool false) w) := by
  have hC := plC h.blk
  have c11 := hC.c11
  have c19 := hC.c19
  have c20 := hC.c20
  have hlt := hC.lt
  clear hC
  obtain ⟨N, hN⟩ : ∃ N, w.heap.size = N := ⟨_, rfl⟩
  obtain ⟨R, hR⟩ : ∃ R : PL, { s := P.s.ran, over := decide (S.exit ≠ .empty ∧ P.s.t = S.exit), opn := P.opn } = R := ⟨_, rfl⟩
  rw [hR]
  have HR0 := Lib.hid hR
  clear hR
  go_enter Tryz.func57, Tryz.ntmps57
  go_upto_region 6 with (fail)
  go_cut [39] from 27 to 54 (fun v39 wx => EnR (nb + 1) base w p S ov hv P wx)
  case first =>
    have hS : (fun w' : World => w'.cell? ⟨p, 20, none⟩ = some V.vb ∧ w'.cell? ⟨p, 19, none⟩ = some V.vl ∧ w'.cell? ⟨p, 11, none⟩ = some (.string P.s.t)) w.drew := ⟨c20, c19, c11⟩
    refine wp_region_plan [5, 10, 16, 21] [11, 12, 22, 23, 26, 29] (fun w' : World => w'.cell? ⟨p, 20, none⟩ = some V.vb ∧ w'.cell? ⟨p, 19, none⟩ = some V.vl ∧ w'.cell? ⟨p, 11, none⟩ = some (.string P.s.t)) (.pure 0 (.pure 1 (.pure 2 (.pure 3 (.pure 4 (.take 5 (.pure 6 (.pure 7 (.pure 8 (.pure 9 (.take 10 (.pure 13 (.pure 14 (.pure 15 (.take 16 (.pure 17 (.pure 18 (.pure 19 (.pure 20 (.take 21 (.go2 11 (.go2 12 (.go 22 (.go 23 (.pure 24 (.pure 25 (.go 26 (.pure 27 (.pure 28 (.go 29 .done)))))))) 22 (.go 12 (.go 23 (.pure 24 (.pure 25 (.go 26 (.pure 27 (.pure 28 (.go 29 .done))))))))) 22 (.go 11 (.go 12 (.go 23 (.pure 24 (.pure 25 (.go 26 (.pure 27 (.pure 28 (.go 29 .done)))))))))))))))))))))))))))))) hmix (by kernel_rfl) ?_
    repeat (first | (refine plan_move rfl rfl rfl ?_; (try simp only [Act.put, zq1, zq2, zq3, zq4, zq5, zq6])) | (refine plan_pure (v := ?_) rfl rfl ?_ ?_; rotate_left; (intro w'; go_simp <;> with_reducible rfl); (try simp only [Act.put, zq1, zq2, zq3, zq4, zq5, zq6])) | (refine plan_take (v := ?_) rfl hS rfl ?_ ?_; rotate_left; (intro w' hSw; (try dsimp only at hSw); go_simp <;> with_reducible rfl); (try simp only [Act.put, zq1, zq2, zq3, zq4, zq5, zq6])))
    refine plan_go2 rfl rfl rfl rfl (fun K hK => ?_) (fun K hK => ?_)
    · go_simp; have m0 := (h.fr0 (((Fr.refl 0 [] [] w).drew).alloc (.cells #[.string P.s.t] 9))).mid; have hb : Blk (w.drew.alloc (.cells #[.string P.s.t] 9)) N #[.string P.s.t] 9 := Blk.new' (by rw [← hN]; rfl) _ _; have hG0 : Fr base PT [] w (w.drew.alloc (.cells #[.string P.s.t] 9)) := ((Fr.refl base PT [] w).drew).alloc _; refine hK _ _ ⟨m0.blk.cell 20, m0.blk.cell 19, m0.blk.cell 11⟩ ?_; clear hK K; (try simp only [Act.put, zq1, zq2, zq3, zq4, zq5, zq6])
      refine plan_go2 rfl rfl rfl rfl (fun K hK => ?_) (fun K hK => ?_)
      · refine wp_appo (t := P.s.t) (base := base) _ _ rfl rfl rfl (m0.rows.b) hb (by omega) (m0.bw) ?_; intro p1 n1 c1 w1 hO1 hat1 hF1; obtain ⟨m2, hFm1⟩ := m0.appB hO1 hat1 hF1; have hG2 := hG0.trans hFm1; refine hK _ _ ⟨m2.blk.cell 20, m2.blk.cell 19, m2.blk.cell 11⟩ ?_; clear hK K; (try simp only [Act.put, zq1, zq2, zq3, zq4, zq5, zq6])
        refine plan_goS rfl rfl (fun K hK => ?_)
        go_simp; have m3 := m2.fr0 ((Fr.refl 0 [] [] w1).alloc (.cells #[.string P.s.t] 9)); have hL : Blk (w1.alloc (.cells #[.string P.s.t] 9)) w1.heap.size #[.string P.s.t] 9 := Blk.new _ _ _; have hG3 := hG2.alloc (.cells #[.string P.s.t] 9); refine hK _ _ ⟨m3.blk.cell 20, m3.blk.cell 19, m3.blk.cell 11⟩ ?_; clear hK K; (try simp only [Act.put, zq1, zq2, zq3, zq4, zq5, zq6])
        refine plan_go rfl (by kernel_rfl) rfl (fun K hK => ?_)
        refine wp_appo (t := P.s.t) (base := base) _ _ rfl rfl rfl (m3.rows.l) hL (by have := hA.hl; omega) (m3.bw) ?_; intro p2 n2 c2 w2 hO2 hat2 hF2; obtain ⟨m4, hFm2⟩ := m3.appL hO2 hat2 hF2; have hG4 := hG3.trans hFm2; refine hK _ _ ?_; clear hK K; have q20 : w2.cell? ⟨p, 20, none⟩ = some V.vb := m4.blk.cell 20; have q19 : w2.cell? ⟨p, 19, none⟩ = some V.vl := m4.blk.cell 19; have qf20 := m4.blk.frozen 20; have qf19 := m4.blk.frozen 19; have ql := m4.blk.lt; (try simp only [Act.put, zq1, zq2, zq3, zq4, zq5, zq6])
        repeat (first | (refine plan_pure (v := ?_) rfl rfl ?_ ?_; rotate_left; (intro w'; go_simp <;> with_reducible rfl); (try simp only [Act.put, zq1, zq2, zq3, zq4, zq5, zq6])))
        refine plan_go rfl (by kernel_rfl) rfl (fun K hK => ?_)
        go_simp; refine hK _ _ ?_; clear hK K; (try simp only [Act.put, zq1, zq2, zq3, zq4, zq5, zq6])
        repeat (first | (refine plan_pure (v := ?_) rfl rfl ?_ ?_; rotate_left; (intro w'; go_simp <;> with_reducible rfl); (try simp only [Act.put, zq1, zq2, zq3, zq4, zq5, zq6])))
        refine plan_go rfl (by kernel_rfl) rfl (fun K hK => ?_)
        go_simp; refine hK _ _ ?_; clear hK K; (try simp only [Act.put, zq1, zq2, zq3, zq4, zq5, zq6])
        refine plan_done ?_
        have m5 := m4.put (P0' := P) (V0' := { V with vb := .slice p1 n1 c1, bs := V.bs ++ [P.s.t] }) 20 (.slice p1 n1 c1) rfl
        have m6 : PlyM base _ p S ov hv (P.st (P.s.lined P.s.t)) { V with vb := .slice p1 n1 c1, bs := V.bs ++ [P.s.t], vl := .slice p2 n2 c2 } (P.st (P.s.lined P.s.t)) { V with vb := .slice p1 n1 c1, bs := V.bs ++ [P.s.t], vl := .slice p2 n2 c2 } := m5.put (P0' := P.st (P.s.lined P.s.t)) (V0' := { V with vb := .slice p1 n1 c1, bs := V.bs ++ [P.s.t], vl := .slice p2 n2 c2 }) 19 (.slice p2 n2 c2) rfl
        have hfin : EnR (nb + 1) base w p S ov hv P _ := ⟨_, m6.done, by show (V.bs ++ [P.s.t]).length ≤ nb + 1; simp; omega, (hG4.trans (m4.putF 20 _)).trans (m5.putF 19 _)⟩
        clear m5 m6
        go_wp2_with (fail)
        go_meet
        exact hfin
      · go_simp; have m1 := m0.fr0 ((Fr.refl 0 [] [] _).alloc (.cells #[.string P.s.t] 9)); have hb2 := hb.alloc (.cells #[.string P.s.t] 9); have hl : Blk ((w.drew.alloc (.cells #[.string P.s.t] 9)).alloc (.cells #[.string P.s.t] 9)) (N + 1) #[.string P.s.t] 9 := Blk.new' (by simp [hN]) _ _; have hG1 := hG0.alloc (.cells #[.string P.s.t] 9); refine hK _ _ ⟨m1.blk.cell 20, m1.blk.cell 19, m1.blk.cell 11⟩ ?_; clear hK K; (try simp only [Act.put, zq1, zq2, zq3, zq4, zq5, zq6])
        refine plan_goS rfl rfl (fun K hK => ?_)
        refine wp_appo (t := P.s.t) (base := base) _ _ rfl rfl rfl (m1.rows.b) hb2 (by omega) (m1.bw) ?_; intro p1 n1 c1 w1 hO1 hat1 hF1; obtain ⟨m2, hFm1⟩ := m1.appB hO1 hat1 hF1; have hG2 := hG1.trans hFm1; have hl3 := hF1.blk hl (.inr ⟨own_lt h.rows.b (by omega), by simp⟩); refine hK _ _ ⟨m2.blk.cell 20, m2.blk.cell 19, m2.blk.cell 11⟩ ?_; clear hK K; (try simp only [Act.put, zq1, zq2, zq3, zq4, zq5, zq6])
        refine plan_go rfl (by kernel_rfl) rfl (fun K hK => ?_)
        refine wp_appo (t := P.s.t) (base := base) _ _ rfl rfl rfl (m2.rows.l) hl3 (by have := hA.hl; omega) (m2.bw) ?_; intro p2 n2 c2 w2 hO2 hat2 hF2; obtain ⟨m4, hFm2⟩ := m2.appL hO2 hat2 hF2; have hG4 := hG2.trans hFm2; refine hK _ _ ?_; clear hK K; have q20 : w2.cell? ⟨p, 20, none⟩ = some V.vb := m4.blk.cell 20; have q19 : w2.cell? ⟨p, 19, none⟩ = some V.vl := m4.blk.cell 19; have qf20 := m4.blk.frozen 20; have qf19 := m4.blk.frozen 19; have ql := m4.blk.lt; (try simp only [Act.put, zq1, zq2, zq3, zq4, zq5, zq6])
        repeat (first | (refine plan_pure (v := ?_) rfl rfl ?_ ?_; rotate_left; (intro w'; go_simp <;> with_reducible rfl); (try simp only [Act.put, zq1, zq2, zq3, zq4, zq5, zq6])))
        refine plan_go rfl (by kernel_rfl) rfl (fun K hK => ?_)
        go_simp; refine hK _ _ ?_; clear hK K; (try simp only [Act.put, zq1, zq2, zq3, zq4, zq5, zq6])
        repeat (first | (refine plan_pure (v := ?_) rfl rfl ?_ ?_; rotate_left; (intro w'; go_simp <;> with_reducible rfl); (try simp only [Act.put, zq1, zq2, zq3, zq4, zq5, zq6])))
        refine plan_go rfl (by kernel_rfl) rfl (fun K hK => ?_)
        go_simp; refine hK _ _ ?_; clear hK K; (try simp only [Act.put, zq1, zq2, zq3, zq4, zq5, zq6])
        refine plan_done ?_
        have m5 := m4.put (P0' := P) (V0' := { V with vb := .slice p1 n1 c1, bs := V.bs ++ [P.s.t] }) 20 (.slice p1 n1 c1) rfl
        have m6 : PlyM base _ p S ov hv (P.st (P.s.lined P.s.t)) { V with vb := .slice p1 n1 c1, bs := V.bs ++ [P.s.t], vl := .slice p2 n2 c2 } (P.st (P.s.lined P.s.t)) { V with vb := .slice p1 n1 c1, bs := V.bs ++ [P.s.t], vl := .slice p2 n2 c2 } := m5.put (P0' := P.st (P.s.lined P.s.t)) (V0' := { V with vb := .slice p1 n1 c1, bs := V.bs ++ [P.s.t], vl := .slice p2 n2 c2 }) 19 (.slice p2 n2 c2) rfl
        have hfin : EnR (nb + 1) base w p S ov hv P _ := ⟨_, m6.done, by show (V.bs ++ [P.s.t]).length ≤ nb + 1; simp; omega, (hG4.trans (m4.putF 20 _)).trans (m5.putF 19 _)⟩
        clear m5 m6
        go_wp2_with (fail)
        go_meet
        exact hfin
    · go_simp; have m0 := (h.fr0 (((Fr.refl 0 [] [] w).drew).alloc (.cells #[.string P.s.t] 9))).mid; have hl : Blk (w.drew.alloc (.cells #[.string P.s.t] 9)) N #[.string P.s.t] 9 := Blk.new' (by rw [← hN]; rfl) _ _; have hG0 : Fr base PT [] w (w.drew.alloc (.cells #[.string P.s.t] 9)) := ((Fr.refl base PT [] w).drew).alloc _; refine hK _ _ ⟨m0.blk.cell 20, m0.blk.cell 19, m0.blk.cell 11⟩ ?_; clear hK K; (try simp only [Act.put, zq1, zq2, zq3, zq4, zq5, zq6])
      refine plan_goS rfl rfl (fun K hK => ?_)
      go_simp; have m1 := m0.fr0 ((Fr.refl 0 [] [] _).alloc (.cells #[.string P.s.t] 9)); have hl2 := hl.alloc (.cells #[.string P.s.t] 9); have hb : Blk ((w.drew.alloc (.cells #[.string P.s.t] 9)).alloc (.cells #[.string P.s.t] 9)) (N + 1) #[.string P.s.t] 9 := Blk.new' (by simp [hN]) _ _; have hG1 := hG0.alloc (.cells #[.string P.s.t] 9); refine hK _ _ ⟨m1.blk.cell 20, m1.blk.cell 19, m1.blk.cell 11⟩ ?_; clear hK K; (try simp only [Act.put, zq1, zq2, zq3, zq4, zq5, zq6])
      refine plan_goS rfl rfl (fun K hK => ?_)
      refine wp_appo (t := P.s.t) (base := base) _ _ rfl rfl rfl (m1.rows.b) hb (by omega) (m1.bw) ?_; intro p1 n1 c1 w1 hO1 hat1 hF1; obtain ⟨m2, hFm1⟩ := m1.appB hO1 hat1 hF1; have hG2 := hG1.trans hFm1; have hl23 := hF1.blk hl2 (.inr ⟨own_lt h.rows.b (by omega), by simp⟩); refine hK _ _ ⟨m2.blk.cell 20, m2.blk.cell 19, m2.blk.cell 11⟩ ?_; clear hK K; (try simp only [Act.put, zq1, zq2, zq3, zq4, zq5, zq6])
      refine plan_go rfl (by kernel_rfl) rfl (fun K hK => ?_)
      refine wp_appo (t := P.s.t) (base := base) _ _ rfl rfl rfl (m2.rows.l) hl23 (by have := hA.hl; omega) (m2.bw) ?_; intro p2 n2 c2 w2 hO2 hat2 hF2; obtain ⟨m4, hFm2⟩ := m2.appL hO2 hat2 hF2; have hG4 := hG2.trans hFm2; refine hK _ _ ?_; clear hK K; have q20 : w2.cell? ⟨p, 20, none⟩ = some V.vb := m4.blk.cell 20; have q19 : w2.cell? ⟨p, 19, none⟩ = some V.vl := m4.blk.cell 19; have qf20 := m4.blk.frozen 20; have qf19 := m4.blk.frozen 19; have ql := m4.blk.lt; (try simp only [Act.put, zq1, zq2, zq3, zq4, zq5, zq6])
      repeat (first | (refine plan_pure (v := ?_) rfl rfl ?_ ?_; rotate_left; (intro w'; go_simp <;> with_reducible rfl); (try simp only [Act.put, zq1, zq2, zq3, zq4, zq5, zq6])))
      refine plan_go rfl (by kernel_rfl) rfl (fun K hK => ?_)
      go_simp; refine hK _ _ ?_; clear hK K; (try simp only [Act.put, zq1, zq2, zq3, zq4, zq5, zq6])
      repeat (first | (refine plan_pure (v := ?_) rfl rfl ?_ ?_; rotate_left; (intro w'; go_simp <;> with_reducible rfl); (try simp only [Act.put, zq1, zq2, zq3, zq4, zq5, zq6])))
      refine plan_go rfl (by kernel_rfl) rfl (fun K hK => ?_)
      go_simp; refine hK _ _ ?_; clear hK K; (try simp only [Act.put, zq1, zq2, zq3, zq4, zq5, zq6])
      refine plan_done ?_
      have m5 := m4.put (P0' := P) (V0' := { V with vb := .slice p1 n1 c1, bs := V.bs ++ [P.s.t] }) 20 (.slice p1 n1 c1) rfl
      have m6 : PlyM base _ p S ov hv (P.st (P.s.lined P.s.t)) { V with vb := .slice p1 n1 c1, bs := V.bs ++ [P.s.t], vl := .slice p2 n2 c2 } (P.st (P.s.lined P.s.t)) { V with vb := .slice p1 n1 c1, bs := V.bs ++ [P.s.t], vl := .slice p2 n2 c2 } := m5.put (P0' := P.st (P.s.lined P.s.t)) (V0' := { V with vb := .slice p1 n1 c1, bs := V.bs ++ [P.s.t], vl := .slice p2 n2 c2 }) 19 (.slice p2 n2 c2) rfl
      have hfin : EnR (nb + 1) base w p S ov hv P _ := ⟨_, m6.done, by show (V.bs ++ [P.s.t]).length ≤ nb + 1; simp; omega, (hG4.trans (m4.putF 20 _)).trans (m5.putF 19 _)⟩
      clear m5 m6
      go_wp2_with (fail)
      go_meet
      exact hfin
  case rest =>
  clear c11 c19 c20 hlt h hnb
  obtain ⟨V1, h1, hn1, hF1⟩ := hcut
  have HOV := Lib.hid hov
  have HA := Lib.hid hA
  clear hov hA hN
  have c11 : wc.cell? ⟨p, 11, none⟩ = some (.string P.s.t) := (plC h1.blk).c11
  have hlt := h1.blk.lt
  have empty_list : ∀ x : ByteArray, x = .empty → x.toList = [] := fun x e => by rw [e, ByteArray.toList_eq]; rfl
  have ne_list : ∀ x : ByteArray, x ≠ .empty → x.toList ≠ [] := fun x e e2 => e (str_inj (by rw [e2, ByteArray.toList_eq]; rfl))
  have ne_list2 : ∀ x : ByteArray, x ≠ .empty → x.toList.isEmpty = false := fun x e => by cases hq : x.toList with | nil => exact absurd hq (ne_list x e) | cons => rfl
  have ne_list3 : ∀ x : ByteArray, x ≠ .empty → (x.toList == []) = false := fun x e => by cases hq : x.toList with | nil => exact absurd hq (ne_list x e) | cons => rfl
  by_cases hz : P.s.t = .empty
  · have hex : decide (S.exit ≠ .empty ∧ P.s.t = S.exit) = false := by rw [hz]; simp; exact fun a b => a b.symm
    have hran : P.s.ran = { (P.s.lined P.s.t) with t := .empty, k := 0 } := by unfold PS.ran PS.enter; rw [if_pos hz]; rfl
    have HR : Hid ((⟨{ (P.s.lined P.s.t) with t := .empty, k := 0 }, P.over, P.opn⟩ : PL) = R) := by have h9 := HR0.out; rw [hran, hex] at h9; rw [HOV.out]; exact h9
    have hse : P.s.t.toList = [] := empty_list _ hz
    have hFW := hF1
    have hnV := hn1
    by_cases hx : S.exit = .empty
    · have hxe : S.exit.toList = [] := empty_list _ hx
      clear hz hran hex hx empty_list ne_list ne_list2 ne_list3
      go_wp2_with (fail)
      have hC := plC h1.blk
      have d10 : (wc).cell? ⟨p, 10, none⟩ = some (.string S.exit) := hC.c10
      have d11 : (wc).cell? ⟨p, 11, none⟩ = some (.string P.s.t) := hC.c11
      have d12 : (wc).cell? ⟨p, 12, none⟩ = some (.int .i64 P.s.k) := hC.c12
      have d21 : (wc).cell? ⟨p, 21, none⟩ = some (.bool P.over) := hC.c21
      have d22 : (wc).cell? ⟨p, 22, none⟩ = some (.bool V1.left) := hC.c22
      have e11 := hC.f 11
      have e12 := hC.f 12
      have e21 := hC.f 21
      have e22 := hC.f 22
      have elt := hC.lt
      clear hC
      have hS : (fun w' : World => w'.cell? ⟨p, 10, none⟩ = some (.string S.exit) ∧ w'.cell? ⟨p, 11, none⟩ = some (.string P.s.t)) (wc) := ⟨d10, d11⟩
      refine wp_region_plan [4, 11, 16] [] (fun w' : World => w'.cell? ⟨p, 10, none⟩ = some (.string S.exit) ∧ w'.cell? ⟨p, 11, none⟩ = some (.string P.s.t)) (.pure 0 (.pure 1 (.pure 2 (.pure 3 (.take 4 (.pure 5 (.pure 6 (.pure 7 (.pure 8 (.pure 9 (.pure 10 (.take 11 (.pure 12 (.pure 13 (.pure 14 (.pure 15 (.take 16 (.pure 17 (.pure 18 .done))))))))))))))))))) hmix (by kernel_rfl) ?_
      repeat (first | (refine plan_move rfl rfl rfl ?_; (try simp only [Act.put, zq1, zq2, zq3, zq4, zq5, zq6])) | (refine plan_skipP rfl rfl ?_; (try simp only [Act.put, zq1, zq2, zq3, zq4, zq5, zq6])) | (refine plan_skip rfl hS rfl ?_; (try simp only [Act.put, zq1, zq2, zq3, zq4, zq5, zq6])) | (refine plan_pure (v := ?_) rfl rfl ?_ ?_; rotate_left; (intro w'; go_simp <;> with_reducible rfl); (try simp only [Act.put, zq1, zq2, zq3, zq4, zq5, zq6])) | (refine plan_take (v := ?_) rfl hS rfl ?_ ?_; rotate_left; (intro w' hSw; (try dsimp only at hSw); go_simp <;> with_reducible rfl); (try simp only [Act.put, zq1, zq2, zq3, zq4, zq5, zq6])))
      refine plan_done ?_
      go_wp2_with (fail)
      go_ret
      have y0 := h1.fr0 ((Fr.refl 0 [] [] (wc)).drew)
      have y3 := y0.put 11 (.string .empty) (P' := ⟨{ (P.s.lined P.s.t) with t := .empty }, P.over, P.opn⟩) (V' := V1) rfl rfl rfl rfl rfl ⟨rfl, rfl, rfl, rfl, rfl, rfl⟩ rfl rfl
      have y4 := y3.put 12 (.int .i64 0) (P' := ⟨{ (P.s.lined P.s.t) with t := .empty, k := 0 }, P.over, P.opn⟩) (V' := V1) rfl rfl rfl rfl rfl ⟨rfl, rfl, rfl, rfl, rfl, rfl⟩ rfl rfl
      rw [← HR.out]
      exact ⟨rfl, ⟨_, y4, hnV⟩, ((hFW.drew).trans (y0.putF 11 _)).trans (y3.putF 12 _)⟩
    · have hx1 : S.exit.toList ≠ [] := ne_list _ hx
      have hx2 := ne_list2 _ hx
      have hx3 := ne_list3 _ hx
      have hx4 : ([] == S.exit.toList) = false := by cases hq : S.exit.toList with | nil => exact absurd hq hx1 | cons => rfl
      clear hz hran hex hx empty_list ne_list ne_list2 ne_list3
      go_wp2_with (fail)
      have hC := plC h1.blk
      have d10 : (wc).cell? ⟨p, 10, none⟩ = some (.string S.exit) := hC.c10
      have d11 : (wc).cell? ⟨p, 11, none⟩ = some (.string P.s.t) := hC.c11
      have d12 : (wc).cell? ⟨p, 12, none⟩ = some (.int .i64 P.s.k) := hC.c12
      have d21 : (wc).cell? ⟨p, 21, none⟩ = some (.bool P.over) := hC.c21
      have d22 : (wc).cell? ⟨p, 22, none⟩ = some (.bool V1.left) := hC.c22
      have e11 := hC.f 11
      have e12 := hC.f 12
      have e21 := hC.f 21
      have e22 := hC.f 22
      have elt := hC.lt
      clear hC
      have hS : (fun w' : World => w'.cell? ⟨p, 10, none⟩ = some (.string S.exit) ∧ w'.cell? ⟨p, 11, none⟩ = some (.string P.s.t)) (wc) := ⟨d10, d11⟩
      refine wp_region_plan [4, 11, 16] [] (fun w' : World => w'.cell? ⟨p, 10, none⟩ = some (.string S.exit) ∧ w'.cell? ⟨p, 11, none⟩ = some (.string P.s.t)) (.pure 0 (.pure 1 (.pure 2 (.pure 3 (.take 4 (.pure 5 (.pure 6 (.pure 7 (.pure 8 (.pure 9 (.pure 10 (.take 11 (.pure 12 (.pure 13 (.pure 14 (.pure 15 (.take 16 (.pure 17 (.pure 18 .done))))))))))))))))))) hmix (by kernel_rfl) ?_
      repeat (first | (refine plan_move rfl rfl rfl ?_; (try simp only [Act.put, zq1, zq2, zq3, zq4, zq5, zq6])) | (refine plan_skipP rfl rfl ?_; (try simp only [Act.put, zq1, zq2, zq3, zq4, zq5, zq6])) | (refine plan_skip rfl hS rfl ?_; (try simp only [Act.put, zq1, zq2, zq3, zq4, zq5, zq6])) | (refine plan_pure (v := ?_) rfl rfl ?_ ?_; rotate_left; (intro w'; go_simp <;> with_reducible rfl); (try simp only [Act.put, zq1, zq2, zq3, zq4, zq5, zq6])) | (refine plan_take (v := ?_) rfl hS rfl ?_ ?_; rotate_left; (intro w' hSw; (try dsimp only at hSw); go_simp <;> with_reducible rfl); (try simp only [Act.put, zq1, zq2, zq3, zq4, zq5, zq6])))
      refine plan_done ?_
      go_wp2_with (fail)
      go_ret
      have y0 := h1.fr0 ((Fr.refl 0 [] [] (wc)).drew)
      have y3 := y0.put 11 (.string .empty) (P' := ⟨{ (P.s.lined P.s.t) with t := .empty }, P.over, P.opn⟩) (V' := V1) rfl rfl rfl rfl rfl ⟨rfl, rfl, rfl, rfl, rfl, rfl⟩ rfl rfl
      have y4 := y3.put 12 (.int .i64 0) (P' := ⟨{ (P.s.lined P.s.t) with t := .empty, k := 0 }, P.over, P.opn⟩) (V' := V1) rfl rfl rfl rfl rfl ⟨rfl, rfl, rfl, rfl, rfl, rfl⟩ rfl rfl
      rw [← HR.out]
      exact ⟨rfl, ⟨_, y4, hnV⟩, ((hFW.drew).trans (y0.putF 11 _)).trans (y3.putF 12 _)⟩
  · have hran : P.s.ran = { ((P.s.lined P.s.t).added P.s.t).cleared with t := .empty, k := 0 } := by
      unfold PS.ran PS.enter
      rw [if_neg hz]
      show PS.mk _ _ _ _ _ _ _ _ _ = PS.mk _ _ _ _ _ _ _ _ _
      congr 1
      simp [PS.added, PS.lined, PS.cleared]
    have hz1 : P.s.t.toList ≠ [] := ne_list _ hz
    have hz2 := ne_list2 _ hz
    have hz3 := ne_list3 _ hz
    by_cases hx : S.exit = .empty
    · have hxe : S.exit.toList = [] := empty_list _ hx
      have hex : decide (S.exit ≠ .empty ∧ P.s.t = S.exit) = false := by rw [hx]; simp
      have HR : Hid ((⟨{ ((P.s.lined P.s.t).added P.s.t).cleared with t := .empty, k := 0 }, P.over, P.opn⟩ : PL) = R) := by have h9 := HR0.out; rw [hran, hex] at h9; rw [HOV.out]; exact h9
      clear hz hran hex hx empty_list ne_list ne_list2 ne_list3
      have hC := plC h1.blk
      have d16 : wc.cell? ⟨p, 16, none⟩ = some V1.va := hC.c16
      clear hC
      go_wp2_with (fail)
      have hS : (fun w' : World => w'.cell? ⟨p, 16, none⟩ = some V1.va ∧ w'.cell? ⟨p, 11, none⟩ = some (.string P.s.t)) wc.drew := ⟨d16, c11⟩
      refine wp_region_plan [4, 9] [10, 11, 14] (fun w' : World => w'.cell? ⟨p, 16, none⟩ = some V1.va ∧ w'.cell? ⟨p, 11, none⟩ = some (.string P.s.t)) (.pure 0 (.pure 1 (.pure 2 (.pure 3 (.take 4 (.pure 5 (.pure 6 (.pure 7 (.pure 8 (.take 9 (.go 10 (.go 11 (.pure 12 (.pure 13 (.go 14 .done))))))))))))))) hmix (by kernel_rfl) ?_
      repeat (first | (refine plan_move rfl rfl rfl ?_; (try simp only [Act.put, zq1, zq2, zq3, zq4, zq5, zq6])) | (refine plan_pure (v := ?_) rfl rfl ?_ ?_; rotate_left; (intro w'; go_simp <;> with_reducible rfl); (try simp only [Act.put, zq1, zq2, zq3, zq4, zq5, zq6])) | (refine plan_take (v := ?_) rfl hS rfl ?_ ?_; rotate_left; (intro w' hSw; (try dsimp only at hSw); go_simp <;> with_reducible rfl); (try simp only [Act.put, zq1, zq2, zq3, zq4, zq5, zq6])))
      refine plan_goS rfl rfl (fun K hK => ?_)
      go_simp; have m0 := (h1.fr0 (((Fr.refl 0 [] [] wc).drew).alloc (.cells #[.string P.s.t] 9))).mid; have hG0 : Fr base PT [] w (wc.drew.alloc (.cells #[.string P.s.t] 9)) := (hF1.drew).alloc _; refine hK _ _ ⟨m0.blk.cell 16, m0.blk.cell 11⟩ ?_; clear hK K; (try simp only [Act.put, zq1, zq2, zq3, zq4, zq5, zq6])
      refine plan_go rfl (by kernel_rfl) rfl (fun K hK => ?_)
      refine wp_apps (base := base) (ys := [P.s.t]) _ _ rfl rfl rfl m0.rows.a m0.rows.ab (one_text wc.drew _) (by have := HA.out.hhl; show P.s.hs.length + 1 ≤ 1000000; omega) ?_; intro g1 c1 w1 hS1 hg1 hFa; obtain ⟨m1, hFm⟩ := m0.appA hS1 hg1 hFa; have hG1 := hG0.trans hFm; refine hK _ _ ?_; clear hK K; have q16 : w1.cell? ⟨p, 16, none⟩ = some V1.va := m1.blk.cell 16; have qf16 := m1.blk.frozen 16; have ql := m1.blk.lt; (try simp only [Act.put, zq1, zq2, zq3, zq4, zq5, zq6])
      repeat (first | (refine plan_pure (v := ?_) rfl rfl ?_ ?_; rotate_left; (intro w'; go_simp <;> with_reducible rfl); (try simp only [Act.put, zq1, zq2, zq3, zq4, zq5, zq6])))
      refine plan_go rfl (by kernel_rfl) rfl (fun K hK => ?_)
      go_simp; refine hK _ _ ?_; clear hK K; (try simp only [Act.put, zq1, zq2, zq3, zq4, zq5, zq6])
      refine plan_done ?_
      have m2 : PlyM base _ p S ov hv (P.st ((P.s.lined P.s.t).added P.s.t)) { V1 with va := .slice (some ⟨g1, 0, none⟩) (P.s.hs.length + 1) c1, ga := g1 } (P.st ((P.s.lined P.s.t).added P.s.t)) { V1 with va := .slice (some ⟨g1, 0, none⟩) (P.s.hs.length + 1) c1, ga := g1 } := m1.put 16 (.slice (some ⟨g1, 0, none⟩) (P.s.hs.length + 1) c1) rfl
      have hG2 := hG1.trans (m1.putF 16 (.slice (some ⟨g1, 0, none⟩) (P.s.hs.length + 1) c1))
      have m3 := m2.done.toPly0
      go_wp2_with (fail)
      refine (pClear_c (nb := nb + 1) m3 hn1 (by have := HA.out.hhl; show (P.s.hs ++ [P.s.t]).length ≤ 1000; simp; omega)).mono ?_
      rintro e w5 ⟨rfl, ⟨V2, h2, hnV⟩, hF2⟩
      have hFW := hG2.trans hF2
      clear m0 m1 m2 m3 q16 qf16 ql hG0 hG1 hG2 hF2 hFm hFa hS1 hg1 d16
      go_wp2_with (fail)
      have hC := plC h2.blk
      have d10 : (w5).cell? ⟨p, 10, none⟩ = some (.string S.exit) := hC.c10
      have d11 : (w5).cell? ⟨p, 11, none⟩ = some (.string P.s.t) := hC.c11
      have d12 : (w5).cell? ⟨p, 12, none⟩ = some (.int .i64 P.s.k) := hC.c12
      have d21 : (w5).cell? ⟨p, 21, none⟩ = some (.bool P.over) := hC.c21
      have d22 : (w5).cell? ⟨p, 22, none⟩ = some (.bool V2.left) := hC.c22
      have e11 := hC.f 11
      have e12 := hC.f 12
      have e21 := hC.f 21
      have e22 := hC.f 22
      have elt := hC.lt
      clear hC
      have hS : (fun w' : World => w'.cell? ⟨p, 10, none⟩ = some (.string S.exit) ∧ w'.cell? ⟨p, 11, none⟩ = some (.string P.s.t)) (w5) := ⟨d10, d11⟩
      refine wp_region_plan [4, 11, 16] [] (fun w' : World => w'.cell? ⟨p, 10, none⟩ = some (.string S.exit) ∧ w'.cell? ⟨p, 11, none⟩ = some (.string P.s.t)) (.pure 0 (.pure 1 (.pure 2 (.pure 3 (.take 4 (.pure 5 (.pure 6 (.pure 7 (.pure 8 (.pure 9 (.pure 10 (.take 11 (.pure 12 (.pure 13 (.pure 14 (.pure 15 (.take 16 (.pure 17 (.pure 18 .done))))))))))))))))))) hmix (by kernel_rfl) ?_
      repeat (first | (refine plan_move rfl rfl rfl ?_; (try simp only [Act.put, zq1, zq2, zq3, zq4, zq5, zq6])) | (refine plan_skipP rfl rfl ?_; (try simp only [Act.put, zq1, zq2, zq3, zq4, zq5, zq6])) | (refine plan_skip rfl hS rfl ?_; (try simp only [Act.put, zq1, zq2, zq3, zq4, zq5, zq6])) | (refine plan_pure (v := ?_) rfl rfl ?_ ?_; rotate_left; (intro w'; go_simp <;> with_reducible rfl); (try simp only [Act.put, zq1, zq2, zq3, zq4, zq5, zq6])) | (refine plan_take (v := ?_) rfl hS rfl ?_ ?_; rotate_left; (intro w' hSw; (try dsimp only at hSw); go_simp <;> with_reducible rfl); (try simp only [Act.put, zq1, zq2, zq3, zq4, zq5, zq6])))
      refine plan_done ?_
      go_wp2_with (fail)
      go_ret
      have y0 := h2.fr0 ((Fr.refl 0 [] [] (w5)).drew)
      have y3 := y0.put 11 (.string .empty) (P' := ⟨{ (((P.s.lined P.s.t).added P.s.t).cleared) with t := .empty }, P.over, P.opn⟩) (V' := V2) rfl rfl rfl rfl rfl ⟨rfl, rfl, rfl, rfl, rfl, rfl⟩ rfl rfl
      have y4 := y3.put 12 (.int .i64 0) (P' := ⟨{ (((P.s.lined P.s.t).added P.s.t).cleared) with t := .empty, k := 0 }, P.over, P.opn⟩) (V' := V2) rfl rfl rfl rfl rfl ⟨rfl, rfl, rfl, rfl, rfl, rfl⟩ rfl rfl
      rw [← HR.out]
      exact ⟨rfl, ⟨_, y4, hnV⟩, ((hFW.drew).trans (y0.putF 11 _)).trans (y3.putF 12 _)⟩
    · have hx1 : S.exit.toList ≠ [] := ne_list _ hx
      have hx2 := ne_list2 _ hx
      have hx3 := ne_list3 _ hx
      by_cases he : P.s.t = S.exit
      · have hex : decide (S.exit ≠ .empty ∧ P.s.t = S.exit) = true := by simpa using And.intro hx he
        have HR : Hid ((⟨{ ((P.s.lined P.s.t).added P.s.t).cleared with t := .empty, k := 0 }, true, P.opn⟩ : PL) = R) := by have h9 := HR0.out; rw [hran, hex] at h9; exact h9
        have he1 : (P.s.t.toList == S.exit.toList) = true := by rw [he]; simp
        clear hz hran hex hx he empty_list ne_list ne_list2 ne_list3
        have hC := plC h1.blk
        have d16 : wc.cell? ⟨p, 16, none⟩ = some V1.va := hC.c16
        clear hC
        go_wp2_with (fail)
        have hS : (fun w' : World => w'.cell? ⟨p, 16, none⟩ = some V1.va ∧ w'.cell? ⟨p, 11, none⟩ = some (.string P.s.t)) wc.drew := ⟨d16, c11⟩
        refine wp_region_plan [4, 9] [10, 11, 14] (fun w' : World => w'.cell? ⟨p, 16, none⟩ = some V1.va ∧ w'.cell? ⟨p, 11, none⟩ = some (.string P.s.t)) (.pure 0 (.pure 1 (.pure 2 (.pure 3 (.take 4 (.pure 5 (.pure 6 (.pure 7 (.pure 8 (.take 9 (.go 10 (.go 11 (.pure 12 (.pure 13 (.go 14 .done))))))))))))))) hmix (by kernel_rfl) ?_
        repeat (first | (refine plan_move rfl rfl rfl ?_; (try simp only [Act.put, zq1, zq2, zq3, zq4, zq5, zq6])) | (refine plan_pure (v := ?_) rfl rfl ?_ ?_; rotate_left; (intro w'; go_simp <;> with_reducible rfl); (try simp only [Act.put, zq1, zq2, zq3, zq4, zq5, zq6])) | (refine plan_take (v := ?_) rfl hS rfl ?_ ?_; rotate_left; (intro w' hSw; (try dsimp only at hSw); go_simp <;> with_reducible rfl); (try simp only [Act.put, zq1, zq2, zq3, zq4, zq5, zq6])))
        refine plan_goS rfl rfl (fun K hK => ?_)
        go_simp; have m0 := (h1.fr0 (((Fr.refl 0 [] [] wc).drew).alloc (.cells #[.string P.s.t] 9))).mid; have hG0 : Fr base PT [] w (wc.drew.alloc (.cells #[.string P.s.t] 9)) := (hF1.drew).alloc _; refine hK _ _ ⟨m0.blk.cell 16, m0.blk.cell 11⟩ ?_; clear hK K; (try simp only [Act.put, zq1, zq2, zq3, zq4, zq5, zq6])
        refine plan_go rfl (by kernel_rfl) rfl (fun K hK => ?_)
        refine wp_apps (base := base) (ys := [P.s.t]) _ _ rfl rfl rfl m0.rows.a m0.rows.ab (one_text wc.drew _) (by have := HA.out.hhl; show P.s.hs.length + 1 ≤ 1000000; omega) ?_; intro g1 c1 w1 hS1 hg1 hFa; obtain ⟨m1, hFm⟩ := m0.appA hS1 hg1 hFa; have hG1 := hG0.trans hFm; refine hK _ _ ?_; clear hK K; have q16 : w1.cell? ⟨p, 16, none⟩ = some V1.va := m1.blk.cell 16; have qf16 := m1.blk.frozen 16; have ql := m1.blk.lt; (try simp only [Act.put, zq1, zq2, zq3, zq4, zq5, zq6])
        repeat (first | (refine plan_pure (v := ?_) rfl rfl ?_ ?_; rotate_left; (intro w'; go_simp <;> with_reducible rfl); (try simp only [Act.put, zq1, zq2, zq3, zq4, zq5, zq6])))
        refine plan_go rfl (by kernel_rfl) rfl (fun K hK => ?_)
        go_simp; refine hK _ _ ?_; clear hK K; (try simp only [Act.put, zq1, zq2, zq3, zq4, zq5, zq6])
        refine plan_done ?_
        have m2 : PlyM base _ p S ov hv (P.st ((P.s.lined P.s.t).added P.s.t)) { V1 with va := .slice (some ⟨g1, 0, none⟩) (P.s.hs.length + 1) c1, ga := g1 } (P.st ((P.s.lined P.s.t).added P.s.t)) { V1 with va := .slice (some ⟨g1, 0, none⟩) (P.s.hs.length + 1) c1, ga := g1 } := m1.put 16 (.slice (some ⟨g1, 0, none⟩) (P.s.hs.length + 1) c1) rfl
        have hG2 := hG1.trans (m1.putF 16 (.slice (some ⟨g1, 0, none⟩) (P.s.hs.length + 1) c1))
        have m3 := m2.done.toPly0
        go_wp2_with (fail)
        refine (pClear_c (nb := nb + 1) m3 hn1 (by have := HA.out.hhl; show (P.s.hs ++ [P.s.t]).length ≤ 1000; simp; omega)).mono ?_
        rintro e w5 ⟨rfl, ⟨V2, h2, hnV⟩, hF2⟩
        have hFW := hG2.trans hF2
        clear m0 m1 m2 m3 q16 qf16 ql hG0 hG1 hG2 hF2 hFm hFa hS1 hg1 d16
        go_wp2_with (fail)
        have hC := plC h2.blk
        have d10 : (w5).cell? ⟨p, 10, none⟩ = some (.string S.exit) := hC.c10
        have d11 : (w5).cell? ⟨p, 11, none⟩ = some (.string P.s.t) := hC.c11
        have d12 : (w5).cell? ⟨p, 12, none⟩ = some (.int .i64 P.s.k) := hC.c12
        have d21 : (w5).cell? ⟨p, 21, none⟩ = some (.bool P.over) := hC.c21
        have d22 : (w5).cell? ⟨p, 22, none⟩ = some (.bool V2.left) := hC.c22
        have e11 := hC.f 11
        have e12 := hC.f 12
        have e21 := hC.f 21
        have e22 := hC.f 22
        have elt := hC.lt
        clear hC
        have hS : (fun w' : World => w'.cell? ⟨p, 10, none⟩ = some (.string S.exit) ∧ w'.cell? ⟨p, 11, none⟩ = some (.string P.s.t)) (w5) := ⟨d10, d11⟩
        refine wp_region_plan [4, 11, 16] [] (fun w' : World => w'.cell? ⟨p, 10, none⟩ = some (.string S.exit) ∧ w'.cell? ⟨p, 11, none⟩ = some (.string P.s.t)) (.pure 0 (.pure 1 (.pure 2 (.pure 3 (.take 4 (.pure 5 (.pure 6 (.pure 7 (.pure 8 (.pure 9 (.pure 10 (.take 11 (.pure 12 (.pure 13 (.pure 14 (.pure 15 (.take 16 (.pure 17 (.pure 18 .done))))))))))))))))))) hmix (by kernel_rfl) ?_
        repeat (first | (refine plan_move rfl rfl rfl ?_; (try simp only [Act.put, zq1, zq2, zq3, zq4, zq5, zq6])) | (refine plan_skipP rfl rfl ?_; (try simp only [Act.put, zq1, zq2, zq3, zq4, zq5, zq6])) | (refine plan_skip rfl hS rfl ?_; (try simp only [Act.put, zq1, zq2, zq3, zq4, zq5, zq6])) | (refine plan_pure (v := ?_) rfl rfl ?_ ?_; rotate_left; (intro w'; go_simp <;> with_reducible rfl); (try simp only [Act.put, zq1, zq2, zq3, zq4, zq5, zq6])) | (refine plan_take (v := ?_) rfl hS rfl ?_ ?_; rotate_left; (intro w' hSw; (try dsimp only at hSw); go_simp <;> with_reducible rfl); (try simp only [Act.put, zq1, zq2, zq3, zq4, zq5, zq6])))
        refine plan_done ?_
        go_wp2_with (fail)
        go_ret
        have y0 := h2.fr0 ((Fr.refl 0 [] [] (w5)).drew)
        have y1 := y0.put 21 (.bool true) (P' := ⟨((P.s.lined P.s.t).added P.s.t).cleared, true, P.opn⟩) (V' := V2) rfl rfl rfl rfl rfl ⟨rfl, rfl, rfl, rfl, rfl, rfl⟩ rfl rfl
        have y2 := y1.put 22 (.bool true) (P' := ⟨((P.s.lined P.s.t).added P.s.t).cleared, true, P.opn⟩) (V' := { V2 with left := true }) rfl rfl rfl rfl rfl ⟨rfl, rfl, rfl, rfl, rfl, rfl⟩ rfl rfl
        have y3 := y2.put 11 (.string .empty) (P' := ⟨{ (((P.s.lined P.s.t).added P.s.t).cleared) with t := .empty }, true, P.opn⟩) (V' := { V2 with left := true }) rfl rfl rfl rfl rfl ⟨rfl, rfl, rfl, rfl, rfl, rfl⟩ rfl rfl
        have y4 := y3.put 12 (.int .i64 0) (P' := ⟨{ (((P.s.lined P.s.t).added P.s.t).cleared) with t := .empty, k := 0 }, true, P.opn⟩) (V' := { V2 with left := true }) rfl rfl rfl rfl rfl ⟨rfl, rfl, rfl, rfl, rfl, rfl⟩ rfl rfl
        rw [← HR.out]
        exact ⟨rfl, ⟨_, y4, hnV⟩, ((((hFW.drew).trans (y0.putF 21 _)).trans (y1.putF 22 _)).trans (y2.putF 11 _)).trans (y3.putF 12 _)⟩
      · have hex : decide (S.exit ≠ .empty ∧ P.s.t = S.exit) = false := by simp [he]
        have HR : Hid ((⟨{ ((P.s.lined P.s.t).added P.s.t).cleared with t := .empty, k := 0 }, P.over, P.opn⟩ : PL) = R) := by have h9 := HR0.out; rw [hran, hex] at h9; rw [HOV.out]; exact h9
        have he1 := str_ne he
        clear hz hran hex hx he empty_list ne_list ne_list2 ne_list3
        have hC := plC h1.blk
        have d16 : wc.cell? ⟨p, 16, none⟩ = some V1.va := hC.c16
        clear hC
        go_wp2_with (fail)
        have hS : (fun w' : World => w'.cell? ⟨p, 16, none⟩ = some V1.va ∧ w'.cell? ⟨p, 11, none⟩ = some (.string P.s.t)) wc.drew := ⟨d16, c11⟩
        refine wp_region_plan [4, 9] [10, 11, 14] (fun w' : World => w'.cell? ⟨p, 16, none⟩ = some V1.va ∧ w'.cell? ⟨p, 11, none⟩ = some (.string P.s.t)) (.pure 0 (.pure 1 (.pure 2 (.pure 3 (.take 4 (.pure 5 (.pure 6 (.pure 7 (.pure 8 (.take 9 (.go 10 (.go 11 (.pure 12 (.pure 13 (.go 14 .done))))))))))))))) hmix (by kernel_rfl) ?_
        repeat (first | (refine plan_move rfl rfl rfl ?_; (try simp only [Act.put, zq1, zq2, zq3, zq4, zq5, zq6])) | (refine plan_pure (v := ?_) rfl rfl ?_ ?_; rotate_left; (intro w'; go_simp <;> with_reducible rfl); (try simp only [Act.put, zq1, zq2, zq3, zq4, zq5, zq6])) | (refine plan_take (v := ?_) rfl hS rfl ?_ ?_; rotate_left; (intro w' hSw; (try dsimp only at hSw); go_simp <;> with_reducible rfl); (try simp only [Act.put, zq1, zq2, zq3, zq4, zq5, zq6])))
        refine plan_goS rfl rfl (fun K hK => ?_)
        go_simp; have m0 := (h1.fr0 (((Fr.refl 0 [] [] wc).drew).alloc (.cells #[.string P.s.t] 9))).mid; have hG0 : Fr base PT [] w (wc.drew.alloc (.cells #[.string P.s.t] 9)) := (hF1.drew).alloc _; refine hK _ _ ⟨m0.blk.cell 16, m0.blk.cell 11⟩ ?_; clear hK K; (try simp only [Act.put, zq1, zq2, zq3, zq4, zq5, zq6])
        refine plan_go rfl (by kernel_rfl) rfl (fun K hK => ?_)
        refine wp_apps (base := base) (ys := [P.s.t]) _ _ rfl rfl rfl m0.rows.a m0.rows.ab (one_text wc.drew _) (by have := HA.out.hhl; show P.s.hs.length + 1 ≤ 1000000; omega) ?_; intro g1 c1 w1 hS1 hg1 hFa; obtain ⟨m1, hFm⟩ := m0.appA hS1 hg1 hFa; have hG1 := hG0.trans hFm; refine hK _ _ ?_; clear hK K; have q16 : w1.cell? ⟨p, 16, none⟩ = some V1.va := m1.blk.cell 16; have qf16 := m1.blk.frozen 16; have ql := m1.blk.lt; (try simp only [Act.put, zq1, zq2, zq3, zq4, zq5, zq6])
        repeat (first | (refine plan_pure (v := ?_) rfl rfl ?_ ?_; rotate_left; (intro w'; go_simp <;> with_reducible rfl); (try simp only [Act.put, zq1, zq2, zq3, zq4, zq5, zq6])))
        refine plan_go rfl (by kernel_rfl) rfl (fun K hK => ?_)
        go_simp; refine hK _ _ ?_; clear hK K; (try simp only [Act.put, zq1, zq2, zq3, zq4, zq5, zq6])
        refine plan_done ?_
        have m2 : PlyM base _ p S ov hv (P.st ((P.s.lined P.s.t).added P.s.t)) { V1 with va := .slice (some ⟨g1, 0, none⟩) (P.s.hs.length + 1) c1, ga := g1 } (P.st ((P.s.lined P.s.t).added P.s.t)) { V1 with va := .slice (some ⟨g1, 0, none⟩) (P.s.hs.length + 1) c1, ga := g1 } := m1.put 16 (.slice (some ⟨g1, 0, none⟩) (P.s.hs.length + 1) c1) rfl
        have hG2 := hG1.trans (m1.putF 16 (.slice (some ⟨g1, 0, none⟩) (P.s.hs.length + 1) c1))
        have m3 := m2.done.toPly0
        go_wp2_with (fail)
        refine (pClear_c (nb := nb + 1) m3 hn1 (by have := HA.out.hhl; show (P.s.hs ++ [P.s.t]).length ≤ 1000; simp; omega)).mono ?_
        rintro e w5 ⟨rfl, ⟨V2, h2, hnV⟩, hF2⟩
        have hFW := hG2.trans hF2
        clear m0 m1 m2 m3 q16 qf16 ql hG0 hG1 hG2 hF2 hFm hFa hS1 hg1 d16
        go_wp2_with (fail)
        have hC := plC h2.blk
        have d10 : (w5).cell? ⟨p, 10, none⟩ = some (.string S.exit) := hC.c10
        have d11 : (w5).cell? ⟨p, 11, none⟩ = some (.string P.s.t) := hC.c11
        have d12 : (w5).cell? ⟨p, 12, none⟩ = some (.int .i64 P.s.k) := hC.c12
        have d21 : (w5).cell? ⟨p, 21, none⟩ = some (.bool P.over) := hC.c21
        have d22 : (w5).cell? ⟨p, 22, none⟩ = some (.bool V2.left) := hC.c22
        have e11 := hC.f 11
        have e12 := hC.f 12
        have e21 := hC.f 21
        have e22 := hC.f 22
        have elt := hC.lt
        clear hC
        have hS : (fun w' : World => w'.cell? ⟨p, 10, none⟩ = some (.string S.exit) ∧ w'.cell? ⟨p, 11, none⟩ = some (.string P.s.t)) (w5) := ⟨d10, d11⟩
        refine wp_region_plan [4, 11, 16] [] (fun w' : World => w'.cell? ⟨p, 10, none⟩ = some (.string S.exit) ∧ w'.cell? ⟨p, 11, none⟩ = some (.string P.s.t)) (.pure 0 (.pure 1 (.pure 2 (.pure 3 (.take 4 (.pure 5 (.pure 6 (.pure 7 (.pure 8 (.pure 9 (.pure 10 (.take 11 (.pure 12 (.pure 13 (.pure 14 (.pure 15 (.take 16 (.pure 17 (.pure 18 .done))))))))))))))))))) hmix (by kernel_rfl) ?_
        repeat (first | (refine plan_move rfl rfl rfl ?_; (try simp only [Act.put, zq1, zq2, zq3, zq4, zq5, zq6])) | (refine plan_skipP rfl rfl ?_; (try simp only [Act.put, zq1, zq2, zq3, zq4, zq5, zq6])) | (refine plan_skip rfl hS rfl ?_; (try simp only [Act.put, zq1, zq2, zq3, zq4, zq5, zq6])) | (refine plan_pure (v := ?_) rfl rfl ?_ ?_; rotate_left; (intro w'; go_simp <;> with_reducible rfl); (try simp only [Act.put, zq1, zq2, zq3, zq4, zq5, zq6])) | (refine plan_take (v := ?_) rfl hS rfl ?_ ?_; rotate_left; (intro w' hSw; (try dsimp only at hSw); go_simp <;> with_reducible rfl); (try simp only [Act.put, zq1, zq2, zq3, zq4, zq5, zq6])))
        refine plan_done ?_
        go_wp2_with (fail)
        go_ret
        have y0 := h2.fr0 ((Fr.refl 0 [] [] (w5)).drew)
        have y3 := y0.put 11 (.string .empty) (P' := ⟨{ (((P.s.lined P.s.t).added P.s.t).cleared) with t := .empty }, P.over, P.opn⟩) (V' := V2) rfl rfl rfl rfl rfl ⟨rfl, rfl, rfl, rfl, rfl, rfl⟩ rfl rfl
        have y4 := y3.put 12 (.int .i64 0) (P' := ⟨{ (((P.s.lined P.s.t).added P.s.t).cleared) with t := .empty, k := 0 }, P.over, P.opn⟩) (V' := V2) rfl rfl rfl rfl rfl ⟨rfl, rfl, rfl, rfl, rfl, rfl⟩ rfl rfl
        rw [← HR.out]
        exact ⟨rfl, ⟨_, y4, hnV⟩, ((hFW.drew).trans (y0.putF 11 _)).trans (y3.putF 12 _)⟩
theorem act_enter1 {c : ByteArray} (h : Ply base w p S ov hv P V) (hnb : V.bs.length ≤ nb) (hnb9 : nb ≤ 1000) (hA : ActH P.s) (hov : P.over = false) (hc : c.toList = [10]) (cpl : Bool) :
    Calls Tryz.prog 57 #[.pointer (some ⟨p, 0, none⟩), .string c, .bool cpl] w (PlyPost (nb + 1) base p S ov hv { s := P.s.ran, over := decide (S.exit ≠ .empty ∧ P.s.t = S.exit), opn := P.opn } (.bool false) w) := by
  have hC := plC h.blk
  have c11 := hC.c11
  have c19 := hC.c19
  have c20 := hC.c20
  have hlt := hC.lt
  clear hC
  obtain ⟨N, hN⟩ : ∃ N, w.heap.size = N := ⟨_, rfl⟩
  obtain ⟨R, hR⟩ : ∃ R : PL, { s := P.s.ran, over := decide (S.exit ≠ .empty ∧ P.s.t = S.exit), opn := P.opn } = R := ⟨_, rfl⟩
  rw [hR]
  have HR0 := Lib.hid hR
  clear hR
  go_enter Tryz.func57, Tryz.ntmps57
  go_upto_region 6 with (fail)
  go_cut [39] from 27 to 54 (fun v39 wx => EnR (nb + 1) base w p S ov hv P wx)
  case first =>
    have hS : (fun w' : World => w'.cell? ⟨p, 20, none⟩ = some V.vb ∧ w'.cell? ⟨p, 19, none⟩ = some V.vl ∧ w'.cell? ⟨p, 11, none⟩ = some (.string P.s.t)) w.drew := ⟨c20, c19, c11⟩
    refine wp_region_plan [5, 10, 16, 21] [11, 12, 22, 23, 26, 29] (fun w' : World => w'.cell? ⟨p, 20, none⟩ = some V.vb ∧ w'.cell? ⟨p, 19, none⟩ = some V.vl ∧ w'.cell? ⟨p, 11, none⟩ = some (.string P.s.t)) (.pure 0 (.pure 1 (.pure 2 (.pure 3 (.pure 4 (.take 5 (.pure 6 (.pure 7 (.pure 8 (.pure 9 (.take 10 (.pure 13 (.pure 14 (.pure 15 (.take 16 (.pure 17 (.pure 18 (.pure 19 (.pure 20 (.take 21 (.go2 11 (.go2 12 (.go 22 (.go 23 (.pure 24 (.pure 25 (.go 26 (.pure 27 (.pure 28 (.go 29 .done)))))))) 22 (.go 12 (.go 23 (.pure 24 (.pure 25 (.go 26 (.pure 27 (.pure 28 (.go 29 .done))))))))) 22 (.go 11 (.go 12 (.go 23 (.pure 24 (.pure 25 (.go 26 (.pure 27 (.pure 28 (.go 29 .done)))))))))))))))))))))))))))))) hmix (by kernel_rfl) ?_
    repeat (first | (refine plan_move rfl rfl rfl ?_; (try simp only [Act.put, zq1, zq2, zq3, zq4, zq5, zq6])) | (refine plan_pure (v := ?_) rfl rfl ?_ ?_; rotate_left; (intro w'; go_simp <;> with_reducible rfl); (try simp only [Act.put, zq1, zq2, zq3, zq4, zq5, zq6])) | (refine plan_take (v := ?_) rfl hS rfl ?_ ?_; rotate_left; (intro w' hSw; (try dsimp only at hSw); go_simp <;> with_reducible rfl); (try simp only [Act.put, zq1, zq2, zq3, zq4, zq5, zq6])))
    refine plan_go2 rfl rfl rfl rfl (fun K hK => ?_) (fun K hK => ?_)
    · go_simp; have m0 := (h.fr0 (((Fr.refl 0 [] [] w).drew).alloc (.cells #[.string P.s.t] 9))).mid; have hb : Blk (w.drew.alloc (.cells #[.string P.s.t] 9)) N #[.string P.s.t] 9 := Blk.new' (by rw [← hN]; rfl) _ _; have hG0 : Fr base PT [] w (w.drew.alloc (.cells #[.string P.s.t] 9)) := ((Fr.refl base PT [] w).drew).alloc _; refine hK _ _ ⟨m0.blk.cell 20, m0.blk.cell 19, m0.blk.cell 11⟩ ?_; clear hK K; (try simp only [Act.put, zq1, zq2, zq3, zq4, zq5, zq6])
      refine plan_go2 rfl rfl rfl rfl (fun K hK => ?_) (fun K hK => ?_)
      · refine wp_appo (t := P.s.t) (base := base) _ _ rfl rfl rfl (m0.rows.b) hb (by omega) (m0.bw) ?_; intro p1 n1 c1 w1 hO1 hat1 hF1; obtain ⟨m2, hFm1⟩ := m0.appB hO1 hat1 hF1; have hG2 := hG0.trans hFm1; refine hK _ _ ⟨m2.blk.cell 20, m2.blk.cell 19, m2.blk.cell 11⟩ ?_; clear hK K; (try simp only [Act.put, zq1, zq2, zq3, zq4, zq5, zq6])
        refine plan_goS rfl rfl (fun K hK => ?_)
        go_simp; have m3 := m2.fr0 ((Fr.refl 0 [] [] w1).alloc (.cells #[.string P.s.t] 9)); have hL : Blk (w1.alloc (.cells #[.string P.s.t] 9)) w1.heap.size #[.string P.s.t] 9 := Blk.new _ _ _; have hG3 := hG2.alloc (.cells #[.string P.s.t] 9); refine hK _ _ ⟨m3.blk.cell 20, m3.blk.cell 19, m3.blk.cell 11⟩ ?_; clear hK K; (try simp only [Act.put, zq1, zq2, zq3, zq4, zq5, zq6])
        refine plan_go rfl (by kernel_rfl) rfl (fun K hK => ?_)
        refine wp_appo (t := P.s.t) (base := base) _ _ rfl rfl rfl (m3.rows.l) hL (by have := hA.hl; omega) (m3.bw) ?_; intro p2 n2 c2 w2 hO2 hat2 hF2; obtain ⟨m4, hFm2⟩ := m3.appL hO2 hat2 hF2; have hG4 := hG3.trans hFm2; refine hK _ _ ?_; clear hK K; have q20 : w2.cell? ⟨p, 20, none⟩ = some V.vb := m4.blk.cell 20; have q19 : w2.cell? ⟨p, 19, none⟩ = some V.vl := m4.blk.cell 19; have qf20 := m4.blk.frozen 20; have qf19 := m4.blk.frozen 19; have ql := m4.blk.lt; (try simp only [Act.put, zq1, zq2, zq3, zq4, zq5, zq6])
        repeat (first | (refine plan_pure (v := ?_) rfl rfl ?_ ?_; rotate_left; (intro w'; go_simp <;> with_reducible rfl); (try simp only [Act.put, zq1, zq2, zq3, zq4, zq5, zq6])))
        refine plan_go rfl (by kernel_rfl) rfl (fun K hK => ?_)
        go_simp; refine hK _ _ ?_; clear hK K; (try simp only [Act.put, zq1, zq2, zq3, zq4, zq5, zq6])
        repeat (first | (refine plan_pure (v := ?_) rfl rfl ?_ ?_; rotate_left; (intro w'; go_simp <;> with_reducible rfl); (try simp only [Act.put, zq1, zq2, zq3, zq4, zq5, zq6])))
        refine plan_go rfl (by kernel_rfl) rfl (fun K hK => ?_)
        go_simp; refine hK _ _ ?_; clear hK K; (try simp only [Act.put, zq1, zq2, zq3, zq4, zq5, zq6])
        refine plan_done ?_
        have m5 := m4.put (P0' := P) (V0' := { V with vb := .slice p1 n1 c1, bs := V.bs ++ [P.s.t] }) 20 (.slice p1 n1 c1) rfl
        have m6 : PlyM base _ p S ov hv (P.st (P.s.lined P.s.t)) { V with vb := .slice p1 n1 c1, bs := V.bs ++ [P.s.t], vl := .slice p2 n2 c2 } (P.st (P.s.lined P.s.t)) { V with vb := .slice p1 n1 c1, bs := V.bs ++ [P.s.t], vl := .slice p2 n2 c2 } := m5.put (P0' := P.st (P.s.lined P.s.t)) (V0' := { V with vb := .slice p1 n1 c1, bs := V.bs ++ [P.s.t], vl := .slice p2 n2 c2 }) 19 (.slice p2 n2 c2) rfl
        have hfin : EnR (nb + 1) base w p S ov hv P _ := ⟨_, m6.done, by show (V.bs ++ [P.s.t]).length ≤ nb + 1; simp; omega, (hG4.trans (m4.putF 20 _)).trans (m5.putF 19 _)⟩
        clear m5 m6
        go_wp2_with (fail)
        go_meet
        exact hfin
      · go_simp; have m1 := m0.fr0 ((Fr.refl 0 [] [] _).alloc (.cells #[.string P.s.t] 9)); have hb2 := hb.alloc (.cells #[.string P.s.t] 9); have hl : Blk ((w.drew.alloc (.cells #[.string P.s.t] 9)).alloc (.cells #[.string P.s.t] 9)) (N + 1) #[.string P.s.t] 9 := Blk.new' (by simp [hN]) _ _; have hG1 := hG0.alloc (.cells #[.string P.s.t] 9); refine hK _ _ ⟨m1.blk.cell 20, m1.blk.cell 19, m1.blk.cell 11⟩ ?_; clear hK K; (try simp only [Act.put, zq1, zq2, zq3, zq4, zq5, zq6])
        refine plan_goS rfl rfl (fun K hK => ?_)
        refine wp_appo (t := P.s.t) (base := base) _ _ rfl rfl rfl (m1.rows.b) hb2 (by omega) (m1.bw) ?_; intro p1 n1 c1 w1 hO1 hat1 hF1; obtain ⟨m2, hFm1⟩ := m1.appB hO1 hat1 hF1; have hG2 := hG1.trans hFm1; have hl3 := hF1.blk hl (.inr ⟨own_lt h.rows.b (by omega), by simp⟩); refine hK _ _ ⟨m2.blk.cell 20, m2.blk.cell 19, m2.blk.cell 11⟩ ?_; clear hK K; (try simp only [Act.put, zq1, zq2, zq3, zq4, zq5, zq6])
        refine plan_go rfl (by kernel_rfl) rfl (fun K hK => ?_)
        refine wp_appo (t := P.s.t) (base := base) _ _ rfl rfl rfl (m2.rows.l) hl3 (by have := hA.hl; omega) (m2.bw) ?_; intro p2 n2 c2 w2 hO2 hat2 hF2; obtain ⟨m4, hFm2⟩ := m2.appL hO2 hat2 hF2; have hG4 := hG2.trans hFm2; refine hK _ _ ?_; clear hK K; have q20 : w2.cell? ⟨p, 20, none⟩ = some V.vb := m4.blk.cell 20; have q19 : w2.cell? ⟨p, 19, none⟩ = some V.vl := m4.blk.cell 19; have qf20 := m4.blk.frozen 20; have qf19 := m4.blk.frozen 19; have ql := m4.blk.lt; (try simp only [Act.put, zq1, zq2, zq3, zq4, zq5, zq6])
        repeat (first | (refine plan_pure (v := ?_) rfl rfl ?_ ?_; rotate_left; (intro w'; go_simp <;> with_reducible rfl); (try simp only [Act.put, zq1, zq2, zq3, zq4, zq5, zq6])))
        refine plan_go rfl (by kernel_rfl) rfl (fun K hK => ?_)
        go_simp; refine hK _ _ ?_; clear hK K; (try simp only [Act.put, zq1, zq2, zq3, zq4, zq5, zq6])
        repeat (first | (refine plan_pure (v := ?_) rfl rfl ?_ ?_; rotate_left; (intro w'; go_simp <;> with_reducible rfl); (try simp only [Act.put, zq1, zq2, zq3, zq4, zq5, zq6])))
        refine plan_go rfl (by kernel_rfl) rfl (fun K hK => ?_)
        go_simp; refine hK _ _ ?_; clear hK K; (try simp only [Act.put, zq1, zq2, zq3, zq4, zq5, zq6])
        refine plan_done ?_
        have m5 := m4.put (P0' := P) (V0' := { V with vb := .slice p1 n1 c1, bs := V.bs ++ [P.s.t] }) 20 (.slice p1 n1 c1) rfl
        have m6 : PlyM base _ p S ov hv (P.st (P.s.lined P.s.t)) { V with vb := .slice p1 n1 c1, bs := V.bs ++ [P.s.t], vl := .slice p2 n2 c2 } (P.st (P.s.lined P.s.t)) { V with vb := .slice p1 n1 c1, bs := V.bs ++ [P.s.t], vl := .slice p2 n2 c2 } := m5.put (P0' := P.st (P.s.lined P.s.t)) (V0' := { V with vb := .slice p1 n1 c1, bs := V.bs ++ [P.s.t], vl := .slice p2 n2 c2 }) 19 (.slice p2 n2 c2) rfl
        have hfin : EnR (nb + 1) base w p S ov hv P _ := ⟨_, m6.done, by show (V.bs ++ [P.s.t]).length ≤ nb + 1; simp; omega, (hG4.trans (m4.putF 20 _)).trans (m5.putF 19 _)⟩
        clear m5 m6
        go_wp2_with (fail)
        go_meet
        exact hfin
    · go_simp; have m0 := (h.fr0 (((Fr.refl 0 [] [] w).drew).alloc (.cells #[.string P.s.t] 9))).mid; have hl : Blk (w.drew.alloc (.cells #[.string P.s.t] 9)) N #[.string P.s.t] 9 := Blk.new' (by rw [← hN]; rfl) _ _; have hG0 : Fr base PT [] w (w.drew.alloc (.cells #[.string P.s.t] 9)) := ((Fr.refl base PT [] w).drew).alloc _; refine hK _ _ ⟨m0.blk.cell 20, m0.blk.cell 19, m0.blk.cell 11⟩ ?_; clear hK K; (try simp only [Act.put, zq1, zq2, zq3, zq4, zq5, zq6])
      refine plan_goS rfl rfl (fun K hK => ?_)
      go_simp; have m1 := m0.fr0 ((Fr.refl 0 [] [] _).alloc (.cells #[.string P.s.t] 9)); have hl2 := hl.alloc (.cells #[.string P.s.t] 9); have hb : Blk ((w.drew.alloc (.cells #[.string P.s.t] 9)).alloc (.cells #[.string P.s.t] 9)) (N + 1) #[.string P.s.t] 9 := Blk.new' (by simp [hN]) _ _; have hG1 := hG0.alloc (.cells #[.string P.s.t] 9); refine hK _ _ ⟨m1.blk.cell 20, m1.blk.cell 19, m1.blk.cell 11⟩ ?_; clear hK K; (try simp only [Act.put, zq1, zq2, zq3, zq4, zq5, zq6])
      refine plan_goS rfl rfl (fun K hK => ?_)
      refine wp_appo (t := P.s.t) (base := base) _ _ rfl rfl rfl (m1.rows.b) hb (by omega) (m1.bw) ?_; intro p1 n1 c1 w1 hO1 hat1 hF1; obtain ⟨m2, hFm1⟩ := m1.appB hO1 hat1 hF1; have hG2 := hG1.trans hFm1; have hl23 := hF1.blk hl2 (.inr ⟨own_lt h.rows.b (by omega), by simp⟩); refine hK _ _ ⟨m2.blk.cell 20, m2.blk.cell 19, m2.blk.cell 11⟩ ?_; clear hK K; (try simp only [Act.put, zq1, zq2, zq3, zq4, zq5, zq6])
      refine plan_go rfl (by kernel_rfl) rfl (fun K hK => ?_)
      refine wp_appo (t := P.s.t) (base := base) _ _ rfl rfl rfl (m2.rows.l) hl23 (by have := hA.hl; omega) (m2.bw) ?_; intro p2 n2 c2 w2 hO2 hat2 hF2; obtain ⟨m4, hFm2⟩ := m2.appL hO2 hat2 hF2; have hG4 := hG2.trans hFm2; refine hK _ _ ?_; clear hK K; have q20 : w2.cell? ⟨p, 20, none⟩ = some V.vb := m4.blk.cell 20; have q19 : w2.cell? ⟨p, 19, none⟩ = some V.vl := m4.blk.cell 19; have qf20 := m4.blk.frozen 20; have qf19 := m4.blk.frozen 19; have ql := m4.blk.lt; (try simp only [Act.put, zq1, zq2, zq3, zq4, zq5, zq6])
      repeat (first | (refine plan_pure (v := ?_) rfl rfl ?_ ?_; rotate_left; (intro w'; go_simp <;> with_reducible rfl); (try simp only [Act.put, zq1, zq2, zq3, zq4, zq5, zq6])))
      refine plan_go rfl (by kernel_rfl) rfl (fun K hK => ?_)
      go_simp; refine hK _ _ ?_; clear hK K; (try simp only [Act.put, zq1, zq2, zq3, zq4, zq5, zq6])
      repeat (first | (refine plan_pure (v := ?_) rfl rfl ?_ ?_; rotate_left; (intro w'; go_simp <;> with_reducible rfl); (try simp only [Act.put, zq1, zq2, zq3, zq4, zq5, zq6])))
      refine plan_go rfl (by kernel_rfl) rfl (fun K hK => ?_)
      go_simp; refine hK _ _ ?_; clear hK K; (try simp only [Act.put, zq1, zq2, zq3, zq4, zq5, zq6])
      refine plan_done ?_
      have m5 := m4.put (P0' := P) (V0' := { V with vb := .slice p1 n1 c1, bs := V.bs ++ [P.s.t] }) 20 (.slice p1 n1 c1) rfl
      have m6 : PlyM base _ p S ov hv (P.st (P.s.lined P.s.t)) { V with vb := .slice p1 n1 c1, bs := V.bs ++ [P.s.t], vl := .slice p2 n2 c2 } (P.st (P.s.lined P.s.t)) { V with vb := .slice p1 n1 c1, bs := V.bs ++ [P.s.t], vl := .slice p2 n2 c2 } := m5.put (P0' := P.st (P.s.lined P.s.t)) (V0' := { V with vb := .slice p1 n1 c1, bs := V.bs ++ [P.s.t], vl := .slice p2 n2 c2 }) 19 (.slice p2 n2 c2) rfl
      have hfin : EnR (nb + 1) base w p S ov hv P _ := ⟨_, m6.done, by show (V.bs ++ [P.s.t]).length ≤ nb + 1; simp; omega, (hG4.trans (m4.putF 20 _)).trans (m5.putF 19 _)⟩
      clear m5 m6
      go_wp2_with (fail)
      go_meet
      exact hfin
  case rest =>
  clear c11 c19 c20 hlt h hnb
  obtain ⟨V1, h1, hn1, hF1⟩ := hcut
  have HOV := Lib.hid hov
  have HA := Lib.hid hA
  clear hov hA hN
  have c11 : wc.cell? ⟨p, 11, none⟩ = some (.string P.s.t) := (plC h1.blk).c11
  have hlt := h1.blk.lt
  have empty_list : ∀ x : ByteArray, x = .empty → x.toList = [] := fun x e => by rw [e, ByteArray.toList_eq]; rfl
  have ne_list : ∀ x : ByteArray, x ≠ .empty → x.toList ≠ [] := fun x e e2 => e (str_inj (by rw [e2, ByteArray.toList_eq]; rfl))
  have ne_list2 : ∀ x : ByteArray, x ≠ .empty → x.toList.isEmpty = false := fun x e => by cases hq : x.toList with | nil => exact absurd hq (ne_list x e) | cons => rfl
  have ne_list3 : ∀ x : ByteArray, x ≠ .empty → (x.toList == []) = false := fun x e => by cases hq : x.toList with | nil => exact absurd hq (ne_list x e) | cons => rfl
  by_cases hz : P.s.t = .empty
  · have hex : decide (S.exit ≠ .empty ∧ P.s.t = S.exit) = false := by rw [hz]; simp; exact fun a b => a b.symm
    have hran : P.s.ran = { (P.s.lined P.s.t) with t := .empty, k := 0 } := by unfold PS.ran PS.enter; rw [if_pos hz]; rfl
    have HR : Hid ((⟨{ (P.s.lined P.s.t) with t := .empty, k := 0 }, P.over, P.opn⟩ : PL) = R) := by have h9 := HR0.out; rw [hran, hex] at h9; rw [HOV.out]; exact h9
    have hse : P.s.t.toList = [] := empty_list _ hz
    have hFW := hF1
    have hnV := hn1
    by_cases hx : S.exit = .empty
    · have hxe : S.exit.toList = [] := empty_list _ hx
      clear hz hran hex hx empty_list ne_list ne_list2 ne_list3
      go_wp2_with (fail)
      have hC := plC h1.blk
      have d10 : (wc).cell? ⟨p, 10, none⟩ = some (.string S.exit) := hC.c10
      have d11 : (wc).cell? ⟨p, 11, none⟩ = some (.string P.s.t) := hC.c11
      have d12 : (wc).cell? ⟨p, 12, none⟩ = some (.int .i64 P.s.k) := hC.c12
      have d21 : (wc).cell? ⟨p, 21, none⟩ = some (.bool P.over) := hC.c21
      have d22 : (wc).cell? ⟨p, 22, none⟩ = some (.bool V1.left) := hC.c22
      have e11 := hC.f 11
      have e12 := hC.f 12
      have e21 := hC.f 21
      have e22 := hC.f 22
      have elt := hC.lt
      clear hC
      have hS : (fun w' : World => w'.cell? ⟨p, 10, none⟩ = some (.string S.exit) ∧ w'.cell? ⟨p, 11, none⟩ = some (.string P.s.t)) (wc) := ⟨d10, d11⟩
      refine wp_region_plan [4, 11, 16] [] (fun w' : World => w'.cell? ⟨p, 10, none⟩ = some (.string S.exit) ∧ w'.cell? ⟨p, 11, none⟩ = some (.string P.s.t)) (.pure 0 (.pure 1 (.pure 2 (.pure 3 (.take 4 (.pure 5 (.pure 6 (.pure 7 (.pure 8 (.pure 9 (.pure 10 (.take 11 (.pure 12 (.pure 13 (.pure 14 (.pure 15 (.take 16 (.pure 17 (.pure 18 .done))))))))))))))))))) hmix (by kernel_rfl) ?_
      repeat (first | (refine plan_move rfl rfl rfl ?_; (try simp only [Act.put, zq1, zq2, zq3, zq4, zq5, zq6])) | (refine plan_skipP rfl rfl ?_; (try simp only [Act.put, zq1, zq2, zq3, zq4, zq5, zq6])) | (refine plan_skip rfl hS rfl ?_; (try simp only [Act.put, zq1, zq2, zq3, zq4, zq5, zq6])) | (refine plan_pure (v := ?_) rfl rfl ?_ ?_; rotate_left; (intro w'; go_simp <;> with_reducible rfl); (try simp only [Act.put, zq1, zq2, zq3, zq4, zq5, zq6])) | (refine plan_take (v := ?_) rfl hS rfl ?_ ?_; rotate_left; (intro w' hSw; (try dsimp only at hSw); go_simp <;> with_reducible rfl); (try simp only [Act.put, zq1, zq2, zq3, zq4, zq5, zq6])))
      refine plan_done ?_
      go_wp2_with (fail)
      go_ret
      have y0 := h1.fr0 ((Fr.refl 0 [] [] (wc)).drew)
      have y3 := y0.put 11 (.string .empty) (P' := ⟨{ (P.s.lined P.s.t) with t := .empty }, P.over, P.opn⟩) (V' := V1) rfl rfl rfl rfl rfl ⟨rfl, rfl, rfl, rfl, rfl, rfl⟩ rfl rfl
      have y4 := y3.put 12 (.int .i64 0) (P' := ⟨{ (P.s.lined P.s.t) with t := .empty, k := 0 }, P.over, P.opn⟩) (V' := V1) rfl rfl rfl rfl rfl ⟨rfl, rfl, rfl, rfl, rfl, rfl⟩ rfl rfl
      rw [← HR.out]
      exact ⟨rfl, ⟨_, y4, hnV⟩, ((hFW.drew).trans (y0.putF 11 _)).trans (y3.putF 12 _)⟩
    · have hx1 : S.exit.toList ≠ [] := ne_list _ hx
      have hx2 := ne_list2 _ hx
      have hx3 := ne_list3 _ hx
      have hx4 : ([] == S.exit.toList) = false := by cases hq : S.exit.toList with | nil => exact absurd hq hx1 | cons => rfl
      clear hz hran hex hx empty_list ne_list ne_list2 ne_list3
      go_wp2_with (fail)
      have hC := plC h1.blk
      have d10 : (wc).cell? ⟨p, 10, none⟩ = some (.string S.exit) := hC.c10
      have d11 : (wc).cell? ⟨p, 11, none⟩ = some (.string P.s.t) := hC.c11
      have d12 : (wc).cell? ⟨p, 12, none⟩ = some (.int .i64 P.s.k) := hC.c12
      have d21 : (wc).cell? ⟨p, 21, none⟩ = some (.bool P.over) := hC.c21
      have d22 : (wc).cell? ⟨p, 22, none⟩ = some (.bool V1.left) := hC.c22
      have e11 := hC.f 11
      have e12 := hC.f 12
      have e21 := hC.f 21
      have e22 := hC.f 22
      have elt := hC.lt
      clear hC
      have hS : (fun w' : World => w'.cell? ⟨p, 10, none⟩ = some (.string S.exit) ∧ w'.cell? ⟨p, 11, none⟩ = some (.string P.s.t)) (wc) := ⟨d10, d11⟩
      refine wp_region_plan [4, 11, 16] [] (fun w' : World => w'.cell? ⟨p, 10, none⟩ = some (.string S.exit) ∧ w'.cell? ⟨p, 11, none⟩ = some (.string P.s.t)) (.pure 0 (.pure 1 (.pure 2 (.pure 3 (.take 4 (.pure 5 (.pure 6 (.pure 7 (.pure 8 (.pure 9 (.pure 10 (.take 11 (.pure 12 (.pure 13 (.pure 14 (.pure 15 (.take 16 (.pure 17 (.pure 18 .done))))))))))))))))))) hmix (by kernel_rfl) ?_
      repeat (first | (refine plan_move rfl rfl rfl ?_; (try simp only [Act.put, zq1, zq2, zq3, zq4, zq5, zq6])) | (refine plan_skipP rfl rfl ?_; (try simp only [Act.put, zq1, zq2, zq3, zq4, zq5, zq6])) | (refine plan_skip rfl hS rfl ?_; (try simp only [Act.put, zq1, zq2, zq3, zq4, zq5, zq6])) | (refine plan_pure (v := ?_) rfl rfl ?_ ?_; rotate_left; (intro w'; go_simp <;> with_reducible rfl); (try simp only [Act.put, zq1, zq2, zq3, zq4, zq5, zq6])) | (refine plan_take (v := ?_) rfl hS rfl ?_ ?_; rotate_left; (intro w' hSw; (try dsimp only at hSw); go_simp <;> with_reducible rfl); (try simp only [Act.put, zq1, zq2, zq3, zq4, zq5, zq6])))
      refine plan_done ?_
      go_wp2_with (fail)
      go_ret
      have y0 := h1.fr0 ((Fr.refl 0 [] [] (wc)).drew)
      have y3 := y0.put 11 (.string .empty) (P' := ⟨{ (P.s.lined P.s.t) with t := .empty }, P.over, P.opn⟩) (V' := V1) rfl rfl rfl rfl rfl ⟨rfl, rfl, rfl, rfl, rfl, rfl⟩ rfl rfl
      have y4 := y3.put 12 (.int .i64 0) (P' := ⟨{ (P.s.lined P.s.t) with t := .empty, k := 0 }, P.over, P.opn⟩) (V' := V1) rfl rfl rfl rfl rfl ⟨rfl, rfl, rfl, rfl, rfl, rfl⟩ rfl rfl
      rw [← HR.out]
      exact ⟨rfl, ⟨_, y4, hnV⟩, ((hFW.drew).trans (y0.putF 11 _)).trans (y3.putF 12 _)⟩
  · have hran : P.s.ran = { ((P.s.lined P.s.t).added P.s.t).cleared with t := .empty, k := 0 } := by
      unfold PS.ran PS.enter
      rw [if_neg hz]
      show PS.mk _ _ _ _ _ _ _ _ _ = PS.mk _ _ _ _ _ _ _ _ _
      congr 1
      simp [PS.added, PS.lined, PS.cleared]
    have hz1 : P.s.t.toList ≠ [] := ne_list _ hz
    have hz2 := ne_list2 _ hz
    have hz3 := ne_list3 _ hz
    by_cases hx : S.exit = .empty
    · have hxe : S.exit.toList = [] := empty_list _ hx
      have hex : decide (S.exit ≠ .empty ∧ P.s.t = S.exit) = false := by rw [hx]; simp
      have HR : Hid ((⟨{ ((P.s.lined P.s.t).added P.s.t).cleared with t := .empty, k := 0 }, P.over, P.opn⟩ : PL) = R) := by have h9 := HR0.out; rw [hran, hex] at h9; rw [HOV.out]; exact h9
      clear hz hran hex hx empty_list ne_list ne_list2 ne_list3
      have hC := plC h1.blk
      have d16 : wc.cell? ⟨p, 16, none⟩ = some V1.va := hC.c16
      clear hC
      go_wp2_with (fail)
      have hS : (fun w' : World => w'.cell? ⟨p, 16, none⟩ = some V1.va ∧ w'.cell? ⟨p, 11, none⟩ = some (.string P.s.t)) wc.drew := ⟨d16, c11⟩
      refine wp_region_plan [4, 9] [10, 11, 14] (fun w' : World => w'.cell? ⟨p, 16, none⟩ = some V1.va ∧ w'.cell? ⟨p, 11, none⟩ = some (.string P.s.t)) (.pure 0 (.pure 1 (.pure 2 (.pure 3 (.take 4 (.pure 5 (.pure 6 (.pure 7 (.pure 8 (.take 9 (.go 10 (.go 11 (.pure 12 (.pure 13 (.go 14 .done))))))))))))))) hmix (by kernel_rfl) ?_
      repeat (first | (refine plan_move rfl rfl rfl ?_; (try simp only [Act.put, zq1, zq2, zq3, zq4, zq5, zq6])) | (refine plan_pure (v := ?_) rfl rfl ?_ ?_; rotate_left; (intro w'; go_simp <;> with_reducible rfl); (try simp only [Act.put, zq1, zq2, zq3, zq4, zq5, zq6])) | (refine plan_take (v := ?_) rfl hS rfl ?_ ?_; rotate_left; (intro w' hSw; (try dsimp only at hSw); go_simp <;> with_reducible rfl); (try simp only [Act.put, zq1, zq2, zq3, zq4, zq5, zq6])))
      refine plan_goS rfl rfl (fun K hK => ?_)
      go_simp; have m0 := (h1.fr0 (((Fr.refl 0 [] [] wc).drew).alloc (.cells #[.string P.s.t] 9))).mid; have hG0 : Fr base PT [] w (wc.drew.alloc (.cells #[.string P.s.t] 9)) := (hF1.drew).alloc _; refine hK _ _ ⟨m0.blk.cell 16, m0.blk.cell 11⟩ ?_; clear hK K; (try simp only [Act.put, zq1, zq2, zq3, zq4, zq5, zq6])
      refine plan_go rfl (by kernel_rfl) rfl (fun K hK => ?_)
      refine wp_apps (base := base) (ys := [P.s.t]) _ _ rfl rfl rfl m0.rows.a m0.rows.ab (one_text wc.drew _) (by have := HA.out.hhl; show P.s.hs.length + 1 ≤ 1000000; omega) ?_; intro g1 c1 w1 hS1 hg1 hFa; obtain ⟨m1, hFm⟩ := m0.appA hS1 hg1 hFa; have hG1 := hG0.trans hFm; refine hK _ _ ?_; clear hK K; have q16 : w1.cell? ⟨p, 16, none⟩ = some V1.va := m1.blk.cell 16; have qf16 := m1.blk.frozen 16; have ql := m1.blk.lt; (try simp only [Act.put, zq1, zq2, zq3, zq4, zq5, zq6])
      repeat (first | (refine plan_pure (v := ?_) rfl rfl ?_ ?_; rotate_left; (intro w'; go_simp <;> with_reducible rfl); (try simp only [Act.put, zq1, zq2, zq3, zq4, zq5, zq6])))
      refine plan_go rfl (by kernel_rfl) rfl (fun K hK => ?_)
      go_simp; refine hK _ _ ?_; clear hK K; (try simp only [Act.put, zq1, zq2, zq3, zq4, zq5, zq6])
      refine plan_done ?_
      have m2 : PlyM base _ p S ov hv (P.st ((P.s.lined P.s.t).added P.s.t)) { V1 with va := .slice (some ⟨g1, 0, none⟩) (P.s.hs.length + 1) c1, ga := g1 } (P.st ((P.s.lined P.s.t).added P.s.t)) { V1 with va := .slice (some ⟨g1, 0, none⟩) (P.s.hs.length + 1) c1, ga := g1 } := m1.put 16 (.slice (some ⟨g1, 0, none⟩) (P.s.hs.length + 1) c1) rfl
      have hG2 := hG1.trans (m1.putF 16 (.slice (some ⟨g1, 0, none⟩) (P.s.hs.length + 1) c1))
      have m3 := m2.done.toPly0
      go_wp2_with (fail)
      refine (pClear_c (nb := nb + 1) m3 hn1 (by have := HA.out.hhl; show (P.s.hs ++ [P.s.t]).length ≤ 1000; simp; omega)).mono ?_
      rintro e w5 ⟨rfl, ⟨V2, h2, hnV⟩, hF2⟩
      have hFW := hG2.trans hF2
      clear m0 m1 m2 m3 q16 qf16 ql hG0 hG1 hG2 hF2 hFm hFa hS1 hg1 d16
      go_wp2_with (fail)
      have hC := plC h2.blk
      have d10 : (w5).cell? ⟨p, 10, none⟩ = some (.string S.exit) := hC.c10
      have d11 : (w5).cell? ⟨p, 11, none⟩ = some (.string P.s.t) := hC.c11
      have d12 : (w5).cell? ⟨p, 12, none⟩ = some (.int .i64 P.s.k) := hC.c12
      have d21 : (w5).cell? ⟨p, 21, none⟩ = some (.bool P.over) := hC.c21
      have d22 : (w5).cell? ⟨p, 22, none⟩ = some (.bool V2.left) := hC.c22
      have e11 := hC.f 11
      have e12 := hC.f 12
      have e21 := hC.f 21
      have e22 := hC.f 22
      have elt := hC.lt
      clear hC
      have hS : (fun w' : World => w'.cell? ⟨p, 10, none⟩ = some (.string S.exit) ∧ w'.cell? ⟨p, 11, none⟩ = some (.string P.s.t)) (w5) := ⟨d10, d11⟩
      refine wp_region_plan [4, 11, 16] [] (fun w' : World => w'.cell? ⟨p, 10, none⟩ = some (.string S.exit) ∧ w'.cell? ⟨p, 11, none⟩ = some (.string P.s.t)) (.pure 0 (.pure 1 (.pure 2 (.pure 3 (.take 4 (.pure 5 (.pure 6 (.pure 7 (.pure 8 (.pure 9 (.pure 10 (.take 11 (.pure 12 (.pure 13 (.pure 14 (.pure 15 (.take 16 (.pure 17 (.pure 18 .done))))))))))))))))))) hmix (by kernel_rfl) ?_
      repeat (first | (refine plan_move rfl rfl rfl ?_; (try simp only [Act.put, zq1, zq2, zq3, zq4, zq5, zq6])) | (refine plan_skipP rfl rfl ?_; (try simp only [Act.put, zq1, zq2, zq3, zq4, zq5, zq6])) | (refine plan_skip rfl hS rfl ?_; (try simp only [Act.put, zq1, zq2, zq3, zq4, zq5, zq6])) | (refine plan_pure (v := ?_) rfl rfl ?_ ?_; rotate_left; (intro w'; go_simp <;> with_reducible rfl); (try simp only [Act.put, zq1, zq2, zq3, zq4, zq5, zq6])) | (refine plan_take (v := ?_) rfl hS rfl ?_ ?_; rotate_left; (intro w' hSw; (try dsimp only at hSw); go_simp <;> with_reducible rfl); (try simp only [Act.put, zq1, zq2, zq3, zq4, zq5, zq6])))
      refine plan_done ?_
      go_wp2_with (fail)
      go_ret
      have y0 := h2.fr0 ((Fr.refl 0 [] [] (w5)).drew)
      have y3 := y0.put 11 (.string .empty) (P' := ⟨{ (((P.s.lined P.s.t).added P.s.t).cleared) with t := .empty }, P.over, P.opn⟩) (V' := V2) rfl rfl rfl rfl rfl ⟨rfl, rfl, rfl, rfl, rfl, rfl⟩ rfl rfl
      have y4 := y3.put 12 (.int .i64 0) (P' := ⟨{ (((P.s.lined P.s.t).added P.s.t).cleared) with t := .empty, k := 0 }, P.over, P.opn⟩) (V' := V2) rfl rfl rfl rfl rfl ⟨rfl, rfl, rfl, rfl, rfl, rfl⟩ rfl rfl
      rw [← HR.out]
      exact ⟨rfl, ⟨_, y4, hnV⟩, ((hFW.drew).trans (y0.putF 11 _)).trans (y3.putF 12 _)⟩
    · have hx1 : S.exit.toList ≠ [] := ne_list _ hx
      have hx2 := ne_list2 _ hx
      have hx3 := ne_list3 _ hx
      by_cases he : P.s.t = S.exit
      · have hex : decide (S.exit ≠ .empty ∧ P.s.t = S.exit) = true := by simpa using And.intro hx he
        have HR : Hid ((⟨{ ((P.s.lined P.s.t).added P.s.t).cleared with t := .empty, k := 0 }, true, P.opn⟩ : PL) = R) := by have h9 := HR0.out; rw [hran, hex] at h9; exact h9
        have he1 : (P.s.t.toList == S.exit.toList) = true := by rw [he]; simp
        clear hz hran hex hx he empty_list ne_list ne_list2 ne_list3
        have hC := plC h1.blk
        have d16 : wc.cell? ⟨p, 16, none⟩ = some V1.va := hC.c16
        clear hC
        go_wp2_with (fail)
        have hS : (fun w' : World => w'.cell? ⟨p, 16, none⟩ = some V1.va ∧ w'.cell? ⟨p, 11, none⟩ = some (.string P.s.t)) wc.drew := ⟨d16, c11⟩
        refine wp_region_plan [4, 9] [10, 11, 14] (fun w' : World => w'.cell? ⟨p, 16, none⟩ = some V1.va ∧ w'.cell? ⟨p, 11, none⟩ = some (.string P.s.t)) (.pure 0 (.pure 1 (.pure 2 (.pure 3 (.take 4 (.pure 5 (.pure 6 (.pure 7 (.pure 8 (.take 9 (.go 10 (.go 11 (.pure 12 (.pure 13 (.go 14 .done))))))))))))))) hmix (by kernel_rfl) ?_
        repeat (first | (refine plan_move rfl rfl rfl ?_; (try simp only [Act.put, zq1, zq2, zq3, zq4, zq5, zq6])) | (refine plan_pure (v := ?_) rfl rfl ?_ ?_; rotate_left; (intro w'; go_simp <;> with_reducible rfl); (try simp only [Act.put, zq1, zq2, zq3, zq4, zq5, zq6])) | (refine plan_take (v := ?_) rfl hS rfl ?_ ?_; rotate_left; (intro w' hSw; (try dsimp only at hSw); go_simp <;> with_reducible rfl); (try simp only [Act.put, zq1, zq2, zq3, zq4, zq5, zq6])))
        refine plan_goS rfl rfl (fun K hK => ?_)
        go_simp; have m0 := (h1.fr0 (((Fr.refl 0 [] [] wc).drew).alloc (.cells #[.string P.s.t] 9))).mid; have hG0 : Fr base PT [] w (wc.drew.alloc (.cells #[.string P.s.t] 9)) := (hF1.drew).alloc _; refine hK _ _ ⟨m0.blk.cell 16, m0.blk.cell 11⟩ ?_; clear hK K; (try simp only [Act.put, zq1, zq2, zq3, zq4, zq5, zq6])
        refine plan_go rfl (by kernel_rfl) rfl (fun K hK => ?_)
        refine wp_apps (base := base) (ys := [P.s.t]) _ _ rfl rfl rfl m0.rows.a m0.rows.ab (one_text wc.drew _) (by have := HA.out.hhl; show P.s.hs.length + 1 ≤ 1000000; omega) ?_; intro g1 c1 w1 hS1 hg1 hFa; obtain ⟨m1, hFm⟩ := m0.appA hS1 hg1 hFa; have hG1 := hG0.trans hFm; refine hK _ _ ?_; clear hK K; have q16 : w1.cell? ⟨p, 16, none⟩ = some V1.va := m1.blk.cell 16; have qf16 := m1.blk.frozen 16; have ql := m1.blk.lt; (try simp only [Act.put, zq1, zq2, zq3, zq4, zq5, zq6])
        repeat (first | (refine plan_pure (v := ?_) rfl rfl ?_ ?_; rotate_left; (intro w'; go_simp <;> with_reducible rfl); (try simp only [Act.put, zq1, zq2, zq3, zq4, zq5, zq6])))
        refine plan_go rfl (by kernel_rfl) rfl (fun K hK => ?_)
        go_simp; refine hK _ _ ?_; clear hK K; (try simp only [Act.put, zq1, zq2, zq3, zq4, zq5, zq6])
        refine plan_done ?_
        have m2 : PlyM base _ p S ov hv (P.st ((P.s.lined P.s.t).added P.s.t)) { V1 with va := .slice (some ⟨g1, 0, none⟩) (P.s.hs.length + 1) c1, ga := g1 } (P.st ((P.s.lined P.s.t).added P.s.t)) { V1 with va := .slice (some ⟨g1, 0, none⟩) (P.s.hs.length + 1) c1, ga := g1 } := m1.put 16 (.slice (some ⟨g1, 0, none⟩) (P.s.hs.length + 1) c1) rfl
        have hG2 := hG1.trans (m1.putF 16 (.slice (some ⟨g1, 0, none⟩) (P.s.hs.length + 1) c1))
        have m3 := m2.done.toPly0
        go_wp2_with (fail)
        refine (pClear_c (nb := nb + 1) m3 hn1 (by have := HA.out.hhl; show (P.s.hs ++ [P.s.t]).length ≤ 1000; simp; omega)).mono ?_
        rintro e w5 ⟨rfl, ⟨V2, h2, hnV⟩, hF2⟩
        have hFW := hG2.trans hF2
        clear m0 m1 m2 m3 q16 qf16 ql hG0 hG1 hG2 hF2 hFm hFa hS1 hg1 d16
        go_wp2_with (fail)
        have hC := plC h2.blk
        have d10 : (w5).cell? ⟨p, 10, none⟩ = some (.string S.exit) := hC.c10
        have d11 : (w5).cell? ⟨p, 11, none⟩ = some (.string P.s.t) := hC.c11
        have d12 : (w5).cell? ⟨p, 12, none⟩ = some (.int .i64 P.s.k) := hC.c12
        have d21 : (w5).cell? ⟨p, 21, none⟩ = some (.bool P.over) := hC.c21
        have d22 : (w5).cell? ⟨p, 22, none⟩ = some (.bool V2.left) := hC.c22
        have e11 := hC.f 11
        have e12 := hC.f 12
        have e21 := hC.f 21
        have e22 := hC.f 22
        have elt := hC.lt
        clear hC
        have hS : (fun w' : World => w'.cell? ⟨p, 10, none⟩ = some (.string S.exit) ∧ w'.cell? ⟨p, 11, none⟩ = some (.string P.s.t)) (w5) := ⟨d10, d11⟩
        refine wp_region_plan [4, 11, 16] [] (fun w' : World => w'.cell? ⟨p, 10, none⟩ = some (.string S.exit) ∧ w'.cell? ⟨p, 11, none⟩ = some (.string P.s.t)) (.pure 0 (.pure 1 (.pure 2 (.pure 3 (.take 4 (.pure 5 (.pure 6 (.pure 7 (.pure 8 (.pure 9 (.pure 10 (.take 11 (.pure 12 (.pure 13 (.pure 14 (.pure 15 (.take 16 (.pure 17 (.pure 18 .done))))))))))))))))))) hmix (by kernel_rfl) ?_
        repeat (first | (refine plan_move rfl rfl rfl ?_; (try simp only [Act.put, zq1, zq2, zq3, zq4, zq5, zq6])) | (refine plan_skipP rfl rfl ?_; (try simp only [Act.put, zq1, zq2, zq3, zq4, zq5, zq6])) | (refine plan_skip rfl hS rfl ?_; (try simp only [Act.put, zq1, zq2, zq3, zq4, zq5, zq6])) | (refine plan_pure (v := ?_) rfl rfl ?_ ?_; rotate_left; (intro w'; go_simp <;> with_reducible rfl); (try simp only [Act.put, zq1, zq2, zq3, zq4, zq5, zq6])) | (refine plan_take (v := ?_) rfl hS rfl ?_ ?_; rotate_left; (intro w' hSw; (try dsimp only at hSw); go_simp <;> with_reducible rfl); (try simp only [Act.put, zq1, zq2, zq3, zq4, zq5, zq6])))
        refine plan_done ?_
        go_wp2_with (fail)
        go_ret
        have y0 := h2.fr0 ((Fr.refl 0 [] [] (w5)).drew)
        have y1 := y0.put 21 (.bool true) (P' := ⟨((P.s.lined P.s.t).added P.s.t).cleared, true, P.opn⟩) (V' := V2) rfl rfl rfl rfl rfl ⟨rfl, rfl, rfl, rfl, rfl, rfl⟩ rfl rfl
        have y2 := y1.put 22 (.bool true) (P' := ⟨((P.s.lined P.s.t).added P.s.t).cleared, true, P.opn⟩) (V' := { V2 with left := true }) rfl rfl rfl rfl rfl ⟨rfl, rfl, rfl, rfl, rfl, rfl⟩ rfl rfl
        have y3 := y2.put 11 (.string .empty) (P' := ⟨{ (((P.s.lined P.s.t).added P.s.t).cleared) with t := .empty }, true, P.opn⟩) (V' := { V2 with left := true }) rfl rfl rfl rfl rfl ⟨rfl, rfl, rfl, rfl, rfl, rfl⟩ rfl rfl
        have y4 := y3.put 12 (.int .i64 0) (P' := ⟨{ (((P.s.lined P.s.t).added P.s.t).cleared) with t := .empty, k := 0 }, true, P.opn⟩) (V' := { V2 with left := true }) rfl rfl rfl rfl rfl ⟨rfl, rfl, rfl, rfl, rfl, rfl⟩ rfl rfl
        rw [← HR.out]
        exact ⟨rfl, ⟨_, y4, hnV⟩, ((((hFW.drew).trans (y0.putF 21 _)).trans (y1.putF 22 _)).trans (y2.putF 11 _)).trans (y3.putF 12 _)⟩
      · have hex : decide (S.exit ≠ .empty ∧ P.s.t = S.exit) = false := by simp [he]
        have HR : Hid ((⟨{ ((P.s.lined P.s.t).added P.s.t).cleared with t := .empty, k := 0 }, P.over, P.opn⟩ : PL) = R) := by have h9 := HR0.out; rw [hran, hex] at h9; rw [HOV.out]; exact h9
        have he1 := str_ne he
        clear hz hran hex hx he empty_list ne_list ne_list2 ne_list3
        have hC := plC h1.blk
        have d16 : wc.cell? ⟨p, 16, none⟩ = some V1.va := hC.c16
        clear hC
        go_wp2_with (fail)
        have hS : (fun w' : World => w'.cell? ⟨p, 16, none⟩ = some V1.va ∧ w'.cell? ⟨p, 11, none⟩ = some (.string P.s.t)) wc.drew := ⟨d16, c11⟩
        refine wp_region_plan [4, 9] [10, 11, 14] (fun w' : World => w'.cell? ⟨p, 16, none⟩ = some V1.va ∧ w'.cell? ⟨p, 11, none⟩ = some (.string P.s.t)) (.pure 0 (.pure 1 (.pure 2 (.pure 3 (.take 4 (.pure 5 (.pure 6 (.pure 7 (.pure 8 (.take 9 (.go 10 (.go 11 (.pure 12 (.pure 13 (.go 14 .done))))))))))))))) hmix (by kernel_rfl) ?_
        repeat (first | (refine plan_move rfl rfl rfl ?_; (try simp only [Act.put, zq1, zq2, zq3, zq4, zq5, zq6])) | (refine plan_pure (v := ?_) rfl rfl ?_ ?_; rotate_left; (intro w'; go_simp <;> with_reducible rfl); (try simp only [Act.put, zq1, zq2, zq3, zq4, zq5, zq6])) | (refine plan_take (v := ?_) rfl hS rfl ?_ ?_; rotate_left; (intro w' hSw; (try dsimp only at hSw); go_simp <;> with_reducible rfl); (try simp only [Act.put, zq1, zq2, zq3, zq4, zq5, zq6])))
        refine plan_goS rfl rfl (fun K hK => ?_)
        go_simp; have m0 := (h1.fr0 (((Fr.refl 0 [] [] wc).drew).alloc (.cells #[.string P.s.t] 9))).mid; have hG0 : Fr base PT [] w (wc.drew.alloc (.cells #[.string P.s.t] 9)) := (hF1.drew).alloc _; refine hK _ _ ⟨m0.blk.cell 16, m0.blk.cell 11⟩ ?_; clear hK K; (try simp only [Act.put, zq1, zq2, zq3, zq4, zq5, zq6])
        refine plan_go rfl (by kernel_rfl) rfl (fun K hK => ?_)
        refine wp_apps (base := base) (ys := [P.s.t]) _ _ rfl rfl rfl m0.rows.a m0.rows.ab (one_text wc.drew _) (by have := HA.out.hhl; show P.s.hs.length + 1 ≤ 1000000; omega) ?_; intro g1 c1 w1 hS1 hg1 hFa; obtain ⟨m1, hFm⟩ := m0.appA hS1 hg1 hFa; have hG1 := hG0.trans hFm; refine hK _ _ ?_; clear hK K; have q16 : w1.cell? ⟨p, 16, none⟩ = some V1.va := m1.blk.cell 16; have qf16 := m1.blk.frozen 16; have ql := m1.blk.lt; (try simp only [Act.put, zq1, zq2, zq3, zq4, zq5, zq6])
        repeat (first | (refine plan_pure (v := ?_) rfl rfl ?_ ?_; rotate_left; (intro w'; go_simp <;> with_reducible rfl); (try simp only [Act.put, zq1, zq2, zq3, zq4, zq5, zq6])))
        refine plan_go rfl (by kernel_rfl) rfl (fun K hK => ?_)
        go_simp; refine hK _ _ ?_; clear hK K; (try simp only [Act.put, zq1, zq2, zq3, zq4, zq5, zq6])
        refine plan_done ?_
        have m2 : PlyM base _ p S ov hv (P.st ((P.s.lined P.s.t).added P.s.t)) { V1 with va := .slice (some ⟨g1, 0, none⟩) (P.s.hs.length + 1) c1, ga := g1 } (P.st ((P.s.lined P.s.t).added P.s.t)) { V1 with va := .slice (some ⟨g1, 0, none⟩) (P.s.hs.length + 1) c1, ga := g1 } := m1.put 16 (.slice (some ⟨g1, 0, none⟩) (P.s.hs.length + 1) c1) rfl
        have hG2 := hG1.trans (m1.putF 16 (.slice (some ⟨g1, 0, none⟩) (P.s.hs.length + 1) c1))
        have m3 := m2.done.toPly0
        go_wp2_with (fail)
        refine (pClear_c (nb := nb + 1) m3 hn1 (by have := HA.out.hhl; show (P.s.hs ++ [P.s.t]).length ≤ 1000; simp; omega)).mono ?_
        rintro e w5 ⟨rfl, ⟨V2, h2, hnV⟩, hF2⟩
        have hFW := hG2.trans hF2
        clear m0 m1 m2 m3 q16 qf16 ql hG0 hG1 hG2 hF2 hFm hFa hS1 hg1 d16
        go_wp2_with (fail)
        have hC := plC h2.blk
        have d10 : (w5).cell? ⟨p, 10, none⟩ = some (.string S.exit) := hC.c10
        have d11 : (w5).cell? ⟨p, 11, none⟩ = some (.string P.s.t) := hC.c11
        have d12 : (w5).cell? ⟨p, 12, none⟩ = some (.int .i64 P.s.k) := hC.c12
        have d21 : (w5).cell? ⟨p, 21, none⟩ = some (.bool P.over) := hC.c21
        have d22 : (w5).cell? ⟨p, 22, none⟩ = some (.bool V2.left) := hC.c22
        have e11 := hC.f 11
        have e12 := hC.f 12
        have e21 := hC.f 21
        have e22 := hC.f 22
        have elt := hC.lt
        clear hC
        have hS : (fun w' : World => w'.cell? ⟨p, 10, none⟩ = some (.string S.exit) ∧ w'.cell? ⟨p, 11, none⟩ = some (.string P.s.t)) (w5) := ⟨d10, d11⟩
        refine wp_region_plan [4, 11, 16] [] (fun w' : World => w'.cell? ⟨p, 10, none⟩ = some (.string S.exit) ∧ w'.cell? ⟨p, 11, none⟩ = some (.string P.s.t)) (.pure 0 (.pure 1 (.pure 2 (.pure 3 (.take 4 (.pure 5 (.pure 6 (.pure 7 (.pure 8 (.pure 9 (.pure 10 (.take 11 (.pure 12 (.pure 13 (.pure 14 (.pure 15 (.take 16 (.pure 17 (.pure 18 .done))))))))))))))))))) hmix (by kernel_rfl) ?_
        repeat (first | (refine plan_move rfl rfl rfl ?_; (try simp only [Act.put, zq1, zq2, zq3, zq4, zq5, zq6])) | (refine plan_skipP rfl rfl ?_; (try simp only [Act.put, zq1, zq2, zq3, zq4, zq5, zq6])) | (refine plan_skip rfl hS rfl ?_; (try simp only [Act.put, zq1, zq2, zq3, zq4, zq5, zq6])) | (refine plan_pure (v := ?_) rfl rfl ?_ ?_; rotate_left; (intro w'; go_simp <;> with_reducible rfl); (try simp only [Act.put, zq1, zq2, zq3, zq4, zq5, zq6])) | (refine plan_take (v := ?_) rfl hS rfl ?_ ?_; rotate_left; (intro w' hSw; (try dsimp only at hSw); go_simp <;> with_reducible rfl); (try simp only [Act.put, zq1, zq2, zq3, zq4, zq5, zq6])))
        refine plan_done ?_
        go_wp2_with (fail)
        go_ret
        have y0 := h2.fr0 ((Fr.refl 0 [] [] (w5)).drew)
        have y3 := y0.put 11 (.string .empty) (P' := ⟨{ (((P.s.lined P.s.t).added P.s.t).cleared) with t := .empty }, P.over, P.opn⟩) (V' := V2) rfl rfl rfl rfl rfl ⟨rfl, rfl, rfl, rfl, rfl, rfl⟩ rfl rfl
        have y4 := y3.put 12 (.int .i64 0) (P' := ⟨{ (((P.s.lined P.s.t).added P.s.t).cleared) with t := .empty, k := 0 }, P.over, P.opn⟩) (V' := V2) rfl rfl rfl rfl rfl ⟨rfl, rfl, rfl, rfl, rfl, rfl⟩ rfl rfl
        rw [← HR.out]
        exact ⟨rfl, ⟨_, y4, hnV⟩, ((hFW.drew).trans (y0.putF 11 _)).trans (y3.putF 12 _)⟩
end
end Go.Proofs.YtiepopbmbgfhkaaGreat
