/-
  Fed: what a prompt does with bytes.
-/
import Derived.Test.YtiepopbmbgfhkaaGreatQ19
namespace Go.Proofs.YtiepopbmbgfhkaaGreat
open Go.RowKit
open List renaming setIfInBounds_toArray → zq1, set_cons_zero → zq2, set_cons_succ → zq3
open Int renaming toNat_natCast → zq4, toNat_sub → zq5, toNat_zero → zq6
set_option maxHeartbeats 2000000
set_option maxRecDepth 20000
set_option linter.unusedVariables false
set_option linter.unusedSimpArgs false

/-- Rendering, where P holds of the stand. -/
def RenP (base : Nat) (I : Pid) (P : PS → Prop) : Prop := ∀ (w : World) (D : Dyn), St base w I D → StOk I D → P D.ps → D.n + 200000 ≤ 1000000000 →
  Calls Tryz.prog 47 #[.pointer (some ⟨I.r, 0, none⟩), .pointer (some ⟨D.b, 0, none⟩), .pointer (some ⟨I.c, 0, none⟩)] w fun e w' => e = .returned (.tuple #[]) ∧ (∃ n', n' ≤ D.n + 200000 ∧ St base w' I { D with n := n' }) ∧ Fr base TT [] w w'

/-- What 'Fed' leaves. -/
def FedPost (base : Nat) (I : Pid) (D : Dyn) (s' : PS) (over : Bool) (w : World) (e : Ending) (w' : World) : Prop :=
  ∃ D', e = .returned (.bool over) ∧ St base w' I D' ∧ D'.ps = s' ∧ D'.n ≤ D.n + 210000 ∧ Fr base TT [] w w'

section
variable {base : Nat} {w : World} {I : Pid} {D : Dyn}
theorem St.updCm {w1 : World} {tmp : List Pk} (h : St base w I D) (hC : Cm base w1 I.c I.q D.sel D.vs tmp) (hF : Fr base [] [I.c] w w1) : St base w1 I { D with tmp := tmp } ∧ Fr base TT [] w w1 :=
  ⟨h.upd (hF.mono (by simp) (by simp)) (h.scr.cmUpd hC hF), h.tt hF (by simp) (fun x hx => .inr (by simp only [List.mem_singleton] at hx; simp [hx]))⟩

theorem fed_out {u : Value} {s1 : PS} (hI : IdOk I) (hfeed : Calls Tryz.prog 48 #[.pointer (some ⟨I.p, 0, none⟩), u] w (FeedPost base I D s1 true none w)) (ht : Prn s1.t) (hts : s1.t.size ≤ 1000) (hk : s1.k ≤ s1.t.size) (hn : D.n + 210000 ≤ 1000000000) :
    Calls Tryz.prog 23 #[.pointer (some ⟨I.p, 0, none⟩), u] w (FedPost base I D s1 true w) := by
  go_enter Tryz.func23, Tryz.ntmps23
  go_wp2_with (fail)
  refine hfeed.mono ?_
  rintro e w1 ⟨D1, xv, rfl, h1, hps, hn1, (⟨-, rfl⟩ | ⟨X, t, h9, -⟩), hF1⟩
  rotate_left
  · cases h9
  subst hps
  obtain ⟨c0, c1, c2, c3, c4, c5, c6, c7, c8, c9, f0, hlt⟩ := prC h1.pr
  go_wp2_with (fail)
  have hS : (fun w' : World => w'.cell? ⟨I.p, 1, none⟩ = some (.pointer (some ⟨I.r, 0, none⟩)) ∧ w'.cell? ⟨I.p, 0, none⟩ = some (.pointer (some ⟨D1.b, 0, none⟩))) w1.drew := ⟨c1, c0⟩
  refine wp_region_plan [3, 7] [8] (fun w' : World => w'.cell? ⟨I.p, 1, none⟩ = some (.pointer (some ⟨I.r, 0, none⟩)) ∧ w'.cell? ⟨I.p, 0, none⟩ = some (.pointer (some ⟨D1.b, 0, none⟩))) (.pure 0 (.pure 1 (.pure 2 (.take 3 (.pure 4 (.pure 5 (.pure 6 (.take 7 (.go 8 .done))))))))) hmix (by kernel_rfl) ?_
  repeat (first | (refine plan_move rfl rfl rfl ?_; (try simp only [Act.put, zq1, zq2, zq3, zq4, zq5, zq6])) | (refine plan_pure (v := ?_) rfl rfl ?_ ?_; rotate_left; (intro w'; go_simp <;> with_reducible rfl); (try simp only [Act.put, zq1, zq2, zq3, zq4, zq5, zq6])) | (refine plan_take (v := ?_) rfl hS rfl ?_ ?_; rotate_left; (intro w' hSw; (try dsimp only at hSw); go_simp <;> with_reducible rfl); (try simp only [Act.put, zq1, zq2, zq3, zq4, zq5, zq6])))
  refine plan_go rfl (by kernel_rfl) rfl (fun K hK => ?_)
  go_simp; refine (breakLine_c h1.scr.rn.drew h1.scr.buf.drew hI.hpre hI.hpres hI.hc1 hI.hc2 ht hts hk (by omega)).mono ?_; rintro e w3 ⟨rfl, hR3, hB3, hF3⟩; refine hK _ _ ?_; clear hK K; (try simp only [Act.put, zq1, zq2, zq3, zq4, zq5, zq6])
  refine plan_done ?_
  have h3 := h1.drew.outUpd (h1.drew.scr.brk hR3 hB3 hF3) hF3 (by simp)
  have hT3 := (hF1.drew).trans (h1.drew.tt5 (hF3.mono (by simp) (by simp)))
  go_wp2
  go_ret
  exact ⟨_, rfl, h3, rfl, by show D1.n + 3000 ≤ _; omega, hT3⟩

theorem fed_none {u : Value} {s1 : PS} {P : PS → Prop} (hI : IdOk I) (hfeed : Calls Tryz.prog 48 #[.pointer (some ⟨I.p, 0, none⟩), u] w (FeedPost base I D s1 false none w)) (hR : RenP base I P) (hPs : PsOk I (s1.update I.q)) (hP : P (s1.update I.q)) (hn : D.n + 210000 ≤ 1000000000) :
    Calls Tryz.prog 23 #[.pointer (some ⟨I.p, 0, none⟩), u] w (FedPost base I D (s1.update I.q) false w) := by
  go_enter Tryz.func23, Tryz.ntmps23
  go_wp2_with (fail)
  refine hfeed.mono ?_
  rintro e w1 ⟨D1, xv, rfl, h2, hps, hn1, (⟨-, rfl⟩ | ⟨X, t, h9, -⟩), hT2⟩
  rotate_left
  · cases h9
  subst hps
  have ht : Prn D1.t := hPs.ht
  have hts : D1.t.size ≤ 500 := hPs.hts
  have hk : D1.k ≤ D1.t.size := hPs.hk
  obtain ⟨c0, c1, c2, c3, c4, c5, c6, c7, c8, c9, f0, hlt⟩ := prC h2.pr
  go_wp2_with (fail)
  have hS : (fun w' : World => w'.cell? ⟨I.p, 4, none⟩ = some (.pointer (some ⟨I.c, 0, none⟩)) ∧ w'.cell? ⟨I.p, 0, none⟩ = some (.pointer (some ⟨D1.b, 0, none⟩))) w1.drew := ⟨c4, c0⟩
  refine wp_region_plan [3, 7] [8, 10, 11] (fun w' : World => w'.cell? ⟨I.p, 4, none⟩ = some (.pointer (some ⟨I.c, 0, none⟩)) ∧ w'.cell? ⟨I.p, 0, none⟩ = some (.pointer (some ⟨D1.b, 0, none⟩))) (.pure 0 (.pure 1 (.pure 2 (.take 3 (.pure 4 (.pure 5 (.pure 6 (.take 7 (.go 8 (.pure 9 (.go 10 (.go 11 .done)))))))))))) hmix (by kernel_rfl) ?_
  repeat (first | (refine plan_move rfl rfl rfl ?_; (try simp only [Act.put, zq1, zq2, zq3, zq4, zq5, zq6])) | (refine plan_pure (v := ?_) rfl rfl ?_ ?_; rotate_left; (intro w'; go_simp <;> with_reducible rfl); (try simp only [Act.put, zq1, zq2, zq3, zq4, zq5, zq6])) | (refine plan_take (v := ?_) rfl hS rfl ?_ ?_; rotate_left; (intro w' hSw; (try dsimp only at hSw); go_simp <;> with_reducible rfl); (try simp only [Act.put, zq1, zq2, zq3, zq4, zq5, zq6])))
  refine plan_goS rfl rfl (fun K hK => ?_)
  go_simp; refine (doc_c h2.drew.scr.buf).mono ?_; rintro e w3 ⟨d, rfl, hd, hB3, hF3⟩; have h3 := h2.drew.docUpd hB3 hF3; have hS3 : (fun w' : World => w'.cell? ⟨I.p, 4, none⟩ = some (.pointer (some ⟨I.c, 0, none⟩)) ∧ w'.cell? ⟨I.p, 0, none⟩ = some (.pointer (some ⟨D1.b, 0, none⟩))) w3 := ⟨(prC h3.pr).c4, (prC h3.pr).c0⟩; obtain ⟨d0, d1, -⟩ := hd.c2; have dlt := hd.lt; refine hK _ _ hS3 ?_; clear hK K; (try simp only [Act.put, zq1, zq2, zq3, zq4, zq5, zq6])
  refine plan_pure (v := ?_) rfl rfl ?_ ?_; rotate_left; (intro w'; go_simp <;> with_reducible rfl); (try simp only [Act.put, zq1, zq2, zq3, zq4, zq5, zq6])
  refine plan_goS rfl rfl (fun K hK => ?_)
  go_simp; refine hK _ _ hS3 ?_; clear hK K; (try simp only [Act.put, zq1, zq2, zq3, zq4, zq5, zq6])
  refine plan_go rfl (by kernel_rfl) rfl (fun K hK => ?_)
  go_simp; refine (update_c h3.scr.cm hI.hq ht.asc (by omega) hk).mono ?_; rintro e w4 ⟨rfl, hC4, hF4⟩; refine hK _ _ ?_; clear hK K; (try simp only [Act.put, zq1, zq2, zq3, zq4, zq5, zq6])
  refine plan_done ?_
  obtain ⟨h4, hG4⟩ := h3.updCm hC4 hF4
  have hT4 := ((hT2.drew).trans (h2.drew.tt hF3 (by simp) (fun x hx => .inr (by simp only [List.mem_singleton] at hx; simp [hx])))).trans hG4
  obtain ⟨c0, c1, c2, c3, c4, c5, c6, c7, c8, c9, f0, hlt⟩ := prC h4.pr
  go_wp2_with (fail)
  have hS : (fun w' : World => w'.cell? ⟨I.p, 1, none⟩ = some (.pointer (some ⟨I.r, 0, none⟩)) ∧ w'.cell? ⟨I.p, 0, none⟩ = some (.pointer (some ⟨D1.b, 0, none⟩)) ∧ w'.cell? ⟨I.p, 4, none⟩ = some (.pointer (some ⟨I.c, 0, none⟩))) w4.drew := ⟨c1, c0, c4⟩
  refine wp_region_plan [3, 7, 11] [12] (fun w' : World => w'.cell? ⟨I.p, 1, none⟩ = some (.pointer (some ⟨I.r, 0, none⟩)) ∧ w'.cell? ⟨I.p, 0, none⟩ = some (.pointer (some ⟨D1.b, 0, none⟩)) ∧ w'.cell? ⟨I.p, 4, none⟩ = some (.pointer (some ⟨I.c, 0, none⟩))) (.pure 0 (.pure 1 (.pure 2 (.take 3 (.pure 4 (.pure 5 (.pure 6 (.take 7 (.pure 8 (.pure 9 (.pure 10 (.take 11 (.go 12 .done))))))))))))) hmix (by kernel_rfl) ?_
  repeat (first | (refine plan_move rfl rfl rfl ?_; (try simp only [Act.put, zq1, zq2, zq3, zq4, zq5, zq6])) | (refine plan_pure (v := ?_) rfl rfl ?_ ?_; rotate_left; (intro w'; go_simp <;> with_reducible rfl); (try simp only [Act.put, zq1, zq2, zq3, zq4, zq5, zq6])) | (refine plan_take (v := ?_) rfl hS rfl ?_ ?_; rotate_left; (intro w' hSw; (try dsimp only at hSw); go_simp <;> with_reducible rfl); (try simp only [Act.put, zq1, zq2, zq3, zq4, zq5, zq6])))
  refine plan_go rfl (by kernel_rfl) rfl (fun K hK => ?_)
  go_simp; refine (hR _ _ h4.drew (StOk.of hI hPs) hP (by show D1.n + 200000 ≤ _; omega)).mono ?_; rintro e w5 ⟨rfl, ⟨n5, hn5, h5⟩, hF5⟩; refine hK _ _ ?_; clear hK K; (try simp only [Act.put, zq1, zq2, zq3, zq4, zq5, zq6])
  refine plan_done ?_
  have hT5 := (hT4.drew).trans hF5
  go_wp2
  go_ret
  exact ⟨_, rfl, h5, rfl, by show n5 ≤ _; have : n5 ≤ D1.n + 200000 := hn5; omega, hT5⟩

theorem fed_exec {u : Value} {s1 : PS} {t : ByteArray} {P : PS → Prop} (hI : IdOk I) (hfeed : Calls Tryz.prog 48 #[.pointer (some ⟨I.p, 0, none⟩), u] w (FeedPost base I D s1 false (some t) w)) (hR : RenP base I P) (hPs : PsOk I ({ s1 with lines := s1.lines ++ [t] }.update I.q)) (hP : P ({ s1 with lines := s1.lines ++ [t] }.update I.q)) (hn : D.n + 210000 ≤ 1000000000) :
    Calls Tryz.prog 23 #[.pointer (some ⟨I.p, 0, none⟩), u] w (FedPost base I D ({ s1 with lines := s1.lines ++ [t] }.update I.q) (decide (I.et ≠ .empty ∧ t = I.et)) w) := by
  have q1 : ∀ w, (binOp .neq 81 .nilFunc .nilFunc).run Tryz.prog w = .ok (.bool false) w := fun w => by kernel_rfl
  have q2 : ∀ (f : Fn) (x y : Array Value) w, (binOp .neq 81 (.func f x y) .nilFunc).run Tryz.prog w = .ok (.bool true) w := fun f x y w => by kernel_rfl
  obtain ⟨ov, hov⟩ : ∃ ov, decide (I.et ≠ .empty ∧ t = I.et) = ov := ⟨_, rfl⟩
  rw [hov]
  have HOV := Lib.hid hov
  clear hov
  go_enter Tryz.func23, Tryz.ntmps23
  go_wp2_with (fail)
  refine hfeed.mono ?_
  rintro e w0 ⟨D0, xv, rfl, h0, hps, hn1, (⟨h9, -⟩ | ⟨X, t', h9, rfl, hX0⟩), hT0⟩
  · cases h9
  simp only [Option.some.injEq] at h9
  subst h9
  subst hps
  have hll : D0.lines.length ≤ 1000 := by
    have := hPs.hl
    have e : (D0.lines ++ [t]).length ≤ 900 := this
    rw [List.length_append] at e
    simp at e
    omega
  obtain ⟨c0, c1, c2, c3, c4, c5, c6, c7, c8, c9, f0, hlt⟩ := prC h0.pr
  obtain ⟨x0, -⟩ := hX0.c1
  have hXl := hX0.lt
  go_wp2_with (fail)
  have hS : (fun w' : World => w'.cell? ⟨I.p, 2, none⟩ = some (.func (.func 41) #[] #[.pointer (some ⟨I.lb, 0, none⟩)]) ∧ w'.cell? ⟨X, 0, none⟩ = some (.string t)) w0.drew := ⟨c2, x0⟩
  refine wp_region_plan [3, 7] [8] (fun w' : World => w'.cell? ⟨I.p, 2, none⟩ = some (.func (.func 41) #[] #[.pointer (some ⟨I.lb, 0, none⟩)]) ∧ w'.cell? ⟨X, 0, none⟩ = some (.string t)) (.pure 0 (.pure 1 (.pure 2 (.take 3 (.pure 4 (.pure 5 (.pure 6 (.take 7 (.go 8 .done))))))))) hmix (by kernel_rfl) ?_
  repeat (first | (refine plan_move rfl rfl rfl ?_; (try simp only [Act.put, zq1, zq2, zq3, zq4, zq5, zq6])) | (refine plan_pure (v := ?_) rfl rfl ?_ ?_; rotate_left; (intro w'; go_simp <;> with_reducible rfl); (try simp only [Act.put, zq1, zq2, zq3, zq4, zq5, zq6])) | (refine plan_take (v := ?_) rfl hS rfl ?_ ?_; rotate_left; (intro w' hSw; (try dsimp only at hSw); go_simp <;> with_reducible rfl); (try simp only [Act.put, zq1, zq2, zq3, zq4, zq5, zq6])))
  refine plan_go rfl (by kernel_rfl) rfl (fun K hK => ?_)
  go_simp; refine (run_c h0.drew.ln t hll).mono ?_; rintro e w1 ⟨rfl, ⟨vl', hL1, ho1⟩, hF1⟩; refine hK _ _ ?_; clear hK K; (try simp only [Act.put, zq1, zq2, zq3, zq4, zq5, zq6])
  refine plan_done ?_
  have h1 := h0.drew.lnUpd hL1 hF1 ho1
  have hT1 := (hT0.drew).trans (h0.drew.ttLn hF1)
  have hX1 := (h0.drew.ttLn hF1).blk hX0.drew (.inr ⟨by simp, by decide⟩)
  have hnn : D0.n ≤ D.n + 4000 := hn1
  obtain ⟨D1, hD1⟩ : ∃ D1, D1 = { D0 with vl := vl', lines := D0.lines ++ [t] } := ⟨_, rfl⟩
  rw [← hD1] at h1
  have hps1 : { D0.ps with lines := D0.ps.lines ++ [t] } = D1.ps := by rw [hD1]; rfl
  rw [hps1] at hPs hP
  have HPS := Lib.hid hps1
  have hn2 : D1.n ≤ D.n + 4000 := by rw [hD1]; exact hnn
  clear hps1 hD1 hnn hn1 hll
  have ht : Prn D1.t := hPs.ht
  have hts : D1.t.size ≤ 500 := hPs.hts
  have hk : D1.k ≤ D1.t.size := hPs.hk
  have h2 := h1
  have hT2 := hT1
  obtain ⟨c0, c1, c2, c3, c4, c5, c6, c7, c8, c9, f0, hlt⟩ := prC h2.pr
  go_wp2_with (fail)
  have hS : (fun w' : World => w'.cell? ⟨I.p, 4, none⟩ = some (.pointer (some ⟨I.c, 0, none⟩)) ∧ w'.cell? ⟨I.p, 0, none⟩ = some (.pointer (some ⟨D1.b, 0, none⟩))) w1.drew := ⟨c4, c0⟩
  refine wp_region_plan [3, 7] [8, 10, 11] (fun w' : World => w'.cell? ⟨I.p, 4, none⟩ = some (.pointer (some ⟨I.c, 0, none⟩)) ∧ w'.cell? ⟨I.p, 0, none⟩ = some (.pointer (some ⟨D1.b, 0, none⟩))) (.pure 0 (.pure 1 (.pure 2 (.take 3 (.pure 4 (.pure 5 (.pure 6 (.take 7 (.go 8 (.pure 9 (.go 10 (.go 11 .done)))))))))))) hmix (by kernel_rfl) ?_
  repeat (first | (refine plan_move rfl rfl rfl ?_; (try simp only [Act.put, zq1, zq2, zq3, zq4, zq5, zq6])) | (refine plan_pure (v := ?_) rfl rfl ?_ ?_; rotate_left; (intro w'; go_simp <;> with_reducible rfl); (try simp only [Act.put, zq1, zq2, zq3, zq4, zq5, zq6])) | (refine plan_take (v := ?_) rfl hS rfl ?_ ?_; rotate_left; (intro w' hSw; (try dsimp only at hSw); go_simp <;> with_reducible rfl); (try simp only [Act.put, zq1, zq2, zq3, zq4, zq5, zq6])))
  refine plan_goS rfl rfl (fun K hK => ?_)
  go_simp; refine (doc_c h2.drew.scr.buf).mono ?_; rintro e w3 ⟨d, rfl, hd, hB3, hF3⟩; have h3 := h2.drew.docUpd hB3 hF3; have hS3 : (fun w' : World => w'.cell? ⟨I.p, 4, none⟩ = some (.pointer (some ⟨I.c, 0, none⟩)) ∧ w'.cell? ⟨I.p, 0, none⟩ = some (.pointer (some ⟨D1.b, 0, none⟩))) w3 := ⟨(prC h3.pr).c4, (prC h3.pr).c0⟩; obtain ⟨d0, d1, -⟩ := hd.c2; have dlt := hd.lt; refine hK _ _ hS3 ?_; clear hK K; (try simp only [Act.put, zq1, zq2, zq3, zq4, zq5, zq6])
  refine plan_pure (v := ?_) rfl rfl ?_ ?_; rotate_left; (intro w'; go_simp <;> with_reducible rfl); (try simp only [Act.put, zq1, zq2, zq3, zq4, zq5, zq6])
  refine plan_goS rfl rfl (fun K hK => ?_)
  go_simp; refine hK _ _ hS3 ?_; clear hK K; (try simp only [Act.put, zq1, zq2, zq3, zq4, zq5, zq6])
  refine plan_go rfl (by kernel_rfl) rfl (fun K hK => ?_)
  go_simp; refine (update_c h3.scr.cm hI.hq ht.asc (by omega) hk).mono ?_; rintro e w4 ⟨rfl, hC4, hF4⟩; refine hK _ _ ?_; clear hK K; (try simp only [Act.put, zq1, zq2, zq3, zq4, zq5, zq6])
  refine plan_done ?_
  obtain ⟨h4, hG4⟩ := h3.updCm hC4 hF4
  have hT4 := ((hT2.drew).trans (h2.drew.tt hF3 (by simp) (fun x hx => .inr (by simp only [List.mem_singleton] at hx; simp [hx])))).trans hG4
  obtain ⟨c0, c1, c2, c3, c4, c5, c6, c7, c8, c9, f0, hlt⟩ := prC h4.pr
  go_wp2_with (fail)
  have hS : (fun w' : World => w'.cell? ⟨I.p, 1, none⟩ = some (.pointer (some ⟨I.r, 0, none⟩)) ∧ w'.cell? ⟨I.p, 0, none⟩ = some (.pointer (some ⟨D1.b, 0, none⟩)) ∧ w'.cell? ⟨I.p, 4, none⟩ = some (.pointer (some ⟨I.c, 0, none⟩))) w4.drew := ⟨c1, c0, c4⟩
  refine wp_region_plan [3, 7, 11] [12] (fun w' : World => w'.cell? ⟨I.p, 1, none⟩ = some (.pointer (some ⟨I.r, 0, none⟩)) ∧ w'.cell? ⟨I.p, 0, none⟩ = some (.pointer (some ⟨D1.b, 0, none⟩)) ∧ w'.cell? ⟨I.p, 4, none⟩ = some (.pointer (some ⟨I.c, 0, none⟩))) (.pure 0 (.pure 1 (.pure 2 (.take 3 (.pure 4 (.pure 5 (.pure 6 (.take 7 (.pure 8 (.pure 9 (.pure 10 (.take 11 (.go 12 .done))))))))))))) hmix (by kernel_rfl) ?_
  repeat (first | (refine plan_move rfl rfl rfl ?_; (try simp only [Act.put, zq1, zq2, zq3, zq4, zq5, zq6])) | (refine plan_pure (v := ?_) rfl rfl ?_ ?_; rotate_left; (intro w'; go_simp <;> with_reducible rfl); (try simp only [Act.put, zq1, zq2, zq3, zq4, zq5, zq6])) | (refine plan_take (v := ?_) rfl hS rfl ?_ ?_; rotate_left; (intro w' hSw; (try dsimp only at hSw); go_simp <;> with_reducible rfl); (try simp only [Act.put, zq1, zq2, zq3, zq4, zq5, zq6])))
  refine plan_go rfl (by kernel_rfl) rfl (fun K hK => ?_)
  go_simp; refine (hR _ _ h4.drew (StOk.of hI hPs) hP (by show D1.n + 200000 ≤ _; omega)).mono ?_; rintro e w5 ⟨rfl, ⟨n5, hn5, h5⟩, hF5⟩; refine hK _ _ ?_; clear hK K; (try simp only [Act.put, zq1, zq2, zq3, zq4, zq5, zq6])
  refine plan_done ?_
  have hT5 := (hT4.drew).trans hF5
  have hX5 := (((((Fr.refl base TT [] w1).drew).trans (h2.drew.tt hF3 (by simp) (fun x hx => .inr (by simp only [List.mem_singleton] at hx; simp [hx])))).trans hG4).drew.trans hF5).blk hX1 (.inr ⟨by simp, by decide⟩)
  obtain ⟨c0, c1, c2, c3, c4, c5, c6, c7, c8, c9, f0, hlt⟩ := prC h5.pr
  obtain ⟨x0, -⟩ := hX5.c1
  have hXl := hX5.lt
  have hn6 : n5 ≤ D.n + 210000 := by have : n5 ≤ D1.n + 200000 := hn5; omega
  rcases h5.exi with ⟨hex, het⟩ | ⟨sb, cs, hex, hSB, h10, hne⟩
  · rw [hex] at c9
    have hov : ov = false := by rw [← HOV.out]; simp [het]
    subst hov
    clear hex het
    go_wp2_with (fail)
    have hS : (fun w' : World => w'.cell? ⟨I.p, 9, none⟩ = some (.nilFunc) ∧ w'.cell? ⟨X, 0, none⟩ = some (.string t)) w5.drew := ⟨c9, x0⟩
    refine wp_region_plan [3, 9, 13] [14] (fun w' : World => w'.cell? ⟨I.p, 9, none⟩ = some (.nilFunc) ∧ w'.cell? ⟨X, 0, none⟩ = some (.string t)) (.pure 0 (.pure 1 (.pure 2 (.take 3 (.pure 4 (.pure 5 (.pure 6 (.pure 7 (.pure 8 (.take 9 (.pure 10 (.pure 11 (.pure 12 (.take 13 (.go 14 (.pure 15 .done)))))))))))))))) hmix (by kernel_rfl) ?_
    repeat (first | (refine plan_move rfl rfl rfl ?_; (try simp only [Act.put, zq1, zq2, zq3, zq4, zq5, zq6])) | (refine plan_skipP rfl rfl ?_; (try simp only [Act.put, zq1, zq2, zq3, zq4, zq5, zq6])) | (refine plan_skip rfl hS rfl ?_; (try simp only [Act.put, zq1, zq2, zq3, zq4, zq5, zq6])) | (refine plan_pure (v := ?_) rfl rfl ?_ ?_; rotate_left; (intro w'; go_simp <;> with_reducible rfl); (try simp only [Act.put, zq1, zq2, zq3, zq4, zq5, zq6])) | (refine plan_take (v := ?_) rfl hS rfl ?_ ?_; rotate_left; (intro w' hSw; (try dsimp only at hSw); go_simp <;> with_reducible rfl); (try simp only [Act.put, zq1, zq2, zq3, zq4, zq5, zq6])))
    refine plan_goSkip rfl rfl (fun _ => hS) ?_; (try simp only [Act.put, zq1, zq2, zq3, zq4, zq5, zq6])
    refine plan_pure (v := ?_) rfl rfl ?_ ?_; rotate_left; (intro w'; go_simp <;> with_reducible rfl); (try simp only [Act.put, zq1, zq2, zq3, zq4, zq5, zq6])
    refine plan_done ?_
    go_wp2
    go_ret
    exact ⟨_, rfl, h5.drew, by rw [HPS.out]; rfl, hn6, hT5.drew⟩
  · rw [hex] at c9
    have hov2 : ov = (true && decide (t = I.et)) := by rw [← HOV.out]; simp [hne]
    have hxe := exit_c (w := w5.drew) hSB.drew h10 t true
    rw [← hov2] at hxe
    clear hex hov2 hne h10
    cases ov
    all_goals
      go_wp2_with (fail)
      have hS : (fun w' : World => w'.cell? ⟨I.p, 9, none⟩ = some (.func (.func 42) #[] #[.pointer (some ⟨sb, 0, none⟩)]) ∧ w'.cell? ⟨X, 0, none⟩ = some (.string t)) w5.drew := ⟨c9, x0⟩
      refine wp_region_plan [3, 9, 13] [14] (fun w' : World => w'.cell? ⟨I.p, 9, none⟩ = some (.func (.func 42) #[] #[.pointer (some ⟨sb, 0, none⟩)]) ∧ w'.cell? ⟨X, 0, none⟩ = some (.string t)) (.pure 0 (.pure 1 (.pure 2 (.take 3 (.pure 4 (.pure 5 (.pure 6 (.pure 7 (.pure 8 (.take 9 (.pure 10 (.pure 11 (.pure 12 (.take 13 (.go 14 (.pure 15 .done)))))))))))))))) hmix (by kernel_rfl) ?_
      repeat (first | (refine plan_move rfl rfl rfl ?_; (try simp only [Act.put, zq1, zq2, zq3, zq4, zq5, zq6])) | (refine plan_skipP rfl rfl ?_; (try simp only [Act.put, zq1, zq2, zq3, zq4, zq5, zq6])) | (refine plan_skip rfl hS rfl ?_; (try simp only [Act.put, zq1, zq2, zq3, zq4, zq5, zq6])) | (refine plan_pure (v := ?_) rfl rfl ?_ ?_; rotate_left; (intro w'; go_simp <;> with_reducible rfl); (try simp only [Act.put, zq1, zq2, zq3, zq4, zq5, zq6])) | (refine plan_take (v := ?_) rfl hS rfl ?_ ?_; rotate_left; (intro w' hSw; (try dsimp only at hSw); go_simp <;> with_reducible rfl); (try simp only [Act.put, zq1, zq2, zq3, zq4, zq5, zq6])))
      refine plan_go rfl (by kernel_rfl) rfl (fun K hK => ?_)
      go_simp; refine hxe.mono ?_; rintro e w6 ⟨rfl, hF6⟩; refine hK _ _ ?_; clear hK K; (try simp only [Act.put, zq1, zq2, zq3, zq4, zq5, zq6])
      refine plan_pure (v := ?_) rfl rfl ?_ ?_; rotate_left; (intro w'; go_simp <;> with_reducible rfl); (try simp only [Act.put, zq1, zq2, zq3, zq4, zq5, zq6])
      refine plan_done ?_
      go_wp2
      go_ret
      exact ⟨_, rfl, h5.drew.fr0 hF6, by rw [HPS.out]; rfl, hn6, (hT5.drew).trans hF6.any⟩
end
end Go.Proofs.YtiepopbmbgfhkaaGreat
