/-
  Show; what a prompt tells: its line, its cursor, its bytes.
-/
import Derived.Test.YtiepopbmbgfhkaaGreatQ20
namespace Go.Proofs.YtiepopbmbgfhkaaGreat
open Go.RowKit
open List renaming setIfInBounds_toArray → zq1, set_cons_zero → zq2, set_cons_succ → zq3
open Int renaming toNat_natCast → zq4, toNat_sub → zq5, toNat_zero → zq6
set_option maxHeartbeats 2000000
set_option maxRecDepth 20000
set_option linter.unusedVariables false
set_option linter.unusedSimpArgs false

section
variable {base : Nat} {w : World} {I : Pid} {D : Dyn}

theorem pText_c (h : St base w I D) : Calls Tryz.prog 25 #[.pointer (some ⟨I.p, 0, none⟩)] w fun e w' => e = .returned (.string D.t) ∧ ∃ n, w' = w.drewN n := by
  obtain ⟨c0, c1, c2, c3, c4, c5, c6, c7, c8, c9, f0, hlt⟩ := prC h.pr
  go_enter Tryz.func25, Tryz.ntmps25
  go_wp2_with (fail)
  refine (text_c h.scr.buf).mono ?_
  rintro e w4 ⟨rfl, j4, rfl⟩
  go_wp2
  go_ret
  exact ⟨rfl, _, rfl⟩

theorem bAt_c {b L k : Nat} {t : ByteArray} (h : Buf base w b L t k) : Calls Tryz.prog 52 #[.pointer (some ⟨b, 0, none⟩)] w fun e w' => e = .returned (.int .i64 k) ∧ w = w' := by
  obtain ⟨c2, f2, hlt, hlL, hbb, hbL⟩ := h.cells
  go_enter Tryz.func52, Tryz.ntmps52
  go_wp2
  go_ret
  exact ⟨rfl, rfl⟩

theorem pAt_c (h : St base w I D) : Calls Tryz.prog 26 #[.pointer (some ⟨I.p, 0, none⟩)] w fun e w' => e = .returned (.int .i64 D.k) ∧ w = w' := by
  obtain ⟨c0, c1, c2, c3, c4, c5, c6, c7, c8, c9, f0, hlt⟩ := prC h.pr
  go_enter Tryz.func26, Tryz.ntmps26
  go_wp2_with (fail)
  refine (bAt_c h.scr.buf).mono ?_
  rintro e w4 ⟨rfl, rfl⟩
  go_wp2
  go_ret
  exact ⟨rfl, rfl⟩

theorem bytes_c {r o n : Nat} {pre : ByteArray} {cols : Nat} (h : Rn base w r o pre cols n) : Calls Tryz.prog 50 #[.pointer (some ⟨r, 0, none⟩)] w fun e w' => (∃ v l, e = .returned v ∧ Bys base w v l ∧ l.length ≤ n) ∧ w = w' := by
  obtain ⟨pc, hpc, ⟨c0, c1, c2, c3, c5, c6, c7, f7, hlt⟩, hB, hbr⟩ := h.ren
  obtain ⟨w0, w1, w2, v, l, hv, hl, hn⟩ := h.wr
  have v0 := hv.cell 0
  obtain ⟨p, k, c, rfl⟩ := hl.form
  have ta : ∀ (a : Addr) (w : World), (Instr.typeAssert (.iface 144 (.pointer (some a))) 123 144 false).run Tryz.prog w = .ok (.pointer (some a)) w := fun a w => by kernel_rfl
  go_enter Tryz.func50, Tryz.ntmps50
  go_wp2
  go_ret
  exact ⟨⟨_, l, rfl, hl, hn⟩, rfl⟩

theorem written_c (h : St base w I D) : Calls Tryz.prog 24 #[.pointer (some ⟨I.p, 0, none⟩)] w fun e w' => (∃ v l, e = .returned v ∧ Bys base w v l ∧ l.length ≤ D.n) ∧ w = w' := by
  obtain ⟨c0, c1, c2, c3, c4, c5, c6, c7, c8, c9, f0, hlt⟩ := prC h.pr
  go_enter Tryz.func24, Tryz.ntmps24
  go_wp2_with (fail)
  refine (bytes_c h.scr.rn).mono ?_
  rintro e w4 ⟨⟨v, l, rfl, hl, hn⟩, rfl⟩
  obtain ⟨p, k, c, rfl⟩ := hl.form
  go_wp2
  go_ret
  exact ⟨⟨_, l, rfl, hl, hn⟩, rfl⟩

/-- What 'Show' leaves. -/
def ShowPost (base : Nat) (I : Pid) (D : Dyn) (s' : PS) (w : World) (e : Ending) (w' : World) : Prop :=
  ∃ D', e = .returned (.tuple #[]) ∧ St base w' I D' ∧ D'.ps = s' ∧ D'.n ≤ D.n + 200000 ∧ Fr base TT [] w w'

theorem show_c {P : PS → Prop} (h : St base w I D) (hI : IdOk I) (hR : RenP base I P) (hPs : PsOk I (if I.q.start then D.ps.update I.q else D.ps)) (hP : P (if I.q.start then D.ps.update I.q else D.ps)) (hn : D.n + 210000 ≤ 1000000000) :
    Calls Tryz.prog 22 #[.pointer (some ⟨I.p, 0, none⟩)] w (ShowPost base I D (if I.q.start then D.ps.update I.q else D.ps) w) := by
  obtain ⟨c0, c1, c2, c3, c4, c5, c6, c7, c8, c9, f0, hlt⟩ := prC h.pr
  obtain ⟨pp, kk, ⟨k0, k1, k2, k3, k4, k5, k6, kf0, kf1, kf4, klt⟩, hCB, -⟩ := h.scr.cm.ren
  obtain ⟨st, hst⟩ : ∃ st, I.q.start = st := ⟨_, rfl⟩
  rw [hst] at hPs hP k6 ⊢
  clear hst
  cases st with
  | false =>
    simp only [Bool.false_eq_true, if_false] at hPs hP ⊢
    go_enter Tryz.func22, Tryz.ntmps22
    go_wp2_with (fail)
    have hS : (fun w' : World => w'.cell? ⟨I.p, 1, none⟩ = some (.pointer (some ⟨I.r, 0, none⟩)) ∧ w'.cell? ⟨I.p, 0, none⟩ = some (.pointer (some ⟨D.b, 0, none⟩)) ∧ w'.cell? ⟨I.p, 4, none⟩ = some (.pointer (some ⟨I.c, 0, none⟩))) w.drew := ⟨c1, c0, c4⟩
    refine wp_region_plan [3, 7, 11] [12] (fun w' : World => w'.cell? ⟨I.p, 1, none⟩ = some (.pointer (some ⟨I.r, 0, none⟩)) ∧ w'.cell? ⟨I.p, 0, none⟩ = some (.pointer (some ⟨D.b, 0, none⟩)) ∧ w'.cell? ⟨I.p, 4, none⟩ = some (.pointer (some ⟨I.c, 0, none⟩))) (.pure 0 (.pure 1 (.pure 2 (.take 3 (.pure 4 (.pure 5 (.pure 6 (.take 7 (.pure 8 (.pure 9 (.pure 10 (.take 11 (.go 12 .done))))))))))))) hmix (by kernel_rfl) ?_
    repeat (first | (refine plan_move rfl rfl rfl ?_; (try simp only [Act.put, zq1, zq2, zq3, zq4, zq5, zq6])) | (refine plan_pure (v := ?_) rfl rfl ?_ ?_; rotate_left; (intro w'; go_simp <;> with_reducible rfl); (try simp only [Act.put, zq1, zq2, zq3, zq4, zq5, zq6])) | (refine plan_take (v := ?_) rfl hS rfl ?_ ?_; rotate_left; (intro w' hSw; (try dsimp only at hSw); go_simp <;> with_reducible rfl); (try simp only [Act.put, zq1, zq2, zq3, zq4, zq5, zq6])))
    refine plan_go rfl (by kernel_rfl) rfl (fun K hK => ?_)
    go_simp; refine (hR _ _ h.drew (StOk.of hI hPs) hP (by show D.n + 200000 ≤ _; omega)).mono ?_; rintro e w5 ⟨rfl, ⟨n5, hn5, h5⟩, hF5⟩; refine hK _ _ ?_; clear hK K; (try simp only [Act.put, zq1, zq2, zq3, zq4, zq5, zq6])
    refine plan_done ?_
    go_wp2
    go_end0
    exact ⟨_, rfl, h5, rfl, hn5, ((Fr.refl base TT [] w).drew).trans hF5⟩
  | true =>
    simp only [if_true] at hPs hP ⊢
    have ht : Prn D.t := hPs.ht
    have hts : D.t.size ≤ 500 := hPs.hts
    have hk : D.k ≤ D.t.size := hPs.hk
    go_enter Tryz.func22, Tryz.ntmps22
    go_wp2_with (fail)
    have hS : (fun w' : World => w'.cell? ⟨I.p, 4, none⟩ = some (.pointer (some ⟨I.c, 0, none⟩)) ∧ w'.cell? ⟨I.p, 0, none⟩ = some (.pointer (some ⟨D.b, 0, none⟩))) w.drew := ⟨c4, c0⟩
    refine wp_region_plan [3, 7] [8, 10, 11] (fun w' : World => w'.cell? ⟨I.p, 4, none⟩ = some (.pointer (some ⟨I.c, 0, none⟩)) ∧ w'.cell? ⟨I.p, 0, none⟩ = some (.pointer (some ⟨D.b, 0, none⟩))) (.pure 0 (.pure 1 (.pure 2 (.take 3 (.pure 4 (.pure 5 (.pure 6 (.take 7 (.go 8 (.pure 9 (.go 10 (.go 11 .done)))))))))))) hmix (by kernel_rfl) ?_
    repeat (first | (refine plan_move rfl rfl rfl ?_; (try simp only [Act.put, zq1, zq2, zq3, zq4, zq5, zq6])) | (refine plan_pure (v := ?_) rfl rfl ?_ ?_; rotate_left; (intro w'; go_simp <;> with_reducible rfl); (try simp only [Act.put, zq1, zq2, zq3, zq4, zq5, zq6])) | (refine plan_take (v := ?_) rfl hS rfl ?_ ?_; rotate_left; (intro w' hSw; (try dsimp only at hSw); go_simp <;> with_reducible rfl); (try simp only [Act.put, zq1, zq2, zq3, zq4, zq5, zq6])))
    refine plan_goS rfl rfl (fun K hK => ?_)
    go_simp; refine (doc_c h.drew.scr.buf).mono ?_; rintro e w3 ⟨d, rfl, hd, hB3, hF3⟩; have h3 := h.drew.docUpd hB3 hF3; have hS3 : (fun w' : World => w'.cell? ⟨I.p, 4, none⟩ = some (.pointer (some ⟨I.c, 0, none⟩)) ∧ w'.cell? ⟨I.p, 0, none⟩ = some (.pointer (some ⟨D.b, 0, none⟩))) w3 := ⟨(prC h3.pr).c4, (prC h3.pr).c0⟩; obtain ⟨d0, d1, -⟩ := hd.c2; have dlt := hd.lt; refine hK _ _ hS3 ?_; clear hK K; (try simp only [Act.put, zq1, zq2, zq3, zq4, zq5, zq6])
    refine plan_pure (v := ?_) rfl rfl ?_ ?_; rotate_left; (intro w'; go_simp <;> with_reducible rfl); (try simp only [Act.put, zq1, zq2, zq3, zq4, zq5, zq6])
    refine plan_goS rfl rfl (fun K hK => ?_)
    go_simp; refine hK _ _ hS3 ?_; clear hK K; (try simp only [Act.put, zq1, zq2, zq3, zq4, zq5, zq6])
    refine plan_go rfl (by kernel_rfl) rfl (fun K hK => ?_)
    go_simp; refine (update_c h3.scr.cm hI.hq ht.asc (by omega) hk).mono ?_; rintro e w4 ⟨rfl, hC4, hF4⟩; refine hK _ _ ?_; clear hK K; (try simp only [Act.put, zq1, zq2, zq3, zq4, zq5, zq6])
    refine plan_done ?_
    obtain ⟨h4, hG4⟩ := h3.updCm hC4 hF4
    have hT4 := (((Fr.refl base TT [] w).drew).trans (h.drew.tt hF3 (by simp) (fun x hx => .inr (by simp only [List.mem_singleton] at hx; simp [hx])))).trans hG4
    obtain ⟨c0, c1, c2, c3, c4, c5, c6, c7, c8, c9, f0, hlt⟩ := prC h4.pr
    go_wp2_with (fail)
    have hS : (fun w' : World => w'.cell? ⟨I.p, 1, none⟩ = some (.pointer (some ⟨I.r, 0, none⟩)) ∧ w'.cell? ⟨I.p, 0, none⟩ = some (.pointer (some ⟨D.b, 0, none⟩)) ∧ w'.cell? ⟨I.p, 4, none⟩ = some (.pointer (some ⟨I.c, 0, none⟩))) w4.drew := ⟨c1, c0, c4⟩
    refine wp_region_plan [3, 7, 11] [12] (fun w' : World => w'.cell? ⟨I.p, 1, none⟩ = some (.pointer (some ⟨I.r, 0, none⟩)) ∧ w'.cell? ⟨I.p, 0, none⟩ = some (.pointer (some ⟨D.b, 0, none⟩)) ∧ w'.cell? ⟨I.p, 4, none⟩ = some (.pointer (some ⟨I.c, 0, none⟩))) (.pure 0 (.pure 1 (.pure 2 (.take 3 (.pure 4 (.pure 5 (.pure 6 (.take 7 (.pure 8 (.pure 9 (.pure 10 (.take 11 (.go 12 .done))))))))))))) hmix (by kernel_rfl) ?_
    repeat (first | (refine plan_move rfl rfl rfl ?_; (try simp only [Act.put, zq1, zq2, zq3, zq4, zq5, zq6])) | (refine plan_pure (v := ?_) rfl rfl ?_ ?_; rotate_left; (intro w'; go_simp <;> with_reducible rfl); (try simp only [Act.put, zq1, zq2, zq3, zq4, zq5, zq6])) | (refine plan_take (v := ?_) rfl hS rfl ?_ ?_; rotate_left; (intro w' hSw; (try dsimp only at hSw); go_simp <;> with_reducible rfl); (try simp only [Act.put, zq1, zq2, zq3, zq4, zq5, zq6])))
    refine plan_go rfl (by kernel_rfl) rfl (fun K hK => ?_)
    go_simp; refine (hR _ _ h4.drew (StOk.of hI hPs) hP (by show D.n + 200000 ≤ _; omega)).mono ?_; rintro e w5 ⟨rfl, ⟨n5, hn5, h5⟩, hF5⟩; refine hK _ _ ?_; clear hK K; (try simp only [Act.put, zq1, zq2, zq3, zq4, zq5, zq6])
    refine plan_done ?_
    go_wp2
    go_end0
    exact ⟨_, rfl, h5, rfl, hn5, (hT4.drew).trans hF5⟩
end
end Go.Proofs.YtiepopbmbgfhkaaGreat
