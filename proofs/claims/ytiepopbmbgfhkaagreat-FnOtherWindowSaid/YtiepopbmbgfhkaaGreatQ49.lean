/-
  The set's player: a key; whether its line is long, or nothing is said any more; how it stands.
  The set's player: how it begins.
-/
import Derived.Test.YtiepopbmbgfhkaaGreatQ48
namespace Go.Proofs.YtiepopbmbgfhkaaGreat
open Go.RowKit
open List renaming setIfInBounds_toArray → zq1, set_cons_zero → zq2, set_cons_succ → zq3
open Int renaming toNat_natCast → zq4, toNat_sub → zq5, toNat_zero → zq6
set_option maxHeartbeats 8000000
set_option maxRecDepth 20000
set_option linter.unusedVariables false
set_option linter.unusedSimpArgs false

section
variable {nb base : Nat} {w : World} {p : Nat} {S : Sess} {ov hv : Value} {P : PL} {V : PV} {i : Nat}
theorem pKey_c {c : ByteArray} (h : Ply base w p S ov hv P V) (hnb : V.bs.length ≤ nb) (hnb9 : nb ≤ 1000) (hS : SessOk S) (hkp : Kept S i P.s) (hi : i ≤ 40) (hc : KR c) (h0 : 0 < c.size) :
    Calls Tryz.prog 29 #[.pointer (some ⟨p, 0, none⟩), .string c] w (PlyPost (nb + 1) base p S ov hv (P.key (S.cp 0 0) S.down S.exit S.mode c.data.toList) (.tuple #[]) w) := by
  have hC := plC h.blk
  have c13 := hC.c13
  have c21 := hC.c21
  have hlt := hC.lt
  clear hC
  cases hov : P.over with
  | true =>
    have e : P.key (S.cp 0 0) S.down S.exit S.mode c.data.toList = P := by unfold PL.key; rw [if_pos hov]
    rw [e]
    rw [hov] at c21
    clear e
    go_enter Tryz.func29, Tryz.ntmps29
    go_wp2_with (fail)
    go_end0
    exact ⟨rfl, ⟨V, h, by omega⟩, Fr.refl _ _ _ _⟩
  | false =>
  rw [hov] at c21
  have hcf := comp_facts hkp hS (keyOf c.data.toList)
  have hpc := pChoose_c h hnb hS hkp hc h0
  have hl86 : keyOf c.data.toList = 86 → Prn c := fun e => ((kr_akey hc).2.2.2 e).2
  have hl40 : keyOf c.data.toList = 86 → c.data.toList.length ≤ 40 := fun _ => by have := hc.1; show c.data.toList.length ≤ 40; simpa using this
  obtain ⟨haf, -⟩ := act_facts (et := S.exit) hkp hcf (fun e => by have := hl86 e; simpa using this)
  obtain ⟨c1, hc1⟩ : ∃ c1, P.s.choose (S.cp 0 0) S.down (keyOf c.data.toList) = c1 := ⟨_, rfl⟩
  have hc1' : (P.s.comp (S.cp 0 0) S.down (keyOf c.data.toList)).wt P.s.tmp = c1 := hc1
  have hA : ActH c1 := by
    rw [← hc1']
    obtain ⟨g1, g2, g3, g4, g5, g6, g7, -⟩ := hcf
    have q1 := hkp.hhl
    have q2 := hkp.hTl
    have q3 := hkp.hsl
    have q4 := hkp.hl
    refine ⟨g1, g3, g2, ?_, ?_, ?_, ?_, ?_, ?_⟩
    · show ∀ x ∈ (P.s.comp _ _ _).hs, _
      rw [g4]; exact hkp.hh
    · show (P.s.comp _ _ _).hs.length ≤ 100
      rw [g4]; omega
    · show ∀ x ∈ (P.s.comp _ _ _).ts, _
      rw [g5]; exact hkp.hT
    · show (P.s.comp _ _ _).ts.length = (P.s.comp _ _ _).hs.length + 1
      rw [g4, g5]; exact q2
    · show (P.s.comp _ _ _).hsel < (P.s.comp _ _ _).ts.length
      rw [g5, g6]; exact q3
    · show (P.s.comp _ _ _).lines.length ≤ 100
      rw [g7]; omega
  rw [hc1'] at haf
  rw [hc1] at hpc
  have hsz := act_size (et := S.exit) (down := S.down) (cpl := decide (P.s.sel ≠ -1)) (l := c.data.toList) hA.hts hA.hk hA.hT hl40
  have hkey : P.key (S.cp 0 0) S.down S.exit S.mode c.data.toList = ⟨(if (c1.act S.exit S.down (decide (P.s.sel ≠ -1)) c.data.toList).2.2.2 || (c1.act S.exit S.down (decide (P.s.sel ≠ -1)) c.data.toList).2.1 then (c1.act S.exit S.down (decide (P.s.sel ≠ -1)) c.data.toList).1 else bdP S.mode (keyOf c.data.toList) (c1.act S.exit S.down (decide (P.s.sel ≠ -1)) c.data.toList).1).update (S.cp 0 0), (c1.act S.exit S.down (decide (P.s.sel ≠ -1)) c.data.toList).2.1, P.opn || (c1.act S.exit S.down (decide (P.s.sel ≠ -1)) c.data.toList).2.2.1⟩ := by
    unfold PL.key
    rw [if_neg (by rw [hov]; simp), hc1]
  have hpa : ∀ (w : World) (V : PV), Ply base w p S ov hv (P.st c1) V → V.bs.length ≤ nb → Calls Tryz.prog 57 #[.pointer (some ⟨p, 0, none⟩), .string c, .bool (decide (P.s.sel ≠ -1))] w (PlyPost (nb + 1) base p S ov hv ⟨(c1.act S.exit S.down (decide (P.s.sel ≠ -1)) c.data.toList).1, (c1.act S.exit S.down (decide (P.s.sel ≠ -1)) c.data.toList).2.1, P.opn || (c1.act S.exit S.down (decide (P.s.sel ≠ -1)) c.data.toList).2.2.1⟩ (.bool (c1.act S.exit S.down (decide (P.s.sel ≠ -1)) c.data.toList).2.2.2) w) := fun w V h hn => pAct_c h hn hnb9 hA hov hc h0 (decide (P.s.sel ≠ -1))
  rw [hkey]
  have hsl : (P.s.sel = -1 ∧ decide (P.s.sel ≠ -1) = false ∧ decide ((0 : Int) ≤ P.s.sel) = false) ∨ (decide (P.s.sel ≠ -1) = true ∧ decide ((0 : Int) ≤ P.s.sel) = true) := by
    rcases hkp.sel with ⟨e, -⟩ | ⟨n, e, -⟩
    · exact .inl ⟨e, by simpa using e, by simp; omega⟩
    · exact .inr ⟨by simp; omega, by simp; omega⟩
  have hge : decide ((0 : Int) ≤ P.s.sel) = decide (P.s.sel ≠ -1) := by
    rcases hsl with ⟨-, e1, e2⟩ | ⟨e1, e2⟩ <;> rw [e1, e2]
  obtain ⟨cpl, hcpl⟩ : ∃ cpl, decide (P.s.sel ≠ -1) = cpl := ⟨_, rfl⟩
  rw [hcpl] at hge hpc haf hsz hpa ⊢
  obtain ⟨⟨a, ovr, op, ret⟩, hr⟩ : ∃ r, c1.act S.exit S.down cpl c.data.toList = r := ⟨_, rfl⟩
  rw [hr] at hpa haf hsz ⊢
  simp only at hpa haf hsz ⊢
  have haf : Prn a.t ∧ a.k ≤ a.t.size := ⟨haf.ht, haf.hk⟩
  obtain ⟨key, hkk⟩ : ∃ key, keyOf c.data.toList = key := ⟨_, rfl⟩
  have hpb := fun (w : World) (V : PV) (h : Ply base w p S ov hv ⟨a, ovr, P.opn || op⟩ V) (hn : V.bs.length ≤ nb + 1) => pBound_c h hn haf.1 (Nat.le_trans hsz (by omega)) haf.2 hc h0
  have hbo : OkG a.t.size (bdF S.mode key (a.t, a.k)) := bdF_ok ⟨haf.1, Nat.le_refl _, haf.2⟩
  have hpo := fun (s3 : PS) (hs3 : Prn s3.t ∧ s3.t.size ≤ 1000 ∧ s3.k ≤ s3.t.size) (w : World) (V : PV) (h : Ply base w p S ov hv ⟨s3, ovr, P.opn || op⟩ V) (hn : V.bs.length ≤ nb + 1) => pOffer_c h hn hS hs3.1 (by have := hs3.2.1; show s3.t.size ≤ 1000000; omega) hs3.2.2
  rw [hkk] at hpb ⊢
  have ha3 : Prn a.t ∧ a.t.size ≤ 1000 ∧ a.k ≤ a.t.size := ⟨haf.1, by omega, haf.2⟩
  have hb3 : Prn (bdP S.mode key a).t ∧ (bdP S.mode key a).t.size ≤ 1000 ∧ (bdP S.mode key a).k ≤ (bdP S.mode key a).t.size := ⟨hbo.1, Nat.le_trans hbo.2.1 (by omega), hbo.2.2⟩
  obtain ⟨R, hR⟩ : ∃ R : PL, ⟨(if ret || ovr then a else bdP S.mode key a).update (S.cp 0 0), ovr, P.opn || op⟩ = R := ⟨_, rfl⟩
  rw [hR]
  have HR := Lib.hid hR
  clear hR
  clear hkey hr hcpl hsl hc1 hc1' hcf hkp hA haf hsz hbo hl86 hl40 hkk
  go_enter Tryz.func29, Tryz.ntmps29
  go_wp2_with (fail)
  refine hpc.mono ?_
  rintro e w1 ⟨rfl, ⟨V1, h1, hn1⟩, hF1⟩
  clear hpc c13 c21 hlt hge h
  go_wp2_with (fail)
  refine (hpa w1 V1 h1 hn1).mono ?_
  rintro e w2 ⟨rfl, ⟨V2, h2, hn2⟩, hF2⟩
  have c21 : w2.cell? ⟨p, 21, none⟩ = some (.bool ovr) := (plC h2.blk).c21
  have hlt := h2.blk.lt
  clear hpa h1
  cases ret with
  | true =>
    obtain rfl : R = ⟨a.update (S.cp 0 0), ovr, P.opn || op⟩ := by rw [← HR.out]; rfl
    go_wp2_with (fail)
    refine (hpo a ha3 _ V2 h2 hn2).mono ?_
    rintro e w3 ⟨rfl, hV, hF3⟩
    go_wp2_with (fail)
    go_end0
    exact ⟨rfl, hV, (hF1.trans hF2).trans hF3⟩
  | false =>
    cases ovr with
    | true =>
      obtain rfl : R = ⟨a.update (S.cp 0 0), true, P.opn || op⟩ := by rw [← HR.out]; rfl
      go_wp2_with (fail)
      refine (hpo a ha3 _ V2 h2 hn2).mono ?_
      rintro e w3 ⟨rfl, hV, hF3⟩
      go_wp2_with (fail)
      go_end0
      exact ⟨rfl, hV, (hF1.trans hF2).trans hF3⟩
    | false =>
      obtain rfl : R = ⟨(bdP S.mode key a).update (S.cp 0 0), false, P.opn || op⟩ := by rw [← HR.out]; rfl
      go_wp2_with (fail)
      refine (hpb _ V2 h2 hn2).mono ?_
      rintro e w3 ⟨rfl, ⟨V3, h3, hn3⟩, hF3⟩
      clear hpb h2
      go_wp2_with (fail)
      refine (hpo (bdP S.mode key a) hb3 _ V3 h3 hn3).mono ?_
      rintro e w4 ⟨rfl, hV, hF4⟩
      go_wp2_with (fail)
      go_end0
      exact ⟨rfl, hV, ((hF1.trans hF2).trans hF3).trans hF4⟩

theorem pLong_c (h : Ply base w p S ov hv P V) : Calls Tryz.prog 30 #[.pointer (some ⟨p, 0, none⟩)] w fun e w' => e = .returned (.bool (decide (200 < P.s.t.size))) ∧ w = w' := by
  have c11 := (plC h.blk).c11
  have hlt := h.blk.lt
  have hd : decide ((200 : Int) < P.s.t.size) = decide (200 < P.s.t.size) := by
    by_cases h : 200 < P.s.t.size
    · rw [decide_eq_true h, decide_eq_true (show (200 : Int) < P.s.t.size by omega)]
    · rw [decide_eq_false h, decide_eq_false (show ¬ (200 : Int) < P.s.t.size by omega)]
  obtain ⟨B, hB⟩ : ∃ B, decide (200 < P.s.t.size) = B := ⟨_, rfl⟩
  rw [hB] at hd ⊢
  clear hB
  go_enter Tryz.func30, Tryz.ntmps30
  go_wp2_with (fail)
  go_ret
  exact ⟨rfl, rfl⟩

def OpenPost (b : Bool) (w : World) (e : Ending) (w' : World) : Prop := e = .returned (.bool b) ∧ Fr 0 [] [] w w'
theorem pOpen_c (h : Ply base w p S ov hv P V) : Calls Tryz.prog 31 #[.pointer (some ⟨p, 0, none⟩)] w (OpenPost (P.opn || decide ((P.s.tmp.length : Int) ≤ P.s.sel)) w) := by
  have hC := plC h.blk
  obtain ⟨vp, vc, hvo⟩ := h.rows.o.form
  have c13 := hC.c13
  have c15 := hC.c15
  have c23 := hC.c23
  rw [hvo] at c15
  have hlt := hC.lt
  clear hC
  cases hop : P.opn with
  | true =>
    rw [hop] at c23
    rw [Bool.true_or]
    go_enter Tryz.func31, Tryz.ntmps31
    go_wp2_with (fail)
    have hS : (fun w' : World => w'.cell? ⟨p, 23, none⟩ = some (.bool true) ∧ w'.cell? ⟨p, 13, none⟩ = some (.int .i64 P.s.sel) ∧ w'.cell? ⟨p, 15, none⟩ = some (.slice vp P.s.tmp.length vc)) w.drew := ⟨c23, c13, c15⟩
    refine wp_region_plan [3, 8, 12] [] (fun w' : World => w'.cell? ⟨p, 23, none⟩ = some (.bool true) ∧ w'.cell? ⟨p, 13, none⟩ = some (.int .i64 P.s.sel) ∧ w'.cell? ⟨p, 15, none⟩ = some (.slice vp P.s.tmp.length vc)) (.pure 0 (.pure 1 (.pure 2 (.take 3 (.pure 4 (.pure 5 (.pure 6 (.pure 7 (.take 8 (.pure 9 (.pure 10 (.pure 11 (.take 12 (.pure 13 (.pure 14 (.pure 15 (.pure 16 .done))))))))))))))))) hmix (by kernel_rfl) ?_
    repeat (first | (refine plan_move rfl rfl rfl ?_; (try simp only [Act.put, zq1, zq2, zq3, zq4, zq5, zq6])) | (refine plan_skipP rfl rfl ?_; (try simp only [Act.put, zq1, zq2, zq3, zq4, zq5, zq6])) | (refine plan_skip rfl hS rfl ?_; (try simp only [Act.put, zq1, zq2, zq3, zq4, zq5, zq6])) | (refine plan_pure (v := ?_) rfl rfl ?_ ?_; rotate_left; (intro w'; go_simp <;> with_reducible rfl); (try simp only [Act.put, zq1, zq2, zq3, zq4, zq5, zq6])) | (refine plan_take (v := ?_) rfl hS rfl ?_ ?_; rotate_left; (intro w' hSw; (try dsimp only at hSw); go_simp <;> with_reducible rfl); (try simp only [Act.put, zq1, zq2, zq3, zq4, zq5, zq6])))
    refine plan_done ?_
    go_wp2_with (fail)
    go_ret
    exact ⟨rfl, (Fr.refl _ _ _ _).drew⟩
  | false =>
    rw [hop] at c23
    rw [Bool.false_or]
    go_enter Tryz.func31, Tryz.ntmps31
    go_wp2_with (fail)
    have hS : (fun w' : World => w'.cell? ⟨p, 23, none⟩ = some (.bool false) ∧ w'.cell? ⟨p, 13, none⟩ = some (.int .i64 P.s.sel) ∧ w'.cell? ⟨p, 15, none⟩ = some (.slice vp P.s.tmp.length vc)) w.drew := ⟨c23, c13, c15⟩
    refine wp_region_plan [3, 8, 12] [] (fun w' : World => w'.cell? ⟨p, 23, none⟩ = some (.bool false) ∧ w'.cell? ⟨p, 13, none⟩ = some (.int .i64 P.s.sel) ∧ w'.cell? ⟨p, 15, none⟩ = some (.slice vp P.s.tmp.length vc)) (.pure 0 (.pure 1 (.pure 2 (.take 3 (.pure 4 (.pure 5 (.pure 6 (.pure 7 (.take 8 (.pure 9 (.pure 10 (.pure 11 (.take 12 (.pure 13 (.pure 14 (.pure 15 (.pure 16 .done))))))))))))))))) hmix (by kernel_rfl) ?_
    repeat (first | (refine plan_move rfl rfl rfl ?_; (try simp only [Act.put, zq1, zq2, zq3, zq4, zq5, zq6])) | (refine plan_skipP rfl rfl ?_; (try simp only [Act.put, zq1, zq2, zq3, zq4, zq5, zq6])) | (refine plan_skip rfl hS rfl ?_; (try simp only [Act.put, zq1, zq2, zq3, zq4, zq5, zq6])) | (refine plan_pure (v := ?_) rfl rfl ?_ ?_; rotate_left; (intro w'; go_simp <;> with_reducible rfl); (try simp only [Act.put, zq1, zq2, zq3, zq4, zq5, zq6])) | (refine plan_take (v := ?_) rfl hS rfl ?_ ?_; rotate_left; (intro w' hSw; (try dsimp only at hSw); go_simp <;> with_reducible rfl); (try simp only [Act.put, zq1, zq2, zq3, zq4, zq5, zq6])))
    refine plan_done ?_
    go_wp2_with (fail)
    go_ret
    exact ⟨rfl, (Fr.refl _ _ _ _).drew⟩

theorem res31 {fn : Func} {tmps : Array Value} {w : World} {M p : Nat} {cs : Array Value} (h : fn.results = #[.cell p 31]) (hp : tmps.getD p undef = .pointer (some ⟨M, 0, none⟩)) (hB : Blk w M cs 31) (hs : cs.size = 4) :
    (results fn tmps).run Tryz.prog w = .ok (.agg cs) w := by
  have hr := run_loadVar_row (P := Tryz.prog) w M 31 31 cs (0, 0) _ hB Tryz.underlying31 rfl (by rw [hs]; kernel_rfl)
  simp only [results, h]
  have hp' : tmps[p]?.getD undef = .pointer (some ⟨M, 0, none⟩) := by simpa [Array.getD_eq_getD_getElem?] using hp
  simp [Sem.run_bind, Result.andThen, hp', asAddr, hr]

def StandPost (P : PL) (V : PV) (w : World) (e : Ending) (w' : World) : Prop := e = .returned (.agg #[V.vl, .string P.s.t, .int .i64 P.s.k, .bool P.over]) ∧ Fr 0 [] [] w w'
theorem pStand_c (h : Ply base w p S ov hv P V) : Calls Tryz.prog 16 #[.pointer (some ⟨p, 0, none⟩)] w (StandPost P V w) := by
  obtain ⟨N, hN⟩ : ∃ N, w.heap.size = N := ⟨_, rfl⟩
  have h1 := h.fr0 (((Fr.refl 0 [] [] w).alloc (.cells #[.slice none 0 0, .string ⟨#[]⟩, .int .i64 0, .bool false] 31)).drew)
  have hX : Blk (w.alloc (.cells #[.slice none 0 0, .string ⟨#[]⟩, .int .i64 0, .bool false] 31)) N #[.slice none 0 0, .string ⟨#[]⟩, .int .i64 0, .bool false] 31 := Blk.new' hN.symm _ _
  obtain ⟨pl, cl, hvl⟩ := h.rows.l.form
  have hC := plC h1.blk
  have c11 := hC.c11
  have c12 := hC.c12
  have c19 := hC.c19
  rw [hvl] at c19
  unfold StandPost
  rw [hvl]
  have c21 := hC.c21
  have hlt := h.blk.lt
  have x0 := hX.cell 0
  have x1 := hX.cell 1
  have x2 := hX.cell 2
  have x3 := hX.cell 3
  have xf0 := hX.frozen 0
  have xf1 := hX.frozen 1
  have xf2 := hX.frozen 2
  have xf3 := hX.frozen 3
  have xl := hX.lt
  simp only [List.getElem?_toArray, List.getElem?_cons_zero, List.getElem?_cons_succ] at x0 x1 x2 x3
  go_enter Tryz.func16, Tryz.ntmps16
  go_wp2_with (fail)
  have hS : (fun w' : World => w'.cell? ⟨p, 19, none⟩ = some (.slice pl P.s.lines.length cl) ∧ w'.cell? ⟨p, 11, none⟩ = some (.string P.s.t) ∧ w'.cell? ⟨p, 12, none⟩ = some (.int .i64 P.s.k) ∧ w'.cell? ⟨p, 21, none⟩ = some (.bool P.over)) _ := ⟨c19, c11, c12, c21⟩
  refine wp_region_plan [3, 8, 13, 17] [19] (fun w' : World => w'.cell? ⟨p, 19, none⟩ = some (.slice pl P.s.lines.length cl) ∧ w'.cell? ⟨p, 11, none⟩ = some (.string P.s.t) ∧ w'.cell? ⟨p, 12, none⟩ = some (.int .i64 P.s.k) ∧ w'.cell? ⟨p, 21, none⟩ = some (.bool P.over)) (.pure 0 (.pure 1 (.pure 2 (.take 3 (.pure 4 (.pure 5 (.pure 6 (.pure 7 (.take 8 (.pure 9 (.pure 10 (.pure 11 (.pure 12 (.take 13 (.pure 14 (.pure 15 (.pure 16 (.take 17 (.pure 18 (.go 19 .done)))))))))))))))))))) hmix (by kernel_rfl) ?_
  repeat (first | (refine plan_move rfl rfl rfl ?_; (try simp only [Act.put, zq1, zq2, zq3, zq4, zq5, zq6])) | (refine plan_pure (v := ?_) rfl rfl ?_ ?_; rotate_left; (intro w'; go_simp <;> with_reducible rfl); (try simp only [Act.put, zq1, zq2, zq3, zq4, zq5, zq6])) | (refine plan_take (v := ?_) rfl hS rfl ?_ ?_; rotate_left; (intro w' hSw; (try dsimp only at hSw); go_simp <;> with_reducible rfl); (try simp only [Act.put, zq1, zq2, zq3, zq4, zq5, zq6])))
  refine plan_go rfl (by kernel_rfl) rfl (fun K hK => ?_)
  go_simp; refine hK _ _ ?_; clear hK K; (try simp only [Act.put, zq1, zq2, zq3, zq4, zq5, zq6])
  refine plan_done ?_
  go_wp2_with (fail)
  refine bodyPost_ret (res31 rfl rfl (Blk.new' hN.symm _ _).drew rfl) rfl ?_
  exact ⟨rfl, ((Fr.refl _ _ _ _).alloc _).drew⟩
end
end Go.Proofs.YtiepopbmbgfhkaaGreat

namespace Go.Proofs.YtiepopbmbgfhkaaGreat
open Go.RowKit
open List renaming setIfInBounds_toArray → zq1, set_cons_zero → zq2, set_cons_succ → zq3
open Int renaming toNat_natCast → zq4, toNat_sub → zq5, toNat_zero → zq6
set_option maxHeartbeats 8000000
set_option maxRecDepth 20000
set_option linter.unusedVariables false
set_option linter.unusedSimpArgs false

theorem ex_build {P : Program} {o : Oper} {a : Act} {w : World} {t : TypeId} {parts : Array (Nat × Operand)} {cells : Array Value} (ho : o.op = .build t parts) (hc : P.built t (parts.map fun (i, x) => (i, a.eval x)).toList = some cells) :
    (execOp a.eval o).run P w = .ok (.value (.agg cells)) w := by
  unfold execOp
  simp only [ho, Sem.run_bind, run_build w t _ cells hc, Result.andThen_ok]
  rfl
theorem ex_load25s {o : Oper} {a : Act} {w : World} {M : Nat} {S : Sess} {A A2 : Option Addr} {n n2 c c2 : Nat} {x : Operand} (ho : o.op = .load 25 x) (hx : a.eval x = .pointer (some ⟨M, 0, none⟩)) (h : Blk w M (S.cells (.slice A n c) (.slice A2 n2 c2)) 25) :
    (execOp a.eval o).run Tryz.prog w = .ok (.value (.agg (S.cells (.slice A n c) (.slice A2 n2 c2)))) w := by
  have c0 := h.cell 0
  have c1 := h.cell 1
  have c2 := h.cell 2
  have c3 := h.cell 3
  have c4 := h.cell 4
  have c5 := h.cell 5
  have c6 := h.cell 6
  have c7 := h.cell 7
  have c8 := h.cell 8
  have c9 := h.cell 9
  have c10 := h.cell 10
  have cl := h.lt
  unfold Sess.cells at c0 c1 c2 c3 c4 c5 c6 c7 c8 c9 c10 ⊢
  simp only [List.getElem?_toArray, List.getElem?_cons_zero, List.getElem?_cons_succ] at c0 c1 c2 c3 c4 c5 c6 c7 c8 c9 c10
  unfold execOp
  simp only [ho, hx]
  go_simp
theorem ex_load25b {o : Oper} {a : Act} {w : World} {M : Nat} {S : Sess} {ov hv : Value} {x : Operand} (ho : o.op = .load 9 x) (hx : a.eval x = .pointer (some ⟨M, 8, none⟩)) (h : Blk w M (S.cells ov hv) 25) :
    (execOp a.eval o).run Tryz.prog w = .ok (.value (.string S.begun)) w := by
  have c8 : w.cell? ⟨M, 8, none⟩ = some (.string S.begun) := h.cell 8
  have cl := h.lt
  unfold execOp
  simp only [ho, hx]
  go_simp
theorem ex_load25h {o : Oper} {a : Act} {w : World} {M : Nat} {S : Sess} {ov : Value} {A : Option Addr} {n c : Nat} {x : Operand} (ho : o.op = .load 23 x) (hx : a.eval x = .pointer (some ⟨M, 7, none⟩)) (h : Blk w M (S.cells ov (.slice A n c)) 25) :
    (execOp a.eval o).run Tryz.prog w = .ok (.value (.slice A n c)) w := by
  have c7 : w.cell? ⟨M, 7, none⟩ = some (.slice A n c) := h.cell 7
  have cl := h.lt
  unfold execOp
  simp only [ho, hx]
  go_simp

/-- A player as it is made. -/
def Sess.pl (S : Sess) : PL := ⟨⟨S.begun, S.begun.size, S.hist, [], 0, -1, 0, [], []⟩, false, false⟩
def pv0 (g c n : Nat) : PV := ⟨.slice none 0 0, .slice (some ⟨g, 0, none⟩) n c, .slice none 0 0, .slice none 0 0, .slice none 0 0, g, 0, [], false⟩

theorem new_ply {base : Nat} {w : World} {S : Sess} {ov hv : Value} {g c n : Nat} (hS : SRow w g (.slice (some ⟨g, 0, none⟩) n c) S.hist) (hg : base ≤ g) (hbw : base ≤ w.heap.size) (ho : PkIn w ov S.offs) (hl : ∀ A n c, ov = .slice (some A) n c → A.block < base ∨ S.offs = []) :
    Ply0 base (w.alloc (.cells (plc S ov hv S.pl (pv0 g c n)) 63)) w.heap.size S ov hv S.pl (pv0 g c n) := by
  have hF : Fr 0 [] [] w (w.alloc (.cells (plc S ov hv S.pl (pv0 g c n)) 63)) := (Fr.refl _ _ _ _).alloc _
  exact ⟨Blk.new _ _ _, hbw, Nat.le_trans hbw hF.size, ⟨QRow.nil _ _, hS.fr0 hF, hg, ⟨rfl, .inl ⟨rfl, rfl⟩⟩, ⟨rfl, .inl ⟨rfl, rfl⟩⟩, fun e => (by cases e), fun e => (by cases e), fun g e => (by cases e)⟩, ho.fr hF, hl⟩

def NewPost (S : Sess) (ov hv : Value) (w : World) (e : Ending) (w' : World) : Prop :=
  ∃ p V, e = .returned (.pointer (some ⟨p, 0, none⟩)) ∧ Ply w.heap.size w' p S ov hv S.p0 V ∧ V.bs.length ≤ 0 ∧ Fr 0 [] [] w w'

theorem fresh0 {base : Nat} {ts : List Nat} {w w1 : World} (hb : w.heap.size ≤ base) (h : Fr base ts [] w w1) : Fr 0 [] [] w w1 :=
  ⟨h.os, h.tape, h.output, h.size, fun k hk _ => h.keep k hk (.inl (by omega))⟩

theorem new_c {w : World} {S : Sess} {ov hv : Value} (hS0 : SessOk S) (hO : PkIn w ov S.offs) (hH : TxIn w hv S.hist) :
    Calls Tryz.prog 27 #[.agg (S.cells ov hv)] w (NewPost S ov hv w) := by
  obtain ⟨oA, oc, rfl⟩ := hO.form
  obtain ⟨hA, hcc, rfl⟩ := hH.form
  obtain ⟨N, hN⟩ : ∃ N, w.heap.size = N := ⟨_, rfl⟩
  have hinl : ∀ A n c, (Value.slice oA S.offs.length oc) = .slice (some A) n c → A.block < N ∨ S.offs = [] := by
    intro A n c e
    rcases hO with ⟨e2, -⟩ | ⟨b, o, c2, e2, hc⟩
    · exact .inr e2
    · by_cases h0 : S.offs = []
      · exact .inr h0
      · have hl : 0 < S.offs.length := List.length_pos_iff.2 h0
        have hb9 : b < w.heap.size := World.block_lt_of_cell? w _ (hc 0 hl).1
        rw [e] at e2
        simp only [Value.slice.injEq, Option.some.injEq] at e2
        rw [e2.1]
        exact .inl (show b < N by omega)
  have hB : Blk (w.alloc (.cells (S.cells (.slice oA S.offs.length oc) (.slice hA S.hist.length hcc)) 25)) N (S.cells (.slice oA S.offs.length oc) (.slice hA S.hist.length hcc)) 25 := Blk.new' hN.symm _ _
  have hF0 : Fr 0 [] [] w (w.alloc (.cells (S.cells (.slice oA S.offs.length oc) (.slice hA S.hist.length hcc)) 25)) := (Fr.refl _ _ _ _).alloc _
  obtain ⟨w0, hw0⟩ : ∃ w0, w.alloc (.cells (S.cells (.slice oA S.offs.length oc) (.slice hA S.hist.length hcc)) 25) = w0 := ⟨_, rfl⟩
  rw [hw0] at hB hF0
  have hcn := fun w => sCount_c S.begun hS0.hb (by have := hS0.hbs; omega) w
  have hhl := hS0.hhl
  unfold Sess.cells at hw0 ⊢
  go_enter Tryz.func27, Tryz.ntmps27
  go_wp2_with (fail)
  clear hw0
  have hS : (fun w' : World => Blk w' N (S.cells (.slice oA S.offs.length oc) (.slice hA S.hist.length hcc)) 25) w0.drew := hB.drew
  refine wp_region_plan [0, 2, 4, 9] [5, 7, 10, 12] (fun w' : World => Blk w' N (S.cells (.slice oA S.offs.length oc) (.slice hA S.hist.length hcc)) 25) (.take 0 (.pure 1 (.take 2 (.pure 3 (.take 4 (.pure 8 (.take 9 (.go2 5 (.pure 6 (.go 7 (.go 10 (.pure 11 (.go 12 (.pure 13 .done)))))) 7 (.go 5 (.pure 6 (.go 10 (.pure 11 (.go 12 (.pure 13 .done)))))))))))))) hmix (by kernel_rfl) ?_
  repeat (first | (refine plan_take rfl hS rfl (fun w' hSw => ex_load25s rfl rfl hSw) ?_; (try simp only [Act.put, zq1, zq2, zq3, zq4, zq5, zq6])) | (refine plan_take rfl hS rfl (fun w' hSw => ex_load25b rfl rfl hSw) ?_; (try simp only [Act.put, zq1, zq2, zq3, zq4, zq5, zq6])) | (refine plan_take rfl hS rfl (fun w' hSw => ex_load25h rfl rfl hSw) ?_; (try simp only [Act.put, zq1, zq2, zq3, zq4, zq5, zq6])) | (refine plan_pure rfl rfl (fun w' => ex_build (cells := plc S (.slice oA S.offs.length oc) (.slice hA S.hist.length hcc) S.pl (pv0 g1 c1 (([] : List ByteArray).length + S.hist.length))) rfl (by kernel_rfl)) ?_; (try simp only [Act.put, zq1, zq2, zq3, zq4, zq5, zq6])) | (refine plan_pure (v := ?_) rfl rfl ?_ ?_; rotate_left; (intro w'; go_simp <;> with_reducible rfl); (try simp only [Act.put, zq1, zq2, zq3, zq4, zq5, zq6])) | (refine plan_take (v := ?_) rfl hS rfl ?_ ?_; rotate_left; (intro w' hSw; (try dsimp only at hSw); go_simp <;> with_reducible rfl); (try simp only [Act.put, zq1, zq2, zq3, zq4, zq5, zq6])))
  refine plan_go2 rfl rfl rfl rfl (fun K hK => ?_) (fun K hK => ?_)
  · go_simp; refine (hcn _).mono ?_; rintro e w2 ⟨rfl, hF2⟩; have hB2 := hF2.blk0 hB.drew; have hF02 := (hF0.drew).trans hF2; refine hK _ _ hB2 ?_; clear hK K; (try simp only [Act.put, zq1, zq2, zq3, zq4, zq5, zq6])
    first | (refine plan_take rfl hS rfl (fun w' hSw => ex_load25s rfl rfl hSw) ?_; (try simp only [Act.put, zq1, zq2, zq3, zq4, zq5, zq6])) | (refine plan_take rfl hS rfl (fun w' hSw => ex_load25b rfl rfl hSw) ?_; (try simp only [Act.put, zq1, zq2, zq3, zq4, zq5, zq6])) | (refine plan_take rfl hS rfl (fun w' hSw => ex_load25h rfl rfl hSw) ?_; (try simp only [Act.put, zq1, zq2, zq3, zq4, zq5, zq6])) | (refine plan_pure rfl rfl (fun w' => ex_build (cells := plc S (.slice oA S.offs.length oc) (.slice hA S.hist.length hcc) S.pl (pv0 g1 c1 (([] : List ByteArray).length + S.hist.length))) rfl (by kernel_rfl)) ?_; (try simp only [Act.put, zq1, zq2, zq3, zq4, zq5, zq6])) | (refine plan_pure (v := ?_) rfl rfl ?_ ?_; rotate_left; (intro w'; go_simp <;> with_reducible rfl); (try simp only [Act.put, zq1, zq2, zq3, zq4, zq5, zq6]))
    refine plan_goS rfl rfl (fun K hK => ?_)
    go_simp; have hB3 := hB2.alloc (.cells #[] 9); have hF03 := hF02.alloc (.cells #[] 9); have hR3 : SRow (w2.alloc (.cells #[] 9)) w2.heap.size (.slice (some ⟨w2.heap.size, 0, none⟩) 0 0) [] := ⟨0, #[], rfl, Blk.new _ _ _, by simp, by simp [maxLen], rfl, rfl⟩; have hG3 : N ≤ w2.heap.size := (by have := hF02.size; omega); have hN3 : N < w2.heap.size := hB2.lt; refine hK _ _ hB3 ?_; clear hK K; (try simp only [Act.put, zq1, zq2, zq3, zq4, zq5, zq6])
    refine plan_goS rfl rfl (fun K hK => ?_)
    refine wp_appIn (base := N) (xs := []) (ys := S.hist) _ _ rfl rfl rfl hR3 hG3 (hH.fr hF03) (by simp; omega) ?_; intro g1 c1 w4 hS4 hg4 hF4; have hS4 : SRow w4 g1 (.slice (some ⟨g1, 0, none⟩) (([] : List ByteArray).length + S.hist.length) c1) S.hist := hS4; have hF04 : Fr 0 [] [] w w4 := hF03.step (hF4.base_mono (Nat.zero_le _)) (by simp) (fun b hb => .inr (.inl (by rw [List.mem_singleton.1 hb]; omega))); have hB4 := hF4.blk hB3 (.inr ⟨by simp only [List.mem_singleton]; omega, by simp⟩); have hg1 : N ≤ g1 := (by have := hF03.size; rcases hg4 with e | e <;> omega); have hbw4 : N ≤ w4.heap.size := (by have := hF04.size; omega); refine hK _ _ hB4 ?_; clear hK K; (try simp only [Act.put, zq1, zq2, zq3, zq4, zq5, zq6])
    first | (refine plan_take rfl hS rfl (fun w' hSw => ex_load25s rfl rfl hSw) ?_; (try simp only [Act.put, zq1, zq2, zq3, zq4, zq5, zq6])) | (refine plan_take rfl hS rfl (fun w' hSw => ex_load25b rfl rfl hSw) ?_; (try simp only [Act.put, zq1, zq2, zq3, zq4, zq5, zq6])) | (refine plan_take rfl hS rfl (fun w' hSw => ex_load25h rfl rfl hSw) ?_; (try simp only [Act.put, zq1, zq2, zq3, zq4, zq5, zq6])) | (refine plan_pure rfl rfl (fun w' => ex_build (cells := plc S (.slice oA S.offs.length oc) (.slice hA S.hist.length hcc) S.pl (pv0 g1 c1 (([] : List ByteArray).length + S.hist.length))) rfl (by kernel_rfl)) ?_; (try simp only [Act.put, zq1, zq2, zq3, zq4, zq5, zq6])) | (refine plan_pure (v := ?_) rfl rfl ?_ ?_; rotate_left; (intro w'; go_simp <;> with_reducible rfl); (try simp only [Act.put, zq1, zq2, zq3, zq4, zq5, zq6]))
    refine plan_go rfl (by kernel_rfl) rfl (fun K hK => ?_)
    go_simp; have hP0 := new_ply (hv := .slice hA S.hist.length hcc) hS4 hg1 hbw4 (hO.fr hF04) hinl; have hF05 := hF04.alloc (.cells (plc S (.slice oA S.offs.length oc) (.slice hA S.hist.length hcc) S.pl (pv0 g1 c1 (([] : List ByteArray).length + S.hist.length))) 63); have hB5 := hB4.alloc (.cells (plc S (.slice oA S.offs.length oc) (.slice hA S.hist.length hcc) S.pl (pv0 g1 c1 (([] : List ByteArray).length + S.hist.length))) 63); refine hK _ _ ?_; clear hK K; (try simp only [Act.put, zq1, zq2, zq3, zq4, zq5, zq6])
    first | (refine plan_take rfl hS rfl (fun w' hSw => ex_load25s rfl rfl hSw) ?_; (try simp only [Act.put, zq1, zq2, zq3, zq4, zq5, zq6])) | (refine plan_take rfl hS rfl (fun w' hSw => ex_load25b rfl rfl hSw) ?_; (try simp only [Act.put, zq1, zq2, zq3, zq4, zq5, zq6])) | (refine plan_take rfl hS rfl (fun w' hSw => ex_load25h rfl rfl hSw) ?_; (try simp only [Act.put, zq1, zq2, zq3, zq4, zq5, zq6])) | (refine plan_pure rfl rfl (fun w' => ex_build (cells := plc S (.slice oA S.offs.length oc) (.slice hA S.hist.length hcc) S.pl (pv0 g1 c1 (([] : List ByteArray).length + S.hist.length))) rfl (by kernel_rfl)) ?_; (try simp only [Act.put, zq1, zq2, zq3, zq4, zq5, zq6])) | (refine plan_pure (v := ?_) rfl rfl ?_ ?_; rotate_left; (intro w'; go_simp <;> with_reducible rfl); (try simp only [Act.put, zq1, zq2, zq3, zq4, zq5, zq6]))
    refine plan_done ?_
    simp only [List.length_nil, Nat.zero_add] at hP0 hF05 hB5
    go_wp2_with (fail)
    refine (pClear_c (nb := 0) hP0 (Nat.le_refl 0) (by show S.hist.length ≤ 1000; omega)).mono ?_
    rintro e w6 ⟨rfl, ⟨V6, h6, hn6⟩, hF6⟩
    have hB6 := hF6.blk hB5 (.inr ⟨by simp, by decide⟩)
    have hFN : Fr N PT [] w w6 := hF05.any.trans hF6
    have q5 : w6.cell? ⟨N, 5, none⟩ = some (.bool S.start) := hB6.cell 5
    have ql := hB6.lt
    cases hst : S.start with
    | true =>
      rw [hst] at q5
      go_wp2_with (fail)
      refine (pOffer_c (nb := 0) h6 hn6 hS0 hS0.hb (by have := hS0.hbs; show S.begun.size ≤ 1000000; omega) (Nat.le_refl _)).mono ?_
      rintro e w7 ⟨rfl, ⟨V7, h7, hn7⟩, hF7⟩
      go_wp2_with (fail)
      go_ret
      have eP : S.p0 = (S.pl.st S.pl.s.cleared).st ((S.pl.st S.pl.s.cleared).s.update (S.cp 0 0)) := by unfold Sess.p0 Sess.g0; rw [hst]; rfl
      exact ⟨_, V7, rfl, by rw [eP, hN]; exact h7, hn7, fresh0 (Nat.le_of_eq hN) (hFN.trans hF7)⟩
    | false =>
      rw [hst] at q5
      go_wp2_with (fail)
      go_ret
      have eP : S.p0 = S.pl.st S.pl.s.cleared := by unfold Sess.p0 Sess.g0; rw [hst]; rfl
      exact ⟨_, V6, rfl, by rw [eP, hN]; exact h6, hn6, fresh0 (Nat.le_of_eq hN) hFN⟩
  · go_simp; have hB1 := (hB.drew).alloc (.cells #[] 9); have hF01 := (hF0.drew).alloc (.cells #[] 9); have hR1 : SRow (w0.drew.alloc (.cells #[] 9)) w0.heap.size (.slice (some ⟨w0.heap.size, 0, none⟩) 0 0) [] := ⟨0, #[], rfl, Blk.new w0.drew _ _, by simp, by simp [maxLen], rfl, rfl⟩; refine hK _ _ hB1 ?_; clear hK K; (try simp only [Act.put, zq1, zq2, zq3, zq4, zq5, zq6])
    refine plan_goS rfl rfl (fun K hK => ?_)
    go_simp; refine (hcn _).mono ?_; rintro e w2 ⟨rfl, hF2⟩; have hB3 := hF2.blk0 hB1; have hF03 := hF01.trans hF2; have hR3 := hR1.fr0 hF2; have hG3 : N ≤ w0.heap.size := (by have := hF0.size; omega); have hN3 : N < w0.heap.size := hB.lt; refine hK _ _ hB3 ?_; clear hK K; (try simp only [Act.put, zq1, zq2, zq3, zq4, zq5, zq6])
    first | (refine plan_take rfl hS rfl (fun w' hSw => ex_load25s rfl rfl hSw) ?_; (try simp only [Act.put, zq1, zq2, zq3, zq4, zq5, zq6])) | (refine plan_take rfl hS rfl (fun w' hSw => ex_load25b rfl rfl hSw) ?_; (try simp only [Act.put, zq1, zq2, zq3, zq4, zq5, zq6])) | (refine plan_take rfl hS rfl (fun w' hSw => ex_load25h rfl rfl hSw) ?_; (try simp only [Act.put, zq1, zq2, zq3, zq4, zq5, zq6])) | (refine plan_pure rfl rfl (fun w' => ex_build (cells := plc S (.slice oA S.offs.length oc) (.slice hA S.hist.length hcc) S.pl (pv0 g1 c1 (([] : List ByteArray).length + S.hist.length))) rfl (by kernel_rfl)) ?_; (try simp only [Act.put, zq1, zq2, zq3, zq4, zq5, zq6])) | (refine plan_pure (v := ?_) rfl rfl ?_ ?_; rotate_left; (intro w'; go_simp <;> with_reducible rfl); (try simp only [Act.put, zq1, zq2, zq3, zq4, zq5, zq6]))
    refine plan_goS rfl rfl (fun K hK => ?_)
    refine wp_appIn (base := N) (xs := []) (ys := S.hist) _ _ rfl rfl rfl hR3 hG3 (hH.fr hF03) (by simp; omega) ?_; intro g1 c1 w4 hS4 hg4 hF4; have hS4 : SRow w4 g1 (.slice (some ⟨g1, 0, none⟩) (([] : List ByteArray).length + S.hist.length) c1) S.hist := hS4; have hF04 : Fr 0 [] [] w w4 := hF03.step (hF4.base_mono (Nat.zero_le _)) (by simp) (fun b hb => .inr (.inl (by rw [List.mem_singleton.1 hb]; omega))); have hB4 := hF4.blk hB3 (.inr ⟨by simp only [List.mem_singleton]; omega, by simp⟩); have hg1 : N ≤ g1 := (by have := hF03.size; rcases hg4 with e | e <;> omega); have hbw4 : N ≤ w4.heap.size := (by have := hF04.size; omega); refine hK _ _ hB4 ?_; clear hK K; (try simp only [Act.put, zq1, zq2, zq3, zq4, zq5, zq6])
    first | (refine plan_take rfl hS rfl (fun w' hSw => ex_load25s rfl rfl hSw) ?_; (try simp only [Act.put, zq1, zq2, zq3, zq4, zq5, zq6])) | (refine plan_take rfl hS rfl (fun w' hSw => ex_load25b rfl rfl hSw) ?_; (try simp only [Act.put, zq1, zq2, zq3, zq4, zq5, zq6])) | (refine plan_take rfl hS rfl (fun w' hSw => ex_load25h rfl rfl hSw) ?_; (try simp only [Act.put, zq1, zq2, zq3, zq4, zq5, zq6])) | (refine plan_pure rfl rfl (fun w' => ex_build (cells := plc S (.slice oA S.offs.length oc) (.slice hA S.hist.length hcc) S.pl (pv0 g1 c1 (([] : List ByteArray).length + S.hist.length))) rfl (by kernel_rfl)) ?_; (try simp only [Act.put, zq1, zq2, zq3, zq4, zq5, zq6])) | (refine plan_pure (v := ?_) rfl rfl ?_ ?_; rotate_left; (intro w'; go_simp <;> with_reducible rfl); (try simp only [Act.put, zq1, zq2, zq3, zq4, zq5, zq6]))
    refine plan_go rfl (by kernel_rfl) rfl (fun K hK => ?_)
    go_simp; have hP0 := new_ply (hv := .slice hA S.hist.length hcc) hS4 hg1 hbw4 (hO.fr hF04) hinl; have hF05 := hF04.alloc (.cells (plc S (.slice oA S.offs.length oc) (.slice hA S.hist.length hcc) S.pl (pv0 g1 c1 (([] : List ByteArray).length + S.hist.length))) 63); have hB5 := hB4.alloc (.cells (plc S (.slice oA S.offs.length oc) (.slice hA S.hist.length hcc) S.pl (pv0 g1 c1 (([] : List ByteArray).length + S.hist.length))) 63); refine hK _ _ ?_; clear hK K; (try simp only [Act.put, zq1, zq2, zq3, zq4, zq5, zq6])
    first | (refine plan_take rfl hS rfl (fun w' hSw => ex_load25s rfl rfl hSw) ?_; (try simp only [Act.put, zq1, zq2, zq3, zq4, zq5, zq6])) | (refine plan_take rfl hS rfl (fun w' hSw => ex_load25b rfl rfl hSw) ?_; (try simp only [Act.put, zq1, zq2, zq3, zq4, zq5, zq6])) | (refine plan_take rfl hS rfl (fun w' hSw => ex_load25h rfl rfl hSw) ?_; (try simp only [Act.put, zq1, zq2, zq3, zq4, zq5, zq6])) | (refine plan_pure rfl rfl (fun w' => ex_build (cells := plc S (.slice oA S.offs.length oc) (.slice hA S.hist.length hcc) S.pl (pv0 g1 c1 (([] : List ByteArray).length + S.hist.length))) rfl (by kernel_rfl)) ?_; (try simp only [Act.put, zq1, zq2, zq3, zq4, zq5, zq6])) | (refine plan_pure (v := ?_) rfl rfl ?_ ?_; rotate_left; (intro w'; go_simp <;> with_reducible rfl); (try simp only [Act.put, zq1, zq2, zq3, zq4, zq5, zq6]))
    refine plan_done ?_
    simp only [List.length_nil, Nat.zero_add] at hP0 hF05 hB5
    go_wp2_with (fail)
    refine (pClear_c (nb := 0) hP0 (Nat.le_refl 0) (by show S.hist.length ≤ 1000; omega)).mono ?_
    rintro e w6 ⟨rfl, ⟨V6, h6, hn6⟩, hF6⟩
    have hB6 := hF6.blk hB5 (.inr ⟨by simp, by decide⟩)
    have hFN : Fr N PT [] w w6 := hF05.any.trans hF6
    have q5 : w6.cell? ⟨N, 5, none⟩ = some (.bool S.start) := hB6.cell 5
    have ql := hB6.lt
    cases hst : S.start with
    | true =>
      rw [hst] at q5
      go_wp2_with (fail)
      refine (pOffer_c (nb := 0) h6 hn6 hS0 hS0.hb (by have := hS0.hbs; show S.begun.size ≤ 1000000; omega) (Nat.le_refl _)).mono ?_
      rintro e w7 ⟨rfl, ⟨V7, h7, hn7⟩, hF7⟩
      go_wp2_with (fail)
      go_ret
      have eP : S.p0 = (S.pl.st S.pl.s.cleared).st ((S.pl.st S.pl.s.cleared).s.update (S.cp 0 0)) := by unfold Sess.p0 Sess.g0; rw [hst]; rfl
      exact ⟨_, V7, rfl, by rw [eP, hN]; exact h7, hn7, fresh0 (Nat.le_of_eq hN) (hFN.trans hF7)⟩
    | false =>
      rw [hst] at q5
      go_wp2_with (fail)
      go_ret
      have eP : S.p0 = S.pl.st S.pl.s.cleared := by unfold Sess.p0 Sess.g0; rw [hst]; rfl
      exact ⟨_, V6, rfl, by rw [eP, hN]; exact h6, hn6, fresh0 (Nat.le_of_eq hN) hFN⟩
end Go.Proofs.YtiepopbmbgfhkaaGreat
