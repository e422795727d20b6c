/-
  Render, where a suggestion is selected; rendering of any stand.
  Rendering of any stand; Prompted in a session with suggestions.
-/
import Derived.Test.YtiepopbmbgfhkaaGreatQ31
import Derived.Test.YtiepopbmbgfhkaaGreatQ28
import Derived.Test.YtiepopbmbgfhkaaGreatQ32
namespace Go.Proofs.YtiepopbmbgfhkaaGreat
open Go.RowKit
open List renaming setIfInBounds_toArray → zq1, set_cons_zero → zq2, set_cons_succ → zq3
open Int renaming toNat_natCast → zq4, toNat_sub → zq5, toNat_zero → zq6
set_option maxHeartbeats 8000000
set_option maxRecDepth 20000
set_option linter.unusedVariables false
set_option linter.unusedSimpArgs false

/-- What stands behind the suggestions' rendering: the selected one lies at PS. -/
structure RS (base : Nat) (w : World) (r o b L c : Nat) (pre : ByteArray) (cols : Nat) (t : ByteArray) (k : Nat) (q : Cp) (sel vs : Int) (tmp : List Pk) (PS : Nat) (s1 s2 : ByteArray) (m : Nat) (wx : World) : Prop where
  scr : Scr base wx r o b L c pre cols m t k q sel vs tmp
  ps : Blk wx PS #[.string s1, .string s2] 73
  fr : Fr base [5, 143] [b, r] w wx
section
variable {base : Nat} {w wx w1 : World} {r o b L c : Nat} {pre : ByteArray} {cols : Nat} {t : ByteArray} {k : Nat} {q : Cp} {sel vs : Int} {tmp : List Pk} {PS : Nat} {s1 s2 : ByteArray} {m m' : Nat}
theorem RS.outR (h : RS base w r o b L c pre cols t k q sel vs tmp PS s1 s2 m wx) (hR : Rn base w1 r o pre cols m') (hF : Fr base [5, 143] [] wx w1) : RS base w r o b L c pre cols t k q sel vs tmp PS s1 s2 m' w1 :=
  ⟨h.scr.out hR hF, hF.blk h.ps (.inr ⟨by simp, by decide⟩), h.fr.into hF (by simp) (by simp)⟩
theorem RS.out (h : RS base w r o b L c pre cols t k q sel vs tmp PS s1 s2 m wx) (hW : Wr base w1 o m') (hF : Fr base [5, 143] [] wx w1) : RS base w r o b L c pre cols t k q sel vs tmp PS s1 s2 m' w1 :=
  h.outR (h.scr.rn.after hF hW) hF
theorem RS.fr0 {base' : Nat} (h : RS base w r o b L c pre cols t k q sel vs tmp PS s1 s2 m wx) (hF : Fr base' [] [] wx w1) : RS base w r o b L c pre cols t k q sel vs tmp PS s1 s2 m w1 :=
  ⟨h.scr.fr0 hF, hF.blk0 h.ps, h.fr.ext hF⟩
theorem RS.doc (h : RS base w r o b L c pre cols t k q sel vs tmp PS s1 s2 m wx) (hU : Buf base w1 b L t k) (hF : Fr base [] [b] wx w1) : RS base w r o b L c pre cols t k q sel vs tmp PS s1 s2 m w1 := by
  obtain ⟨⟨cs, hb⟩, -⟩ := h.scr.buf.blk
  refine ⟨h.scr.doc hU hF, hF.blk h.ps (.inr ⟨fun hm => ?_, by simp⟩), h.fr.into hF (by simp) (by simp)⟩
  simp only [List.mem_singleton] at hm
  subst hm
  exact absurd (hb.inj h.ps).2 (by decide)
theorem RS.drew (h : RS base w r o b L c pre cols t k q sel vs tmp PS s1 s2 m wx) : RS base w r o b L c pre cols t k q sel vs tmp PS s1 s2 m wx.drew := h.fr0 ((Fr.refl 0 [] [] wx).drew)
theorem RS.le (h : RS base w r o b L c pre cols t k q sel vs tmp PS s1 s2 m wx) (hm : m ≤ m') : RS base w r o b L c pre cols t k q sel vs tmp PS s1 s2 m' wx := ⟨h.scr.le hm, h.ps, h.fr⟩
theorem RS.c0 (h : RS base w r o b L c pre cols t k q sel vs tmp PS s1 s2 m wx) : wx.cell? ⟨r, 0, none⟩ = some (.iface 144 (.pointer (some ⟨o, 0, none⟩))) := by
  obtain ⟨pc, hpc, C, hB, hbr⟩ := h.scr.rn.ren
  exact C.c0
theorem RS.rlt (h : RS base w r o b L c pre cols t k q sel vs tmp PS s1 s2 m wx) : r < wx.heap.size := by
  obtain ⟨pc, hpc, C, hB, hbr⟩ := h.scr.rn.ren
  exact C.lt
theorem RS.s5 (h : RS base w r o b L c pre cols t k q sel vs tmp PS s1 s2 m wx) : wx.cell? ⟨c, 5, none⟩ = some (.string q.sep) := by
  obtain ⟨p3, k3, C, hC3, hP3, -⟩ := h.scr.cm.ren
  exact C.c5
end

theorem renderSel_c {base : Nat} {w : World} {r o b L c : Nat} {pre : ByteArray} {cols n : Nat} {t : ByteArray} {k : Nat} {q : Cp} {sel : Nat} {vs : Int} {tmp : List Pk} (h : Scr base w r o b L c pre cols n t k q sel vs tmp) (hok : ScrOk pre cols t k q) (hn : n + 100000 ≤ 1000000000) (hsl : sel < tmp.length) (htl : tmp.length ≤ 1000) (htx : Prn tmp[sel].1 ∧ tmp[sel].1.size ≤ 100)
    (hRC : ∀ (w : World) (n : Nat), n + 20000 ≤ 1000000000 → Scr base w r o b L c pre cols n t k q sel vs tmp → Calls Tryz.prog 82 #[.pointer (some ⟨r, 0, none⟩), .pointer (some ⟨b, 0, none⟩), .pointer (some ⟨c, 0, none⟩)] w fun e w' => e = .returned (.tuple #[]) ∧ Scr base w' r o b L c pre cols (n + 20000) t k q sel vs tmp ∧ Fr base [5, 143] [b] w w') :
    Calls Tryz.prog 47 #[.pointer (some ⟨r, 0, none⟩), .pointer (some ⟨b, 0, none⟩), .pointer (some ⟨c, 0, none⟩)] w fun e w' => e = .returned (.tuple #[]) ∧ Scr base w' r o b L c pre cols (n + 100000) t k q sel vs tmp ∧ Fr base [5, 143] [b, r] w w' := by
  obtain ⟨hpre, hpres, hc1, hc2, ht, hts, hk, hq, hmost⟩ := hok
  have m1 := md_SetColor
  have m2 := na_SetColor
  have m3 := md_WriteStr
  have m4 := na_WriteStr
  have m5 := md_HideCursor
  have m6 := na_HideCursor
  have m7 := md_ShowCursor
  have m8 := na_ShowCursor
  have m9 := md_EraseDown
  have m10 := na_EraseDown
  obtain ⟨e1, e2⟩ := int_ne (a := (cols : Int)) (b := 0) (by omega)
  obtain ⟨pc, hpc, ⟨c0, c1, c2, c3, c5, c6, c7, f7, hlt⟩, hB, hbr⟩ := h.rn.ren
  go_enter_defers Tryz.func47, Tryz.ntmps47
  go_wp2_with (fail)
  refine (move_c h.rn hc1 hc2 pc 0 hpc (by omega) (by omega)).mono ?_
  rintro e w1 ⟨rfl, h1, hF1⟩
  replace h1 := h.out h1 hF1
  go_wp2_with (fail)
  refine (text_c h1.buf).mono ?_
  rintro e w2 ⟨rfl, j2, rfl⟩
  have h2 := h1.drewN j2
  go_wp2_with (fail)
  refine (prefix_c h2.rn).mono ?_
  rintro e w3 ⟨rfl, hF3⟩
  have h3 := h2.fr0 hF3
  go_wp2_with (fail)
  refine (width_c _ hpre (by omega) _).mono ?_
  rintro e w4 ⟨rfl, hF4⟩
  have h4 := h3.fr0 hF4
  go_wp2_with (fail)
  refine (width_c _ ht (by omega) _).mono ?_
  rintro e w5 ⟨rfl, hF5⟩
  have h5 := h4.fr0 hF5
  have hcur : ((pre.size + t.size : Nat) : Int) = (pre.size : Int) + t.size := by omega
  go_wp2_with (fail)
  refine (toPos_c h5.rn hc1 hc2 (pre.size + t.size) (by omega)).mono ?_
  rintro e w6 ⟨x, y, rfl, hx, hxa, hy, hF6⟩
  have h6 := h5.fr0 hF6
  obtain ⟨pc6, hpc6, ⟨c0, c1, c2, c3, c5, c6, c7, f7, hlt⟩, hB6, hbr6⟩ := h6.rn.ren
  obtain ⟨p6, k6, ⟨g0, g1, g2, g3, g4, g5, g6, gf0, gf1, gf4, glt⟩, hC6, -⟩ := h6.cm.ren
  have hw1 : IntKind.i64.wrap (q.most : Int) = q.most := wrap_in (by omega) (by omega)
  have hw2 : IntKind.i64.wrap (cols : Int) = cols := wrap_in (by omega) (by omega)
  have d1 : decide ((1000 : Int) < (y : Int) + 1 + q.most) = false := by simp; omega
  have d2 : decide ((cols : Int) < 4) = false := by simp; omega
  go_wp2_with (fail)
  refine (hideCursor_c h6.rn.wr (by omega)).mono ?_
  rintro e w7 ⟨rfl, hW7, hF7⟩
  have h7 := h6.outW hW7 hF7
  have hFa : Fr base [5, 143] [b, r] w w7 := ((((((Fr.refl base [5, 143] [b, r] w).into hF1 (by simp) (by simp)).drewN j2).ext hF3).ext hF4).ext hF5 |>.ext hF6).into hF7 (by simp) (by simp)
  obtain ⟨pc7, hpc7, ⟨c0, c1, c2, c3, c5, c6, c7, f7, hlt⟩, hB7, hbr7⟩ := h7.rn.ren
  go_wp2_with (fail)
  refine (renderPrefix_c h7.rn hpre hpres (by omega)).mono ?_
  rintro e w8 ⟨rfl, hR8, hF8⟩
  have h8 := h7.out hR8 hF8
  go_wp2_with (fail)
  have hS : (fun w' : World => w'.cell? ⟨r, 0, none⟩ = some (.iface 144 (.pointer (some ⟨o, 0, none⟩))) ∧ w'.cell? ⟨r, 10, none⟩ = some (.int .i64 0) ∧ w'.cell? ⟨r, 11, none⟩ = some (.int .i64 0)) w8.drew := by
    obtain ⟨pc, hpc, ⟨c0, c1, c2, c3, c5, c6, c7, f7, hlt⟩, hB, hbr⟩ := h8.rn.ren
    exact ⟨c0, h8.rn.col.2.2.1, h8.rn.col.2.2.2.1⟩
  refine wp_region_plan [3, 7, 11] [14] (fun w' : World => w'.cell? ⟨r, 0, none⟩ = some (.iface 144 (.pointer (some ⟨o, 0, none⟩))) ∧ w'.cell? ⟨r, 10, none⟩ = some (.int .i64 0) ∧ w'.cell? ⟨r, 11, none⟩ = some (.int .i64 0)) (.pure 0 (.pure 1 (.pure 2 (.take 3 (.pure 4 (.pure 5 (.pure 6 (.take 7 (.pure 8 (.pure 9 (.pure 10 (.take 11 (.pure 12 (.pure 13 (.go 14 .done))))))))))))))) hmix (by kernel_rfl) ?_
  repeat (first | (refine plan_move rfl rfl rfl ?_; (try simp only [Act.put, zq1, zq2, zq3, zq4, zq5, zq6])) | (refine plan_pure (v := ?_) rfl rfl ?_ ?_; rotate_left; (intro w'; go_simp <;> with_reducible rfl); (try simp only [Act.put, zq1, zq2, zq3, zq4, zq5, zq6])) | (refine plan_take (v := ?_) rfl hS rfl ?_ ?_; rotate_left; (intro w' hSw; (try dsimp only at hSw); go_simp <;> with_reducible rfl); (try simp only [Act.put, zq1, zq2, zq3, zq4, zq5, zq6])))
  refine plan_go rfl (by kernel_rfl) rfl (fun K hK => ?_)
  go_simp; refine (setColor_c (f := 0) (b := 0) h8.rn.wr.drew (by omega) (by omega) (by omega)).mono ?_; rintro e w9 ⟨rfl, hW9, hF9⟩; refine hK _ _ ?_; clear hK K; (try simp only [Act.put, zq1, zq2, zq3, zq4, zq5, zq6])
  refine plan_done ?_
  have h9 := h8.drew.outW hW9 hF9
  have hFb : Fr base [5, 143] [b, r] w w9 := ((hFa.into hF8 (by simp) (by simp)).drew).into hF9 (by simp) (by simp)
  obtain ⟨pc9, hpc9, ⟨c0, c1, c2, c3, c5, c6, c7, f7, hlt⟩, hB9, hbr9⟩ := h9.rn.ren
  go_wp2_with (fail)
  refine (writeStr_c h9.rn.wr ht.noEsc (by omega)).mono ?_
  rintro e w10 ⟨rfl, hW10, hF10⟩
  have h10 := h9.outW hW10 hF10
  obtain ⟨pc10, hpc10, ⟨c0, c1, c2, c3, c5, c6, c7, f7, hlt⟩, hB10, hbr10⟩ := h10.rn.ren
  go_wp2_with (fail)
  refine (setColor_c (f := 0) (b := 0) h10.rn.wr (by omega) (by omega) (by omega)).mono ?_
  rintro e w11 ⟨rfl, hW11, hF11⟩
  have h11 := h10.outW hW11 hF11
  go_wp2_with (fail)
  refine (lineWrap_c h11.rn hc1 hc2 (pre.size + t.size) (by omega) (by omega)).mono ?_
  rintro e w12 ⟨rfl, hR12, hF12⟩
  have h12 := h11.out hR12 hF12
  obtain ⟨pc12, hpc12, ⟨c0, c1, c2, c3, c5, c6, c7, f7, hlt⟩, hB12, hbr12⟩ := h12.rn.ren
  go_wp2_with (fail)
  refine (eraseDown_c h12.rn.wr (by omega)).mono ?_
  rintro e w13 ⟨rfl, hW13, hF13⟩
  have h13 := h12.outW hW13 hF13
  have hFc : Fr base [5, 143] [b, r] w w13 := (((hFb.into hF10 (by simp) (by simp)).into hF11 (by simp) (by simp)).into hF12 (by simp) (by simp)).into hF13 (by simp) (by simp)
  go_wp2_with (fail)
  refine (width_c _ ht (by omega) _).mono ?_
  rintro e w14 ⟨rfl, hF14⟩
  have h14 := h13.fr0 hF14
  go_wp2_with (fail)
  refine (bufPos_c h14.buf ht (by omega) hk).mono ?_
  rintro e w15 ⟨rfl, hB15, hF15⟩
  have h15 := h14.doc hB15 hF15
  have hsub : (t.size : Int) - k = (t.size - k : Nat) := by omega
  go_wp2_with (fail)
  have hbk := backward_c h15.rn hc1 hc2 (pre.size + t.size) (t.size - k) (by omega) (by omega) (by omega)
  obtain ⟨CU, hCU⟩ : ∃ CU, pre.size + t.size - (t.size - k) = CU := ⟨_, rfl⟩
  rw [hCU] at hbk
  have hCU2 : CU = pre.size + k := by omega
  clear hCU
  have HCU := Lib.hid hCU2
  clear hCU2
  refine hbk.mono ?_
  rintro e w16 ⟨rfl, hR16, hF16⟩
  have h16 := h15.out hR16 hF16
  have hFd : Fr base [5, 143] [b, r] w w16 := ((hFc.ext hF14).into hF15 (by simp) (by simp)).into hF16 (by simp) (by simp)
  go_wp2_with (fail)
  refine (hRC _ _ (by omega) h16).mono ?_
  rintro e w17 ⟨rfl, h17, hF17⟩
  go_wp2_with (fail)
  have hgs := getSel_some h17.cm hsl htl
  obtain ⟨s1, hs1⟩ : ∃ s, tmp[sel].1 = s := ⟨_, rfl⟩
  obtain ⟨s2, hs2⟩ : ∃ s, tmp[sel].2 = s := ⟨_, rfl⟩
  rw [hs1, hs2] at hgs
  rw [hs1] at htx
  have HTX := Lib.hid htx
  clear htx hs1 hs2
  refine hgs.mono ?_
  rintro e w18 ⟨rfl, hF18⟩
  have h18 := h17.fr0 hF18
  have hF018 := (hFd.into hF17 (by simp) (by simp)).ext hF18
  obtain ⟨m18, hm18⟩ : ∃ m18, n + 40000 = m18 := ⟨_, rfl⟩
  replace h18 : Scr base w18 r o b L c pre cols m18 t k q sel vs tmp := h18.le (by omega)
  obtain ⟨PS, hPS⟩ : ∃ P, w18.heap.size = P := ⟨_, rfl⟩
  have h19 : RS base w r o b L c pre cols t k q sel vs tmp PS s1 s2 m18 (w18.alloc (.cells #[.string s1, .string s2] 73)) :=
    ⟨h18.fr0 ((Fr.refl 0 [] [] w18).alloc _), Blk.new' hPS.symm _ _, hF018.alloc _⟩
  have hmm : m18 + 1000 ≤ n + 99000 := by omega
  have HM := Lib.hid hm18
  clear hm18 h17 hF17 hF18 hFd h16 hF16 hR16 h15 hF15 hB15 h14 hF14 hgs hbk hF018 hRC
  clear c0 c1 c2 c3 c5 c6 c7 f7 hlt hB12 hB10 hB9 hB7 hB6 hC6 hB hFa hFb hFc h
  go_wp2_with (fail)
  obtain ⟨W19, hW19⟩ : ∃ W, w18.alloc (.cells #[.string s1, .string s2] 73) = W := ⟨_, rfl⟩
  rw [hW19] at h19 ⊢
  clear hW19 hPS h18
  have hwa := wordAt_le q.sep t k
  obtain ⟨WA, hWA⟩ : ∃ WA, wordAt q.sep t k = WA := ⟨_, rfl⟩
  have HWA := Lib.hid hWA
  rw [hWA] at hwa
  clear hWA
  have hex : (t.extract WA k).size = k - WA := by simp; omega
  obtain ⟨WD, hWD⟩ : ∃ WD, k - WA = WD := ⟨_, rfl⟩
  rw [hWD] at hex
  have hWD2 : WD ≤ CU ∧ WD ≤ k := by have := HCU.out; omega
  clear hWD
  have hcub : CU ≤ 1100 := by have := HCU.out; omega
  have hS : (fun w' : World => w'.cell? ⟨c, 5, none⟩ = some (.string q.sep)) W19.drew := h19.s5
  refine wp_region_plan [7] [3, 8, 9, 10] (fun w' : World => w'.cell? ⟨c, 5, none⟩ = some (.string q.sep)) (.pure 0 (.pure 1 (.pure 2 (.pure 4 (.pure 5 (.pure 6 (.take 7 (.go 3 (.go 8 (.go 9 (.go 10 (.pure 11 .done)))))))))))) hmix (by kernel_rfl) ?_
  repeat (first | (refine plan_move rfl rfl rfl ?_; (try simp only [Act.put, zq1, zq2, zq3, zq4, zq5, zq6])) | (refine plan_pure (v := ?_) rfl rfl ?_ ?_; rotate_left; (intro w'; go_simp <;> with_reducible rfl); (try simp only [Act.put, zq1, zq2, zq3, zq4, zq5, zq6])) | (refine plan_take (v := ?_) rfl hS rfl ?_ ?_; rotate_left; (intro w' hSw; (try dsimp only at hSw); go_simp <;> with_reducible rfl); (try simp only [Act.put, zq1, zq2, zq3, zq4, zq5, zq6])))
  refine plan_goS rfl rfl (fun K hK => ?_)
  go_simp; refine (doc_c h19.drew.scr.buf).mono ?_; rintro e w20 ⟨d, rfl, hd, hU, hF20⟩; have h20 := h19.drew.doc hU hF20; have hS2 : (fun w' : World => w'.cell? ⟨c, 5, none⟩ = some (.string q.sep)) w20 := h20.s5; refine hK _ _ hS2 ?_; clear hK K; (try simp only [Act.put, zq1, zq2, zq3, zq4, zq5, zq6])
  refine plan_go rfl (by kernel_rfl) rfl (fun K hK => ?_)
  go_simp; have hgw := getWord_c hd ht.asc hq.sep (by omega) hk; rw [HWA.out] at hgw; refine hgw.mono ?_; rintro e w21 ⟨rfl, hF21⟩; refine hK _ _ ?_; clear hK K; (try simp only [Act.put, zq1, zq2, zq3, zq4, zq5, zq6])
  refine plan_go rfl (by kernel_rfl) rfl (fun K hK => ?_)
  go_simp; have hwi := width_c (t.extract WA k) (ht.extract _ _) (by omega) w21; rw [hex] at hwi; refine hwi.mono ?_; rintro e w22 ⟨rfl, hF22⟩; refine hK _ _ ?_; clear hK K; (try simp only [Act.put, zq1, zq2, zq3, zq4, zq5, zq6])
  refine plan_go rfl (by kernel_rfl) rfl (fun K hK => ?_)
  go_simp; have h22 := (h20.fr0 hF21).fr0 hF22; refine (backward_c h22.scr.rn hc1 hc2 CU WD (by omega) hWD2.1 (by omega)).mono ?_; rintro e w23 ⟨rfl, hR23, hF23⟩; refine hK _ _ ?_; clear hK K; (try simp only [Act.put, zq1, zq2, zq3, zq4, zq5, zq6])
  refine plan_pure (v := ?_) rfl rfl ?_ ?_; rotate_left; (intro w'; go_simp <;> with_reducible rfl); (try simp only [Act.put, zq1, zq2, zq3, zq4, zq5, zq6])
  refine plan_done ?_
  have h23 := h22.outR hR23 hF23
  clear h19 h20 h22 hR23 hF23 hF22 hF21 hF20 hU hd hS hS2 hgw hwi hex
  obtain ⟨CX, hCX⟩ : ∃ CX, CU - WD = CX := ⟨_, rfl⟩
  simp only [hCX]
  have hCX2 : CX ≤ 1100 ∧ CX ≤ 100 + k := by have := HCU.out; omega
  clear hCX
  go_wp2_with (fail)
  have hS : (fun w' : World => w'.cell? ⟨r, 0, none⟩ = some (.iface 144 (.pointer (some ⟨o, 0, none⟩))) ∧ w'.cell? ⟨r, 12, none⟩ = some (.int .i64 11) ∧ w'.cell? ⟨r, 13, none⟩ = some (.int .i64 0)) w23.drew := ⟨h23.c0, h23.scr.rn.col.2.2.2.2.1, h23.scr.rn.col.2.2.2.2.2⟩
  refine wp_region_plan [3, 7, 11] [14] (fun w' : World => w'.cell? ⟨r, 0, none⟩ = some (.iface 144 (.pointer (some ⟨o, 0, none⟩))) ∧ w'.cell? ⟨r, 12, none⟩ = some (.int .i64 11) ∧ w'.cell? ⟨r, 13, none⟩ = some (.int .i64 0)) (.pure 0 (.pure 1 (.pure 2 (.take 3 (.pure 4 (.pure 5 (.pure 6 (.take 7 (.pure 8 (.pure 9 (.pure 10 (.take 11 (.pure 12 (.pure 13 (.go 14 .done))))))))))))))) hmix (by kernel_rfl) ?_
  repeat (first | (refine plan_move rfl rfl rfl ?_; (try simp only [Act.put, zq1, zq2, zq3, zq4, zq5, zq6])) | (refine plan_pure (v := ?_) rfl rfl ?_ ?_; rotate_left; (intro w'; go_simp <;> with_reducible rfl); (try simp only [Act.put, zq1, zq2, zq3, zq4, zq5, zq6])) | (refine plan_take (v := ?_) rfl hS rfl ?_ ?_; rotate_left; (intro w' hSw; (try dsimp only at hSw); go_simp <;> with_reducible rfl); (try simp only [Act.put, zq1, zq2, zq3, zq4, zq5, zq6])))
  refine plan_go rfl (by kernel_rfl) rfl (fun K hK => ?_)
  go_simp; refine (setColor_c (f := 11) (b := 0) h23.drew.scr.rn.wr (by omega) (by omega) (by omega)).mono ?_; rintro e w24 ⟨rfl, hW24, hF24⟩; refine hK _ _ ?_; clear hK K; (try simp only [Act.put, zq1, zq2, zq3, zq4, zq5, zq6])
  refine plan_done ?_
  have h24 := h23.drew.out hW24 hF24
  clear h23 hW24 hF24 hS
  go_wp2_with (fail)
  have hS : (fun w' : World => w'.cell? ⟨r, 0, none⟩ = some (.iface 144 (.pointer (some ⟨o, 0, none⟩))) ∧ w'.cell? ⟨PS, 0, none⟩ = some (.string s1)) w24.drew := ⟨h24.c0, h24.ps.cell 0⟩
  refine wp_region_plan [3, 5] [6] (fun w' : World => w'.cell? ⟨r, 0, none⟩ = some (.iface 144 (.pointer (some ⟨o, 0, none⟩))) ∧ w'.cell? ⟨PS, 0, none⟩ = some (.string s1)) (.pure 0 (.pure 1 (.pure 2 (.take 3 (.pure 4 (.take 5 (.go 6 .done))))))) hmix (by kernel_rfl) ?_
  repeat (first | (refine plan_move rfl rfl rfl ?_; (try simp only [Act.put, zq1, zq2, zq3, zq4, zq5, zq6])) | (refine plan_pure (v := ?_) rfl rfl ?_ ?_; rotate_left; (intro w'; go_simp <;> with_reducible rfl); (try simp only [Act.put, zq1, zq2, zq3, zq4, zq5, zq6])) | (refine plan_take (v := ?_) rfl hS rfl ?_ ?_; rotate_left; (intro w' hSw; (try dsimp only at hSw); go_simp <;> with_reducible rfl); (try simp only [Act.put, zq1, zq2, zq3, zq4, zq5, zq6])))
  refine plan_go rfl (by kernel_rfl) rfl (fun K hK => ?_)
  go_simp; refine (writeStr_c h24.drew.scr.rn.wr HTX.out.1.noEsc (by have := HTX.out.2; omega)).mono ?_; rintro e w25 ⟨rfl, hW25, hF25⟩; refine hK _ _ ?_; clear hK K; (try simp only [Act.put, zq1, zq2, zq3, zq4, zq5, zq6])
  refine plan_done ?_
  have h25 := (h24.drew.out hW25 hF25).le (show _ ≤ m18 + 300 by have := HTX.out.2; omega)
  clear h24 hW25 hF25 hS
  have c0 := h25.c0
  have rlt := h25.rlt
  go_wp2_with (fail)
  refine (setColor_c (f := 0) (b := 0) h25.scr.rn.wr (by omega) (by omega) (by omega)).mono ?_
  rintro e w26 ⟨rfl, hW26, hF26⟩
  have h26 := h25.out hW26 hF26
  clear h25 c0 rlt hW26 hF26
  have q0 : w26.cell? ⟨PS, 0, none⟩ = some (.string s1) := h26.ps.cell 0
  have qlt := h26.ps.lt
  go_wp2_with (fail)
  refine (width_c s1 HTX.out.1 (by have := HTX.out.2; omega) _).mono ?_
  rintro e w27 ⟨rfl, hF27⟩
  have h27 := h26.fr0 hF27
  clear h26 hF27 q0 qlt
  obtain ⟨CY, hCY⟩ : ∃ CY, CX + s1.size = CY := ⟨_, rfl⟩
  have hcy : (CX : Int) + s1.size = CY := by omega
  have hCY2 : CY ≤ 1200 ∧ CY ≤ 200 + k := by have := HTX.out.2; omega
  clear hCY
  go_wp2_with (fail)
  refine (doc_c h27.scr.buf).mono ?_
  rintro e w28 ⟨d, rfl, hd, hU, hF28⟩
  have h28 := h27.doc hU hF28
  clear h27 hU hF28 hcy
  go_wp2_with (fail)
  refine (after_c hd ht.asc (by omega) hk).mono ?_
  rintro e w29 ⟨rfl, hF29⟩
  have h29 := h28.fr0 hF29
  clear h28 hF29 hd
  have hez : (t.extract k t.size).size = t.size - k := by simp
  have hezp : Prn (t.extract k t.size) := ht.extract _ _
  obtain ⟨T, hT⟩ : ∃ T, t.extract k t.size = T := ⟨_, rfl⟩
  rw [hT] at hez hezp
  simp only [hT]
  have hTz : T.size ≤ 1000 := by omega
  clear hT
  have hTk : T.size + k ≤ 1000 := by omega
  have HTK := Lib.hid hTk
  clear hez hTk
  have c0 := h29.c0
  have rlt := h29.rlt
  go_wp2_with (fail)
  refine (writeStr_c h29.scr.rn.wr hezp.noEsc (by omega)).mono ?_
  rintro e w30 ⟨rfl, hW30, hF30⟩
  have h30 := (h29.out hW30 hF30).le (show _ ≤ m18 + 1400 by omega)
  clear h29 hW30 hF30 c0 rlt
  go_wp2_with (fail)
  refine (width_c T hezp (by omega) _).mono ?_
  rintro e w31 ⟨rfl, hF31⟩
  have h31 := h30.fr0 hF31
  clear h30 hF31
  obtain ⟨CZ, hCZ⟩ : ∃ CZ, CY + T.size = CZ := ⟨_, rfl⟩
  have hcz : (CY : Int) + T.size = CZ := by omega
  have hCZ2 : CZ ≤ 1400 ∧ T.size ≤ CZ := by have := HTX.out.2; have := HTK.out; have := HCU.out; omega
  clear hCZ
  go_wp2_with (fail)
  refine (lineWrap_c h31.scr.rn hc1 hc2 CZ (by omega) (by omega)).mono ?_
  rintro e w32 ⟨rfl, hR32, hF32⟩
  have h32 := h31.outR hR32 hF32
  clear h31 hR32 hF32 hcz
  go_wp2_with (fail)
  refine (width_c T hezp (by omega) _).mono ?_
  rintro e w33 ⟨rfl, hF33⟩
  have h33 := h32.fr0 hF33
  clear h32 hF33
  go_wp2_with (fail)
  refine (backward_c h33.scr.rn hc1 hc2 CZ T.size (by omega) hCZ2.2 (by omega)).mono ?_
  rintro e w34 ⟨rfl, hR34, hF34⟩
  have h34 := h33.outR hR34 hF34
  clear h33 hR34 hF34
  obtain ⟨pc34, hpc34, ⟨c0, c1, c2, c3, c5, c6, c7, f7, hlt⟩, hB34, hbr34⟩ := h34.scr.rn.ren
  go_wp2_with (fail)
  obtain ⟨h35, hF35⟩ := h34.scr.pc (CZ - T.size) (by omega)
  refine leaves_cons (f := 251) (args := #[.pointer (some ⟨o, 0, none⟩)]) (by simp) (by kernel_rfl) ?_
  refine (showCursor_d h35.rn.wr (by omega)).mono ?_
  rintro e u' w36 ⟨rfl, rfl, hW36, hF36⟩
  have h36 := h35.outW hW36 hF36
  refine ⟨_, results_none rfl _ _ _, rfl, h36.le (by have := HM.out; omega), ?_⟩
  exact (h34.fr.into hF35 (by simp) (by simp)).into hF36 (by simp) (by simp)
end Go.Proofs.YtiepopbmbgfhkaaGreat

namespace Go.Proofs.YtiepopbmbgfhkaaGreat
open Go.RowKit
set_option maxHeartbeats 2000000
set_option maxRecDepth 20000
set_option linter.unusedVariables false
set_option linter.unusedSimpArgs false

/-- Where the suggestions that are shown lie within all. -/
structure Win (I : Pid) (s : PS) : Prop where
  len : s.tmp.length ≤ 12
  win : s.vs + (min I.q.most s.tmp.length : Nat) ≤ s.tmp.length
  mem : ∀ x ∈ s.tmp, x ∈ I.q.offs

theorem ren_any {base : Nat} {I : Pid} (hI : IdOk I) (hcol : I.pre.size + 13 ≤ I.cols) (hne : ∀ x ∈ I.q.offs, x.1.size ≠ 0) : RenP base I (Win I) := by
  intro w D h hk ⟨hl, hv, hm⟩ hn
  by_cases hz : D.tmp = []
  · have hs : D.sel = -1 := by
      rcases hk.sel with e | ⟨s, e, h9⟩
      · exact e
      · rw [hz] at h9; simp at h9
    exact ren_none hI w D h hk ⟨hs, hz⟩ hn
  · have hl' : D.tmp.length ≤ 12 := hl
    have hW : Wnd I.pre I.cols I.q D.vs D.tmp := ⟨hk.tp, fun x hx => hne x (hm x hx), hl, hI.hq.most1, hcol, hk.v0, hv⟩
    have hsb : -10 ≤ D.sel ∧ D.sel ≤ 1000 := by
      rcases hk.sel with e | ⟨s, e, h9⟩ <;> omega
    have hRC : ∀ (w : World) (n : Nat), n + 20000 ≤ 1000000000 → Scr base w I.r I.o D.b D.L I.c I.pre I.cols n D.t D.k I.q D.sel D.vs D.tmp → Calls Tryz.prog 82 #[.pointer (some ⟨I.r, 0, none⟩), .pointer (some ⟨D.b, 0, none⟩), .pointer (some ⟨I.c, 0, none⟩)] w fun e w' => e = .returned (.tuple #[]) ∧ Scr base w' I.r I.o D.b D.L I.c I.pre I.cols (n + 20000) D.t D.k I.q D.sel D.vs D.tmp ∧ Fr base [5, 143] [D.b] w w' :=
      fun w n hn hsc => renderComp_c hsc hk.ok hW hz hsb hn
    have hscr := h.scr
    have fin : ∀ (e : Ending) (w' : World), (e = .returned (.tuple #[]) ∧ Scr base w' I.r I.o D.b D.L I.c I.pre I.cols (D.n + 100000) D.t D.k I.q D.sel D.vs D.tmp ∧ Fr base [5, 143] [D.b, I.r] w w') → e = .returned (.tuple #[]) ∧ (∃ n', n' ≤ D.n + 200000 ∧ St base w' I { D with n := n' }) ∧ Fr base TT [] w w' := by
      rintro e w' ⟨rfl, hsc, hF⟩
      exact ⟨rfl, ⟨D.n + 100000, by omega, h.outUpd hsc hF (by simp)⟩, h.tt5 (hF.mono (by simp) (by simp))⟩
    rcases hk.sel with e | ⟨s, e, h9⟩
    · rw [e] at hscr hRC
      refine (render_c hscr hk.ok (by omega) hRC).mono fun e1 w' h8 => fin e1 w' ?_
      rw [e]
      exact h8
    · rw [e] at hscr hRC
      refine (renderSel_c hscr hk.ok (by omega) h9 hk.tl ⟨(hk.tp _ (List.getElem_mem h9)).1, (hk.tp _ (List.getElem_mem h9)).2.1⟩ hRC).mono fun e1 w' h8 => fin e1 w' ?_
      rw [e]
      exact h8

def Sess.gFed (S : Sess) : PS → List UInt8 → PS × Bool := fun s l => s.fed (S.cp 0 0) S.down S.exit bd0 l
def Sess.g0 (S : Sess) : PS := if S.start then S.ps.update (S.cp 0 0) else S.ps

/-- What is asked of a stand. -/
structure GOk (S : Sess) (s : PS) : Prop where
  ok : ∀ I x, IdS S x I → PsOk I s
  len : s.tmp.length ≤ 12
  win : s.vs + (min S.most s.tmp.length : Nat) ≤ s.tmp.length
/-- What is asked of a chunk: a text, return, tab. -/
def GKey (c : ByteArray) : Prop := (keyOf c.data.toList = 86 ∧ c.size ≤ 100 ∧ Prn c) ∨ keyOf c.data.toList = 13 ∨ keyOf c.data.toList = 54

theorem GOk.winI {S : Sess} {s : PS} {I : Pid} {x : Nat} (h : GOk S s) (hId : IdS S x I) : Win I s :=
  ⟨h.len, by rw [show I.q.most = S.most by rw [hId.q]; rfl]; exact h.win, (h.ok I x hId).tp⟩

theorem prompted_g {w : World} {S : Sess} {ov hv chv : Value} {chunks : List ByteArray} (hS : SessOk S) (hcol : S.pre.size + 13 ≤ S.cols)
    (hw : 1 ≤ w.heap.size) (ht : Tab w) (hO : PkIn w ov S.offs) (hH : TxIn w hv S.hist)
    (hCh : TxIn w chv chunks) (hChN : ∀ A n c, chv = .slice (some A) n c → A.block < w.heap.size) (hlen : chunks.length ≤ 100)
    (hst : ∀ i, i ≤ chunks.length → GOk S (play S.gFed S.g0 (chunks.take i)).1) (hk : ∀ i (hi : i < chunks.length), GKey chunks[i]) :
    Calls Tryz.prog 12 #[.agg (S.cells ov hv), chv] w (PrompPost (play S.gFed S.g0 chunks).1 (play S.gFed S.g0 chunks).2 w) := by
  have ren : ∀ N I x, IdS S x I → RenP N I (Win I) := fun N I x hId =>
    ren_any (idOk_of hId hS) (by rw [hId.pre, hId.cols]; exact hcol) (fun y hy => by
      have e : I.q.offs = S.offs := by rw [hId.q]; rfl
      rw [e] at hy
      exact (hS.ho y hy).2.2.2.2)
  refine prompted_c hS hw ht hO hH hCh hChN hlen (fun N x I w D hN hId h hD hn => ?_) (fun N x i hi I w D u hN hId h hD hov hd hn => ?_)
  · have hI := idOk_of hId hS
    have h0 := hst 0 (Nat.zero_le _)
    have e0 : (play S.gFed S.g0 (chunks.take 0)).1 = S.g0 := rfl
    rw [e0] at h0
    have e : (if I.q.start then D.ps.update I.q else D.ps) = S.g0 := by
      rw [hD]
      unfold Sess.g0
      rw [show I.q.start = S.start by rw [hId.q]; rfl, hId.q]
      rfl
    have := show_c (P := Win I) h hI (ren N I x hId) (by rw [e]; exact h0.ok I x hId) (by rw [e]; exact h0.winI hId) (by rw [hn]; omega)
    rw [e] at this
    exact this
  · have hI := idOk_of hId hS
    have hi1 := hst i (by omega)
    have hi2 := hst (i + 1) (by omega)
    have hki := hk i hi
    obtain ⟨s, hs⟩ : ∃ s, (play S.gFed S.g0 (chunks.take i)).1 = s := ⟨_, rfl⟩
    have hsucc : play S.gFed S.g0 (chunks.take (i + 1)) = S.gFed s chunks[i].data.toList := by
      rw [play_succ _ _ _ _ hi]
      unfold stepO
      rw [hov, hs]
      rfl
    rw [hsucc] at hi2
    rw [hs] at hi1 hD ⊢
    obtain ⟨l, hl⟩ : ∃ l, chunks[i].data.toList = l := ⟨_, rfl⟩
    have hcl : chunks[i] = ⟨l.toArray⟩ := by rw [← hl]
    unfold GKey at hki
    rw [hl] at hki hi2 hd ⊢
    have e : S.gFed s l = D.ps.fed I.q I.down I.et bd0 l := by
      unfold Sess.gFed
      rw [hD, hId.q, hId.down, hId.et]
      rfl
    rw [e] at hi2 ⊢
    have hPs : PsOk I D.ps := by rw [hD]; exact hi1.ok I x hId
    refine fedAny h hI hPs hd (ren N I x hId) ?_ (hi2.ok I x hId) (fun _ => hi2.winI hId) (by omega)
    have kb : ∀ key, key ∉ commonKeys → key ∉ emacsKeys → KBnd N I key (bd0 key) := fun key h1 h2 => kb_none h1 h2
    rcases hki with ⟨h1, h2, h3⟩ | h1 | h1
    · refine ⟨by omega, by omega, by omega, fun _ => ⟨?_, ?_⟩, fun _ _ => by rw [h1]; exact kb _ (by decide) (by decide)⟩
      · have : chunks[i].size = l.length := by rw [hcl]; show l.toArray.size = _; simp
        omega
      · rw [← hcl]; exact h3
    · exact ⟨by omega, by omega, by omega, fun h => by omega, fun _ _ => by rw [h1]; exact kb _ (by decide) (by decide)⟩
    · exact ⟨by omega, by omega, by omega, fun h => by omega, fun _ _ => by rw [h1]; exact kb _ (by decide) (by decide)⟩
end Go.Proofs.YtiepopbmbgfhkaaGreat
