/-
  Render, where a suggestion is selected; rendering of any stand.
  Rendering of any stand; Prompted in a session with suggestions.
  FnChosenExecuted: what the keys do, in plain terms.
  FnChosenExecuted: the law's walk.
-/
import Derived.Test.YtiepopbmbgfhkaaGreatF1
import Derived.Test.YtiepopbmbgfhkaaGreatC4
import Derived.Test.YtiepopbmbgfhkaaGreatC5
import Derived.Test.YtiepopbmbgfhkaaGreatC7
namespace Go.Proofs.YtiepopbmbgfhkaaGreat
open Go.RowKit
set_option maxHeartbeats 8000000
set_option maxRecDepth 20000
set_option linter.unusedVariables false
set_option linter.unusedSimpArgs false

/-- What stands behind the suggestions' rendering: the selected one lies at PS. -/
structure RS (base : Nat) (w : World) (r o b L c : Nat) (pre : ByteArray) (cols : Nat) (t : ByteArray) (k : Nat) (q : Cp) (sel vs : Int) (tmp : List Pk) (PS : Nat) (s1 s2 : ByteArray) (m : Nat) (wx : World) : Prop where
  scr : Scr base wx r o b L c pre cols m t k q sel vs tmp
  ps : Blk wx PS #[.string s1, .string s2] 73
  fr : Fr base [5, 143] [b, r] w wx
section
variable {base : Nat} {w wx w1 : World} {r o b L c : Nat} {pre : ByteArray} {cols : Nat} {t : ByteArray} {k : Nat} {q : Cp} {sel vs : Int} {tmp : List Pk} {PS : Nat} {s1 s2 : ByteArray} {m m' : Nat}
theorem RS.outR (h : RS base w r o b L c pre cols t k q sel vs tmp PS s1 s2 m wx) (hR : Rn base w1 r o pre cols m') (hF : Fr base [5, 143] [] wx w1) : RS base w r o b L c pre cols t k q sel vs tmp PS s1 s2 m' w1 :=
  ⟨h.scr.out hR hF, hF.blk h.ps (.inr ⟨by simp, by decide⟩), h.fr.into hF (by simp) (by simp)⟩
theorem RS.out (h : RS base w r o b L c pre cols t k q sel vs tmp PS s1 s2 m wx) (hW : Wr base w1 o m') (hF : Fr base [5, 143] [] wx w1) : RS base w r o b L c pre cols t k q sel vs tmp PS s1 s2 m' w1 :=
  h.outR (h.scr.rn.after hF hW) hF
theorem RS.fr0 {base' : Nat} (h : RS base w r o b L c pre cols t k q sel vs tmp PS s1 s2 m wx) (hF : Fr base' [] [] wx w1) : RS base w r o b L c pre cols t k q sel vs tmp PS s1 s2 m w1 :=
  ⟨h.scr.fr0 hF, hF.blk0 h.ps, h.fr.ext hF⟩
theorem RS.doc (h : RS base w r o b L c pre cols t k q sel vs tmp PS s1 s2 m wx) (hU : Buf base w1 b L t k) (hF : Fr base [] [b] wx w1) : RS base w r o b L c pre cols t k q sel vs tmp PS s1 s2 m w1 := by
  obtain ⟨⟨cs, hb⟩, -⟩ := h.scr.buf.blk
  refine ⟨h.scr.doc hU hF, hF.blk h.ps (.inr ⟨fun hm => ?_, by simp⟩), h.fr.into hF (by simp) (by simp)⟩
  simp only [List.mem_singleton] at hm
  subst hm
  exact absurd (hb.inj h.ps).2 (by decide)
theorem RS.drew (h : RS base w r o b L c pre cols t k q sel vs tmp PS s1 s2 m wx) : RS base w r o b L c pre cols t k q sel vs tmp PS s1 s2 m wx.drew := h.fr0 ((Fr.refl 0 [] [] wx).drew)
theorem RS.le (h : RS base w r o b L c pre cols t k q sel vs tmp PS s1 s2 m wx) (hm : m ≤ m') : RS base w r o b L c pre cols t k q sel vs tmp PS s1 s2 m' wx := ⟨h.scr.le hm, h.ps, h.fr⟩
theorem RS.c0 (h : RS base w r o b L c pre cols t k q sel vs tmp PS s1 s2 m wx) : wx.cell? ⟨r, 0, none⟩ = some (.iface 144 (.pointer (some ⟨o, 0, none⟩))) := by
  obtain ⟨pc, hpc, C, hB, hbr⟩ := h.scr.rn.ren
  exact C.c0
theorem RS.rlt (h : RS base w r o b L c pre cols t k q sel vs tmp PS s1 s2 m wx) : r < wx.heap.size := by
  obtain ⟨pc, hpc, C, hB, hbr⟩ := h.scr.rn.ren
  exact C.lt
theorem RS.s5 (h : RS base w r o b L c pre cols t k q sel vs tmp PS s1 s2 m wx) : wx.cell? ⟨c, 5, none⟩ = some (.string q.sep) := by
  obtain ⟨p3, k3, C, hC3, hP3, -⟩ := h.scr.cm.ren
  exact C.c5
end

theorem renderSel_c {base : Nat} {w : World} {r o b L c : Nat} {pre : ByteArray} {cols n : Nat} {t : ByteArray} {k : Nat} {q : Cp} {sel : Nat} {vs : Int} {tmp : List Pk} (h : Scr base w r o b L c pre cols n t k q sel vs tmp) (hok : ScrOk pre cols t k q) (hn : n + 100000 ≤ 1000000000) (hsl : sel < tmp.length) (htl : tmp.length ≤ 1000) (htx : Prn tmp[sel].1 ∧ tmp[sel].1.size ≤ 100)
    (hRC : ∀ (w : World) (n : Nat), n + 20000 ≤ 1000000000 → Scr base w r o b L c pre cols n t k q sel vs tmp → Calls Tryz.prog 82 #[.pointer (some ⟨r, 0, none⟩), .pointer (some ⟨b, 0, none⟩), .pointer (some ⟨c, 0, none⟩)] w fun e w' => e = .returned (.tuple #[]) ∧ Scr base w' r o b L c pre cols (n + 20000) t k q sel vs tmp ∧ Fr base [5, 143] [b] w w') :
    Calls Tryz.prog 47 #[.pointer (some ⟨r, 0, none⟩), .pointer (some ⟨b, 0, none⟩), .pointer (some ⟨c, 0, none⟩)] w fun e w' => e = .returned (.tuple #[]) ∧ Scr base w' r o b L c pre cols (n + 100000) t k q sel vs tmp ∧ Fr base [5, 143] [b, r] w w' := by
  obtain ⟨hpre, hpres, hc1, hc2, ht, hts, hk, hq, hmost⟩ := hok
  have m1 := md_SetColor
  have m2 := na_SetColor
  have m3 := md_WriteStr
  have m4 := na_WriteStr
  have m5 := md_HideCursor
  have m6 := na_HideCursor
  have m7 := md_ShowCursor
  have m8 := na_ShowCursor
  have m9 := md_EraseDown
  have m10 := na_EraseDown
  obtain ⟨e1, e2⟩ := int_ne (a := (cols : Int)) (b := 0) (by omega)
  obtain ⟨pc, hpc, ⟨c0, c1, c2, c3, c5, c6, c7, f7, hlt⟩, hB, hbr⟩ := h.rn.ren
  go_enter_defers Tryz.func47, Tryz.ntmps47
  go_wp2_with (fail)
  refine (move_c h.rn hc1 hc2 pc 0 hpc (by omega) (by omega)).mono ?_
  rintro e w1 ⟨rfl, h1, hF1⟩
  replace h1 := h.out h1 hF1
  go_wp2_with (fail)
  refine (text_c h1.buf).mono ?_
  rintro e w2 ⟨rfl, j2, rfl⟩
  have h2 := h1.drewN j2
  go_wp2_with (fail)
  refine (prefix_c h2.rn).mono ?_
  rintro e w3 ⟨rfl, hF3⟩
  have h3 := h2.fr0 hF3
  go_wp2_with (fail)
  refine (width_c _ hpre (by omega) _).mono ?_
  rintro e w4 ⟨rfl, hF4⟩
  have h4 := h3.fr0 hF4
  go_wp2_with (fail)
  refine (width_c _ ht (by omega) _).mono ?_
  rintro e w5 ⟨rfl, hF5⟩
  have h5 := h4.fr0 hF5
  have hcur : ((pre.size + t.size : Nat) : Int) = (pre.size : Int) + t.size := by omega
  go_wp2_with (fail)
  refine (toPos_c h5.rn hc1 hc2 (pre.size + t.size) (by omega)).mono ?_
  rintro e w6 ⟨x, y, rfl, hx, hxa, hy, hF6⟩
  have h6 := h5.fr0 hF6
  obtain ⟨pc6, hpc6, ⟨c0, c1, c2, c3, c5, c6, c7, f7, hlt⟩, hB6, hbr6⟩ := h6.rn.ren
  obtain ⟨p6, k6, ⟨g0, g1, g2, g3, g4, g5, g6, gf0, gf1, gf4, glt⟩, hC6, -⟩ := h6.cm.ren
  have hw1 : IntKind.i64.wrap (q.most : Int) = q.most := wrap_in (by omega) (by omega)
  have hw2 : IntKind.i64.wrap (cols : Int) = cols := wrap_in (by omega) (by omega)
  have d1 : decide ((1000 : Int) < (y : Int) + 1 + q.most) = false := by simp; omega
  have d2 : decide ((cols : Int) < 4) = false := by simp; omega
  go_wp2_with (fail)
  refine (hideCursor_c h6.rn.wr (by omega)).mono ?_
  rintro e w7 ⟨rfl, hW7, hF7⟩
  have h7 := h6.outW hW7 hF7
  have hFa : Fr base [5, 143] [b, r] w w7 := ((((((Fr.refl base [5, 143] [b, r] w).into hF1 (by simp) (by simp)).drewN j2).ext hF3).ext hF4).ext hF5 |>.ext hF6).into hF7 (by simp) (by simp)
  obtain ⟨pc7, hpc7, ⟨c0, c1, c2, c3, c5, c6, c7, f7, hlt⟩, hB7, hbr7⟩ := h7.rn.ren
  go_wp2_with (fail)
  refine (renderPrefix_c h7.rn hpre hpres (by omega)).mono ?_
  rintro e w8 ⟨rfl, hR8, hF8⟩
  have h8 := h7.out hR8 hF8
  go_wp2_with (fail)
  have hS : (fun w' : World => w'.cell? ⟨r, 0, none⟩ = some (.iface 144 (.pointer (some ⟨o, 0, none⟩))) ∧ w'.cell? ⟨r, 10, none⟩ = some (.int .i64 0) ∧ w'.cell? ⟨r, 11, none⟩ = some (.int .i64 0)) w8.drew := by
    obtain ⟨pc, hpc, ⟨c0, c1, c2, c3, c5, c6, c7, f7, hlt⟩, hB, hbr⟩ := h8.rn.ren
    exact ⟨c0, h8.rn.col.2.2.1, h8.rn.col.2.2.2.1⟩
  refine wp_region_plan [3, 7, 11] [14] (fun w' : World => w'.cell? ⟨r, 0, none⟩ = some (.iface 144 (.pointer (some ⟨o, 0, none⟩))) ∧ w'.cell? ⟨r, 10, none⟩ = some (.int .i64 0) ∧ w'.cell? ⟨r, 11, none⟩ = some (.int .i64 0)) (.pure 0 (.pure 1 (.pure 2 (.take 3 (.pure 4 (.pure 5 (.pure 6 (.take 7 (.pure 8 (.pure 9 (.pure 10 (.take 11 (.pure 12 (.pure 13 (.go 14 .done))))))))))))))) hmix (by kernel_rfl) ?_
  refine plan_move rfl rfl rfl ?_; (try simp only [Act.put, List.setIfInBounds_toArray, List.set_cons_zero, List.set_cons_succ, Int.toNat_natCast, Int.toNat_sub, Int.toNat_zero])
  first | (refine plan_pure (v := ?_) rfl rfl ?_ ?_; rotate_left; (intro w'; go_simp <;> with_reducible rfl); (try simp only [Act.put, List.setIfInBounds_toArray, List.set_cons_zero, List.set_cons_succ, Int.toNat_natCast, Int.toNat_sub, Int.toNat_zero]))
  first | (refine plan_pure (v := ?_) rfl rfl ?_ ?_; rotate_left; (intro w'; go_simp <;> with_reducible rfl); (try simp only [Act.put, List.setIfInBounds_toArray, List.set_cons_zero, List.set_cons_succ, Int.toNat_natCast, Int.toNat_sub, Int.toNat_zero]))
  first | (refine plan_take (v := ?_) rfl hS rfl ?_ ?_; rotate_left; (intro w' hSw; (try dsimp only at hSw); go_simp <;> with_reducible rfl); (try simp only [Act.put, List.setIfInBounds_toArray, List.set_cons_zero, List.set_cons_succ, Int.toNat_natCast, Int.toNat_sub, Int.toNat_zero]))
  refine plan_move rfl rfl rfl ?_; (try simp only [Act.put, List.setIfInBounds_toArray, List.set_cons_zero, List.set_cons_succ, Int.toNat_natCast, Int.toNat_sub, Int.toNat_zero])
  first | (refine plan_pure (v := ?_) rfl rfl ?_ ?_; rotate_left; (intro w'; go_simp <;> with_reducible rfl); (try simp only [Act.put, List.setIfInBounds_toArray, List.set_cons_zero, List.set_cons_succ, Int.toNat_natCast, Int.toNat_sub, Int.toNat_zero]))
  first | (refine plan_pure (v := ?_) rfl rfl ?_ ?_; rotate_left; (intro w'; go_simp <;> with_reducible rfl); (try simp only [Act.put, List.setIfInBounds_toArray, List.set_cons_zero, List.set_cons_succ, Int.toNat_natCast, Int.toNat_sub, Int.toNat_zero]))
  first | (refine plan_take (v := ?_) rfl hS rfl ?_ ?_; rotate_left; (intro w' hSw; (try dsimp only at hSw); go_simp <;> with_reducible rfl); (try simp only [Act.put, List.setIfInBounds_toArray, List.set_cons_zero, List.set_cons_succ, Int.toNat_natCast, Int.toNat_sub, Int.toNat_zero]))
  refine plan_move rfl rfl rfl ?_; (try simp only [Act.put, List.setIfInBounds_toArray, List.set_cons_zero, List.set_cons_succ, Int.toNat_natCast, Int.toNat_sub, Int.toNat_zero])
  first | (refine plan_pure (v := ?_) rfl rfl ?_ ?_; rotate_left; (intro w'; go_simp <;> with_reducible rfl); (try simp only [Act.put, List.setIfInBounds_toArray, List.set_cons_zero, List.set_cons_succ, Int.toNat_natCast, Int.toNat_sub, Int.toNat_zero]))
  first | (refine plan_pure (v := ?_) rfl rfl ?_ ?_; rotate_left; (intro w'; go_simp <;> with_reducible rfl); (try simp only [Act.put, List.setIfInBounds_toArray, List.set_cons_zero, List.set_cons_succ, Int.toNat_natCast, Int.toNat_sub, Int.toNat_zero]))
  first | (refine plan_take (v := ?_) rfl hS rfl ?_ ?_; rotate_left; (intro w' hSw; (try dsimp only at hSw); go_simp <;> with_reducible rfl); (try simp only [Act.put, List.setIfInBounds_toArray, List.set_cons_zero, List.set_cons_succ, Int.toNat_natCast, Int.toNat_sub, Int.toNat_zero]))
  first | (refine plan_pure (v := ?_) rfl rfl ?_ ?_; rotate_left; (intro w'; go_simp <;> with_reducible rfl); (try simp only [Act.put, List.setIfInBounds_toArray, List.set_cons_zero, List.set_cons_succ, Int.toNat_natCast, Int.toNat_sub, Int.toNat_zero]))
  refine plan_move rfl rfl rfl ?_; (try simp only [Act.put, List.setIfInBounds_toArray, List.set_cons_zero, List.set_cons_succ, Int.toNat_natCast, Int.toNat_sub, Int.toNat_zero])
  refine plan_go rfl (by kernel_rfl) rfl (fun K hK => ?_)
  go_simp; refine (setColor_c (f := 0) (b := 0) h8.rn.wr.drew (by omega) (by omega) (by omega)).mono ?_; rintro e w9 ⟨rfl, hW9, hF9⟩; refine hK _ _ ?_; clear hK K; (try simp only [Act.put, List.setIfInBounds_toArray, List.set_cons_zero, List.set_cons_succ, Int.toNat_natCast, Int.toNat_sub, Int.toNat_zero])
  refine plan_done ?_
  have h9 := h8.drew.outW hW9 hF9
  have hFb : Fr base [5, 143] [b, r] w w9 := ((hFa.into hF8 (by simp) (by simp)).drew).into hF9 (by simp) (by simp)
  obtain ⟨pc9, hpc9, ⟨c0, c1, c2, c3, c5, c6, c7, f7, hlt⟩, hB9, hbr9⟩ := h9.rn.ren
  go_wp2_with (fail)
  refine (writeStr_c h9.rn.wr ht.noEsc (by omega)).mono ?_
  rintro e w10 ⟨rfl, hW10, hF10⟩
  have h10 := h9.outW hW10 hF10
  obtain ⟨pc10, hpc10, ⟨c0, c1, c2, c3, c5, c6, c7, f7, hlt⟩, hB10, hbr10⟩ := h10.rn.ren
  go_wp2_with (fail)
  refine (setColor_c (f := 0) (b := 0) h10.rn.wr (by omega) (by omega) (by omega)).mono ?_
  rintro e w11 ⟨rfl, hW11, hF11⟩
  have h11 := h10.outW hW11 hF11
  go_wp2_with (fail)
  refine (lineWrap_c h11.rn hc1 hc2 (pre.size + t.size) (by omega) (by omega)).mono ?_
  rintro e w12 ⟨rfl, hR12, hF12⟩
  have h12 := h11.out hR12 hF12
  obtain ⟨pc12, hpc12, ⟨c0, c1, c2, c3, c5, c6, c7, f7, hlt⟩, hB12, hbr12⟩ := h12.rn.ren
  go_wp2_with (fail)
  refine (eraseDown_c h12.rn.wr (by omega)).mono ?_
  rintro e w13 ⟨rfl, hW13, hF13⟩
  have h13 := h12.outW hW13 hF13
  have hFc : Fr base [5, 143] [b, r] w w13 := (((hFb.into hF10 (by simp) (by simp)).into hF11 (by simp) (by simp)).into hF12 (by simp) (by simp)).into hF13 (by simp) (by simp)
  go_wp2_with (fail)
  refine (width_c _ ht (by omega) _).mono ?_
  rintro e w14 ⟨rfl, hF14⟩
  have h14 := h13.fr0 hF14
  go_wp2_with (fail)
  refine (bufPos_c h14.buf ht (by omega) hk).mono ?_
  rintro e w15 ⟨rfl, hB15, hF15⟩
  have h15 := h14.doc hB15 hF15
  have hsub : (t.size : Int) - k = (t.size - k : Nat) := by omega
  go_wp2_with (fail)
  have hbk := backward_c h15.rn hc1 hc2 (pre.size + t.size) (t.size - k) (by omega) (by omega) (by omega)
  obtain ⟨CU, hCU⟩ : ∃ CU, pre.size + t.size - (t.size - k) = CU := ⟨_, rfl⟩
  rw [hCU] at hbk
  have hCU2 : CU = pre.size + k := by omega
  clear hCU
  have HCU := Lib.hid hCU2
  clear hCU2
  refine hbk.mono ?_
  rintro e w16 ⟨rfl, hR16, hF16⟩
  have h16 := h15.out hR16 hF16
  have hFd : Fr base [5, 143] [b, r] w w16 := ((hFc.ext hF14).into hF15 (by simp) (by simp)).into hF16 (by simp) (by simp)
  go_wp2_with (fail)
  refine (hRC _ _ (by omega) h16).mono ?_
  rintro e w17 ⟨rfl, h17, hF17⟩
  go_wp2_with (fail)
  have hgs := getSel_some h17.cm hsl htl
  obtain ⟨s1, hs1⟩ : ∃ s, tmp[sel].1 = s := ⟨_, rfl⟩
  obtain ⟨s2, hs2⟩ : ∃ s, tmp[sel].2 = s := ⟨_, rfl⟩
  rw [hs1, hs2] at hgs
  rw [hs1] at htx
  have HTX := Lib.hid htx
  clear htx hs1 hs2
  refine hgs.mono ?_
  rintro e w18 ⟨rfl, hF18⟩
  have h18 := h17.fr0 hF18
  have hF018 := (hFd.into hF17 (by simp) (by simp)).ext hF18
  obtain ⟨m18, hm18⟩ : ∃ m18, n + 40000 = m18 := ⟨_, rfl⟩
  replace h18 : Scr base w18 r o b L c pre cols m18 t k q sel vs tmp := h18.le (by omega)
  obtain ⟨PS, hPS⟩ : ∃ P, w18.heap.size = P := ⟨_, rfl⟩
  have h19 : RS base w r o b L c pre cols t k q sel vs tmp PS s1 s2 m18 (w18.alloc (.cells #[.string s1, .string s2] 73)) :=
    ⟨h18.fr0 ((Fr.refl 0 [] [] w18).alloc _), Blk.new' hPS.symm _ _, hF018.alloc _⟩
  have hmm : m18 + 1000 ≤ n + 99000 := by omega
  have HM := Lib.hid hm18
  clear hm18 h17 hF17 hF18 hFd h16 hF16 hR16 h15 hF15 hB15 h14 hF14 hgs hbk hF018 hRC
  clear c0 c1 c2 c3 c5 c6 c7 f7 hlt hB12 hB10 hB9 hB7 hB6 hC6 hB hFa hFb hFc h
  go_wp2_with (fail)
  obtain ⟨W19, hW19⟩ : ∃ W, w18.alloc (.cells #[.string s1, .string s2] 73) = W := ⟨_, rfl⟩
  rw [hW19] at h19 ⊢
  clear hW19 hPS h18
  have hwa := wordAt_le q.sep t k
  obtain ⟨WA, hWA⟩ : ∃ WA, wordAt q.sep t k = WA := ⟨_, rfl⟩
  have HWA := Lib.hid hWA
  rw [hWA] at hwa
  clear hWA
  have hex : (t.extract WA k).size = k - WA := by simp; omega
  obtain ⟨WD, hWD⟩ : ∃ WD, k - WA = WD := ⟨_, rfl⟩
  rw [hWD] at hex
  have hWD2 : WD ≤ CU ∧ WD ≤ k := by have := HCU.out; omega
  clear hWD
  have hcub : CU ≤ 1100 := by have := HCU.out; omega
  have hS : (fun w' : World => w'.cell? ⟨c, 5, none⟩ = some (.string q.sep)) W19.drew := h19.s5
  refine wp_region_plan [7] [3, 8, 9, 10] (fun w' : World => w'.cell? ⟨c, 5, none⟩ = some (.string q.sep)) (.pure 0 (.pure 1 (.pure 2 (.pure 4 (.pure 5 (.pure 6 (.take 7 (.go 3 (.go 8 (.go 9 (.go 10 (.pure 11 .done)))))))))))) hmix (by kernel_rfl) ?_
  refine plan_move rfl rfl rfl ?_; (try simp only [Act.put, List.setIfInBounds_toArray, List.set_cons_zero, List.set_cons_succ, Int.toNat_natCast, Int.toNat_sub, Int.toNat_zero])
  refine plan_move rfl rfl rfl ?_; (try simp only [Act.put, List.setIfInBounds_toArray, List.set_cons_zero, List.set_cons_succ, Int.toNat_natCast, Int.toNat_sub, Int.toNat_zero])
  refine plan_move rfl rfl rfl ?_; (try simp only [Act.put, List.setIfInBounds_toArray, List.set_cons_zero, List.set_cons_succ, Int.toNat_natCast, Int.toNat_sub, Int.toNat_zero])
  refine plan_move rfl rfl rfl ?_; (try simp only [Act.put, List.setIfInBounds_toArray, List.set_cons_zero, List.set_cons_succ, Int.toNat_natCast, Int.toNat_sub, Int.toNat_zero])
  first | (refine plan_pure (v := ?_) rfl rfl ?_ ?_; rotate_left; (intro w'; go_simp <;> with_reducible rfl); (try simp only [Act.put, List.setIfInBounds_toArray, List.set_cons_zero, List.set_cons_succ, Int.toNat_natCast, Int.toNat_sub, Int.toNat_zero]))
  first | (refine plan_pure (v := ?_) rfl rfl ?_ ?_; rotate_left; (intro w'; go_simp <;> with_reducible rfl); (try simp only [Act.put, List.setIfInBounds_toArray, List.set_cons_zero, List.set_cons_succ, Int.toNat_natCast, Int.toNat_sub, Int.toNat_zero]))
  first | (refine plan_take (v := ?_) rfl hS rfl ?_ ?_; rotate_left; (intro w' hSw; (try dsimp only at hSw); go_simp <;> with_reducible rfl); (try simp only [Act.put, List.setIfInBounds_toArray, List.set_cons_zero, List.set_cons_succ, Int.toNat_natCast, Int.toNat_sub, Int.toNat_zero]))
  refine plan_goS rfl rfl (fun K hK => ?_)
  go_simp; refine (doc_c h19.drew.scr.buf).mono ?_; rintro e w20 ⟨d, rfl, hd, hU, hF20⟩; have h20 := h19.drew.doc hU hF20; have hS2 : (fun w' : World => w'.cell? ⟨c, 5, none⟩ = some (.string q.sep)) w20 := h20.s5; refine hK _ _ hS2 ?_; clear hK K; (try simp only [Act.put, List.setIfInBounds_toArray, List.set_cons_zero, List.set_cons_succ, Int.toNat_natCast, Int.toNat_sub, Int.toNat_zero])
  refine plan_go rfl (by kernel_rfl) rfl (fun K hK => ?_)
  go_simp; have hgw := getWord_c hd ht.asc hq.sep (by omega) hk; rw [HWA.out] at hgw; refine hgw.mono ?_; rintro e w21 ⟨rfl, hF21⟩; refine hK _ _ ?_; clear hK K; (try simp only [Act.put, List.setIfInBounds_toArray, List.set_cons_zero, List.set_cons_succ, Int.toNat_natCast, Int.toNat_sub, Int.toNat_zero])
  refine plan_go rfl (by kernel_rfl) rfl (fun K hK => ?_)
  go_simp; have hwi := width_c (t.extract WA k) (ht.extract _ _) (by omega) w21; rw [hex] at hwi; refine hwi.mono ?_; rintro e w22 ⟨rfl, hF22⟩; refine hK _ _ ?_; clear hK K; (try simp only [Act.put, List.setIfInBounds_toArray, List.set_cons_zero, List.set_cons_succ, Int.toNat_natCast, Int.toNat_sub, Int.toNat_zero])
  refine plan_go rfl (by kernel_rfl) rfl (fun K hK => ?_)
  go_simp; have h22 := (h20.fr0 hF21).fr0 hF22; refine (backward_c h22.scr.rn hc1 hc2 CU WD (by omega) hWD2.1 (by omega)).mono ?_; rintro e w23 ⟨rfl, hR23, hF23⟩; refine hK _ _ ?_; clear hK K; (try simp only [Act.put, List.setIfInBounds_toArray, List.set_cons_zero, List.set_cons_succ, Int.toNat_natCast, Int.toNat_sub, Int.toNat_zero])
  first | (refine plan_pure (v := ?_) rfl rfl ?_ ?_; rotate_left; (intro w'; go_simp <;> with_reducible rfl); (try simp only [Act.put, List.setIfInBounds_toArray, List.set_cons_zero, List.set_cons_succ, Int.toNat_natCast, Int.toNat_sub, Int.toNat_zero]))
  refine plan_done ?_
  have h23 := h22.outR hR23 hF23
  clear h19 h20 h22 hR23 hF23 hF22 hF21 hF20 hU hd hS hS2 hgw hwi hex
  obtain ⟨CX, hCX⟩ : ∃ CX, CU - WD = CX := ⟨_, rfl⟩
  simp only [hCX]
  have hCX2 : CX ≤ 1100 ∧ CX ≤ 100 + k := by have := HCU.out; omega
  clear hCX
  go_wp2_with (fail)
  have hS : (fun w' : World => w'.cell? ⟨r, 0, none⟩ = some (.iface 144 (.pointer (some ⟨o, 0, none⟩))) ∧ w'.cell? ⟨r, 12, none⟩ = some (.int .i64 11) ∧ w'.cell? ⟨r, 13, none⟩ = some (.int .i64 0)) w23.drew := ⟨h23.c0, h23.scr.rn.col.2.2.2.2.1, h23.scr.rn.col.2.2.2.2.2⟩
  refine wp_region_plan [3, 7, 11] [14] (fun w' : World => w'.cell? ⟨r, 0, none⟩ = some (.iface 144 (.pointer (some ⟨o, 0, none⟩))) ∧ w'.cell? ⟨r, 12, none⟩ = some (.int .i64 11) ∧ w'.cell? ⟨r, 13, none⟩ = some (.int .i64 0)) (.pure 0 (.pure 1 (.pure 2 (.take 3 (.pure 4 (.pure 5 (.pure 6 (.take 7 (.pure 8 (.pure 9 (.pure 10 (.take 11 (.pure 12 (.pure 13 (.go 14 .done))))))))))))))) hmix (by kernel_rfl) ?_
  refine plan_move rfl rfl rfl ?_; (try simp only [Act.put, List.setIfInBounds_toArray, List.set_cons_zero, List.set_cons_succ, Int.toNat_natCast, Int.toNat_sub, Int.toNat_zero])
  first | (refine plan_pure (v := ?_) rfl rfl ?_ ?_; rotate_left; (intro w'; go_simp <;> with_reducible rfl); (try simp only [Act.put, List.setIfInBounds_toArray, List.set_cons_zero, List.set_cons_succ, Int.toNat_natCast, Int.toNat_sub, Int.toNat_zero]))
  first | (refine plan_pure (v := ?_) rfl rfl ?_ ?_; rotate_left; (intro w'; go_simp <;> with_reducible rfl); (try simp only [Act.put, List.setIfInBounds_toArray, List.set_cons_zero, List.set_cons_succ, Int.toNat_natCast, Int.toNat_sub, Int.toNat_zero]))
  first | (refine plan_take (v := ?_) rfl hS rfl ?_ ?_; rotate_left; (intro w' hSw; (try dsimp only at hSw); go_simp <;> with_reducible rfl); (try simp only [Act.put, List.setIfInBounds_toArray, List.set_cons_zero, List.set_cons_succ, Int.toNat_natCast, Int.toNat_sub, Int.toNat_zero]))
  refine plan_move rfl rfl rfl ?_; (try simp only [Act.put, List.setIfInBounds_toArray, List.set_cons_zero, List.set_cons_succ, Int.toNat_natCast, Int.toNat_sub, Int.toNat_zero])
  first | (refine plan_pure (v := ?_) rfl rfl ?_ ?_; rotate_left; (intro w'; go_simp <;> with_reducible rfl); (try simp only [Act.put, List.setIfInBounds_toArray, List.set_cons_zero, List.set_cons_succ, Int.toNat_natCast, Int.toNat_sub, Int.toNat_zero]))
  first | (refine plan_pure (v := ?_) rfl rfl ?_ ?_; rotate_left; (intro w'; go_simp <;> with_reducible rfl); (try simp only [Act.put, List.setIfInBounds_toArray, List.set_cons_zero, List.set_cons_succ, Int.toNat_natCast, Int.toNat_sub, Int.toNat_zero]))
  first | (refine plan_take (v := ?_) rfl hS rfl ?_ ?_; rotate_left; (intro w' hSw; (try dsimp only at hSw); go_simp <;> with_reducible rfl); (try simp only [Act.put, List.setIfInBounds_toArray, List.set_cons_zero, List.set_cons_succ, Int.toNat_natCast, Int.toNat_sub, Int.toNat_zero]))
  refine plan_move rfl rfl rfl ?_; (try simp only [Act.put, List.setIfInBounds_toArray, List.set_cons_zero, List.set_cons_succ, Int.toNat_natCast, Int.toNat_sub, Int.toNat_zero])
  first | (refine plan_pure (v := ?_) rfl rfl ?_ ?_; rotate_left; (intro w'; go_simp <;> with_reducible rfl); (try simp only [Act.put, List.setIfInBounds_toArray, List.set_cons_zero, List.set_cons_succ, Int.toNat_natCast, Int.toNat_sub, Int.toNat_zero]))
  first | (refine plan_pure (v := ?_) rfl rfl ?_ ?_; rotate_left; (intro w'; go_simp <;> with_reducible rfl); (try simp only [Act.put, List.setIfInBounds_toArray, List.set_cons_zero, List.set_cons_succ, Int.toNat_natCast, Int.toNat_sub, Int.toNat_zero]))
  first | (refine plan_take (v := ?_) rfl hS rfl ?_ ?_; rotate_left; (intro w' hSw; (try dsimp only at hSw); go_simp <;> with_reducible rfl); (try simp only [Act.put, List.setIfInBounds_toArray, List.set_cons_zero, List.set_cons_succ, Int.toNat_natCast, Int.toNat_sub, Int.toNat_zero]))
  first | (refine plan_pure (v := ?_) rfl rfl ?_ ?_; rotate_left; (intro w'; go_simp <;> with_reducible rfl); (try simp only [Act.put, List.setIfInBounds_toArray, List.set_cons_zero, List.set_cons_succ, Int.toNat_natCast, Int.toNat_sub, Int.toNat_zero]))
  refine plan_move rfl rfl rfl ?_; (try simp only [Act.put, List.setIfInBounds_toArray, List.set_cons_zero, List.set_cons_succ, Int.toNat_natCast, Int.toNat_sub, Int.toNat_zero])
  refine plan_go rfl (by kernel_rfl) rfl (fun K hK => ?_)
  go_simp; refine (setColor_c (f := 11) (b := 0) h23.drew.scr.rn.wr (by omega) (by omega) (by omega)).mono ?_; rintro e w24 ⟨rfl, hW24, hF24⟩; refine hK _ _ ?_; clear hK K; (try simp only [Act.put, List.setIfInBounds_toArray, List.set_cons_zero, List.set_cons_succ, Int.toNat_natCast, Int.toNat_sub, Int.toNat_zero])
  refine plan_done ?_
  have h24 := h23.drew.out hW24 hF24
  clear h23 hW24 hF24 hS
  go_wp2_with (fail)
  have hS : (fun w' : World => w'.cell? ⟨r, 0, none⟩ = some (.iface 144 (.pointer (some ⟨o, 0, none⟩))) ∧ w'.cell? ⟨PS, 0, none⟩ = some (.string s1)) w24.drew := ⟨h24.c0, h24.ps.cell 0⟩
  refine wp_region_plan [3, 5] [6] (fun w' : World => w'.cell? ⟨r, 0, none⟩ = some (.iface 144 (.pointer (some ⟨o, 0, none⟩))) ∧ w'.cell? ⟨PS, 0, none⟩ = some (.string s1)) (.pure 0 (.pure 1 (.pure 2 (.take 3 (.pure 4 (.take 5 (.go 6 .done))))))) hmix (by kernel_rfl) ?_
  refine plan_move rfl rfl rfl ?_; (try simp only [Act.put, List.setIfInBounds_toArray, List.set_cons_zero, List.set_cons_succ, Int.toNat_natCast, Int.toNat_sub, Int.toNat_zero])
  first | (refine plan_pure (v := ?_) rfl rfl ?_ ?_; rotate_left; (intro w'; go_simp <;> with_reducible rfl); (try simp only [Act.put, List.setIfInBounds_toArray, List.set_cons_zero, List.set_cons_succ, Int.toNat_natCast, Int.toNat_sub, Int.toNat_zero]))
  first | (refine plan_pure (v := ?_) rfl rfl ?_ ?_; rotate_left; (intro w'; go_simp <;> with_reducible rfl); (try simp only [Act.put, List.setIfInBounds_toArray, List.set_cons_zero, List.set_cons_succ, Int.toNat_natCast, Int.toNat_sub, Int.toNat_zero]))
  first | (refine plan_take (v := ?_) rfl hS rfl ?_ ?_; rotate_left; (intro w' hSw; (try dsimp only at hSw); go_simp <;> with_reducible rfl); (try simp only [Act.put, List.setIfInBounds_toArray, List.set_cons_zero, List.set_cons_succ, Int.toNat_natCast, Int.toNat_sub, Int.toNat_zero]))
  first | (refine plan_pure (v := ?_) rfl rfl ?_ ?_; rotate_left; (intro w'; go_simp <;> with_reducible rfl); (try simp only [Act.put, List.setIfInBounds_toArray, List.set_cons_zero, List.set_cons_succ, Int.toNat_natCast, Int.toNat_sub, Int.toNat_zero]))
  first | (refine plan_take (v := ?_) rfl hS rfl ?_ ?_; rotate_left; (intro w' hSw; (try dsimp only at hSw); go_simp <;> with_reducible rfl); (try simp only [Act.put, List.setIfInBounds_toArray, List.set_cons_zero, List.set_cons_succ, Int.toNat_natCast, Int.toNat_sub, Int.toNat_zero]))
  refine plan_go rfl (by kernel_rfl) rfl (fun K hK => ?_)
  go_simp; refine (writeStr_c h24.drew.scr.rn.wr HTX.out.1.noEsc (by have := HTX.out.2; omega)).mono ?_; rintro e w25 ⟨rfl, hW25, hF25⟩; refine hK _ _ ?_; clear hK K; (try simp only [Act.put, List.setIfInBounds_toArray, List.set_cons_zero, List.set_cons_succ, Int.toNat_natCast, Int.toNat_sub, Int.toNat_zero])
  refine plan_done ?_
  have h25 := (h24.drew.out hW25 hF25).le (show _ ≤ m18 + 300 by have := HTX.out.2; omega)
  clear h24 hW25 hF25 hS
  have c0 := h25.c0
  have rlt := h25.rlt
  go_wp2_with (fail)
  refine (setColor_c (f := 0) (b := 0) h25.scr.rn.wr (by omega) (by omega) (by omega)).mono ?_
  rintro e w26 ⟨rfl, hW26, hF26⟩
  have h26 := h25.out hW26 hF26
  clear h25 c0 rlt hW26 hF26
  have q0 : w26.cell? ⟨PS, 0, none⟩ = some (.string s1) := h26.ps.cell 0
  have qlt := h26.ps.lt
  go_wp2_with (fail)
  refine (width_c s1 HTX.out.1 (by have := HTX.out.2; omega) _).mono ?_
  rintro e w27 ⟨rfl, hF27⟩
  have h27 := h26.fr0 hF27
  clear h26 hF27 q0 qlt
  obtain ⟨CY, hCY⟩ : ∃ CY, CX + s1.size = CY := ⟨_, rfl⟩
  have hcy : (CX : Int) + s1.size = CY := by omega
  have hCY2 : CY ≤ 1200 ∧ CY ≤ 200 + k := by have := HTX.out.2; omega
  clear hCY
  go_wp2_with (fail)
  refine (doc_c h27.scr.buf).mono ?_
  rintro e w28 ⟨d, rfl, hd, hU, hF28⟩
  have h28 := h27.doc hU hF28
  clear h27 hU hF28 hcy
  go_wp2_with (fail)
  refine (after_c hd ht.asc (by omega) hk).mono ?_
  rintro e w29 ⟨rfl, hF29⟩
  have h29 := h28.fr0 hF29
  clear h28 hF29 hd
  have hez : (t.extract k t.size).size = t.size - k := by simp
  have hezp : Prn (t.extract k t.size) := ht.extract _ _
  obtain ⟨T, hT⟩ : ∃ T, t.extract k t.size = T := ⟨_, rfl⟩
  rw [hT] at hez hezp
  simp only [hT]
  have hTz : T.size ≤ 1000 := by omega
  clear hT
  have hTk : T.size + k ≤ 1000 := by omega
  have HTK := Lib.hid hTk
  clear hez hTk
  have c0 := h29.c0
  have rlt := h29.rlt
  go_wp2_with (fail)
  refine (writeStr_c h29.scr.rn.wr hezp.noEsc (by omega)).mono ?_
  rintro e w30 ⟨rfl, hW30, hF30⟩
  have h30 := (h29.out hW30 hF30).le (show _ ≤ m18 + 1400 by omega)
  clear h29 hW30 hF30 c0 rlt
  go_wp2_with (fail)
  refine (width_c T hezp (by omega) _).mono ?_
  rintro e w31 ⟨rfl, hF31⟩
  have h31 := h30.fr0 hF31
  clear h30 hF31
  obtain ⟨CZ, hCZ⟩ : ∃ CZ, CY + T.size = CZ := ⟨_, rfl⟩
  have hcz : (CY : Int) + T.size = CZ := by omega
  have hCZ2 : CZ ≤ 1400 ∧ T.size ≤ CZ := by have := HTX.out.2; have := HTK.out; have := HCU.out; omega
  clear hCZ
  go_wp2_with (fail)
  refine (lineWrap_c h31.scr.rn hc1 hc2 CZ (by omega) (by omega)).mono ?_
  rintro e w32 ⟨rfl, hR32, hF32⟩
  have h32 := h31.outR hR32 hF32
  clear h31 hR32 hF32 hcz
  go_wp2_with (fail)
  refine (width_c T hezp (by omega) _).mono ?_
  rintro e w33 ⟨rfl, hF33⟩
  have h33 := h32.fr0 hF33
  clear h32 hF33
  go_wp2_with (fail)
  refine (backward_c h33.scr.rn hc1 hc2 CZ T.size (by omega) hCZ2.2 (by omega)).mono ?_
  rintro e w34 ⟨rfl, hR34, hF34⟩
  have h34 := h33.outR hR34 hF34
  clear h33 hR34 hF34
  obtain ⟨pc34, hpc34, ⟨c0, c1, c2, c3, c5, c6, c7, f7, hlt⟩, hB34, hbr34⟩ := h34.scr.rn.ren
  go_wp2_with (fail)
  obtain ⟨h35, hF35⟩ := h34.scr.pc (CZ - T.size) (by omega)
  refine leaves_cons (f := 251) (args := #[.pointer (some ⟨o, 0, none⟩)]) (by simp) (by kernel_rfl) ?_
  refine (showCursor_d h35.rn.wr (by omega)).mono ?_
  rintro e u' w36 ⟨rfl, rfl, hW36, hF36⟩
  have h36 := h35.outW hW36 hF36
  refine ⟨_, results_none rfl _ _ _, rfl, h36.le (by have := HM.out; omega), ?_⟩
  exact (h34.fr.into hF35 (by simp) (by simp)).into hF36 (by simp) (by simp)
end Go.Proofs.YtiepopbmbgfhkaaGreat

namespace Go.Proofs.YtiepopbmbgfhkaaGreat
open Go.RowKit
set_option maxHeartbeats 2000000
set_option maxRecDepth 20000
set_option linter.unusedVariables false
set_option linter.unusedSimpArgs false

/-- Where the suggestions that are shown lie within all. -/
structure Win (I : Pid) (s : PS) : Prop where
  len : s.tmp.length ≤ 12
  win : s.vs + (min I.q.most s.tmp.length : Nat) ≤ s.tmp.length
  mem : ∀ x ∈ s.tmp, x ∈ I.q.offs

theorem ren_any {base : Nat} {I : Pid} (hI : IdOk I) (hcol : I.pre.size + 13 ≤ I.cols) (hne : ∀ x ∈ I.q.offs, x.1.size ≠ 0) : RenP base I (Win I) := by
  intro w D h hk ⟨hl, hv, hm⟩ hn
  by_cases hz : D.tmp = []
  · have hs : D.sel = -1 := by
      rcases hk.sel with e | ⟨s, e, h9⟩
      · exact e
      · rw [hz] at h9; simp at h9
    exact ren_none hI w D h hk ⟨hs, hz⟩ hn
  · have hl' : D.tmp.length ≤ 12 := hl
    have hW : Wnd I.pre I.cols I.q D.vs D.tmp := ⟨hk.tp, fun x hx => hne x (hm x hx), hl, hI.hq.most1, hcol, hk.v0, hv⟩
    have hsb : -10 ≤ D.sel ∧ D.sel ≤ 1000 := by
      rcases hk.sel with e | ⟨s, e, h9⟩ <;> omega
    have hRC : ∀ (w : World) (n : Nat), n + 20000 ≤ 1000000000 → Scr base w I.r I.o D.b D.L I.c I.pre I.cols n D.t D.k I.q D.sel D.vs D.tmp → Calls Tryz.prog 82 #[.pointer (some ⟨I.r, 0, none⟩), .pointer (some ⟨D.b, 0, none⟩), .pointer (some ⟨I.c, 0, none⟩)] w fun e w' => e = .returned (.tuple #[]) ∧ Scr base w' I.r I.o D.b D.L I.c I.pre I.cols (n + 20000) D.t D.k I.q D.sel D.vs D.tmp ∧ Fr base [5, 143] [D.b] w w' :=
      fun w n hn hsc => renderComp_c hsc hk.ok hW hz hsb hn
    have hscr := h.scr
    have fin : ∀ (e : Ending) (w' : World), (e = .returned (.tuple #[]) ∧ Scr base w' I.r I.o D.b D.L I.c I.pre I.cols (D.n + 100000) D.t D.k I.q D.sel D.vs D.tmp ∧ Fr base [5, 143] [D.b, I.r] w w') → e = .returned (.tuple #[]) ∧ (∃ n', n' ≤ D.n + 200000 ∧ St base w' I { D with n := n' }) ∧ Fr base TT [] w w' := by
      rintro e w' ⟨rfl, hsc, hF⟩
      exact ⟨rfl, ⟨D.n + 100000, by omega, h.outUpd hsc hF (by simp)⟩, h.tt5 (hF.mono (by simp) (by simp))⟩
    rcases hk.sel with e | ⟨s, e, h9⟩
    · rw [e] at hscr hRC
      refine (render_c hscr hk.ok (by omega) hRC).mono fun e1 w' h8 => fin e1 w' ?_
      rw [e]
      exact h8
    · rw [e] at hscr hRC
      refine (renderSel_c hscr hk.ok (by omega) h9 hk.tl ⟨(hk.tp _ (List.getElem_mem h9)).1, (hk.tp _ (List.getElem_mem h9)).2.1⟩ hRC).mono fun e1 w' h8 => fin e1 w' ?_
      rw [e]
      exact h8

def Sess.gFed (S : Sess) : PS → List UInt8 → PS × Bool := fun s l => s.fed (S.cp 0 0) S.down S.exit bd0 l
def Sess.g0 (S : Sess) : PS := if S.start then S.ps.update (S.cp 0 0) else S.ps

/-- What is asked of a stand. -/
structure GOk (S : Sess) (s : PS) : Prop where
  ok : ∀ I x, IdS S x I → PsOk I s
  len : s.tmp.length ≤ 12
  win : s.vs + (min S.most s.tmp.length : Nat) ≤ s.tmp.length
/-- What is asked of a chunk: a text, return, tab. -/
def GKey (c : ByteArray) : Prop := (keyOf c.data.toList = 86 ∧ c.size ≤ 100 ∧ Prn c) ∨ keyOf c.data.toList = 13 ∨ keyOf c.data.toList = 54

theorem GOk.winI {S : Sess} {s : PS} {I : Pid} {x : Nat} (h : GOk S s) (hId : IdS S x I) : Win I s :=
  ⟨h.len, by rw [show I.q.most = S.most by rw [hId.q]; rfl]; exact h.win, (h.ok I x hId).tp⟩

theorem prompted_g {w : World} {S : Sess} {ov hv chv : Value} {chunks : List ByteArray} (hS : SessOk S) (hcol : S.pre.size + 13 ≤ S.cols)
    (hw : 1 ≤ w.heap.size) (ht : Tab w) (hO : PkIn w ov S.offs) (hH : TxIn w hv S.hist)
    (hCh : TxIn w chv chunks) (hChN : ∀ A n c, chv = .slice (some A) n c → A.block < w.heap.size) (hlen : chunks.length ≤ 100)
    (hst : ∀ i, i ≤ chunks.length → GOk S (play S.gFed S.g0 (chunks.take i)).1) (hk : ∀ i (hi : i < chunks.length), GKey chunks[i]) :
    Calls Tryz.prog 12 #[.agg (S.cells ov hv), chv] w (PrompPost (play S.gFed S.g0 chunks).1 (play S.gFed S.g0 chunks).2 w) := by
  have ren : ∀ N I x, IdS S x I → RenP N I (Win I) := fun N I x hId =>
    ren_any (idOk_of hId hS) (by rw [hId.pre, hId.cols]; exact hcol) (fun y hy => by
      have e : I.q.offs = S.offs := by rw [hId.q]; rfl
      rw [e] at hy
      exact (hS.ho y hy).2.2.2.2)
  refine prompted_c hS hw ht hO hH hCh hChN hlen (fun N x I w D hN hId h hD hn => ?_) (fun N x i hi I w D u hN hId h hD hov hd hn => ?_)
  · have hI := idOk_of hId hS
    have h0 := hst 0 (Nat.zero_le _)
    have e0 : (play S.gFed S.g0 (chunks.take 0)).1 = S.g0 := rfl
    rw [e0] at h0
    have e : (if I.q.start then D.ps.update I.q else D.ps) = S.g0 := by
      rw [hD]
      unfold Sess.g0
      rw [show I.q.start = S.start by rw [hId.q]; rfl, hId.q]
      rfl
    have := show_c (P := Win I) h hI (ren N I x hId) (by rw [e]; exact h0.ok I x hId) (by rw [e]; exact h0.winI hId) (by rw [hn]; omega)
    rw [e] at this
    exact this
  · have hI := idOk_of hId hS
    have hi1 := hst i (by omega)
    have hi2 := hst (i + 1) (by omega)
    have hki := hk i hi
    obtain ⟨s, hs⟩ : ∃ s, (play S.gFed S.g0 (chunks.take i)).1 = s := ⟨_, rfl⟩
    have hsucc : play S.gFed S.g0 (chunks.take (i + 1)) = S.gFed s chunks[i].data.toList := by
      rw [play_succ _ _ _ _ hi]
      unfold stepO
      rw [hov, hs]
      rfl
    rw [hsucc] at hi2
    rw [hs] at hi1 hD ⊢
    obtain ⟨l, hl⟩ : ∃ l, chunks[i].data.toList = l := ⟨_, rfl⟩
    have hcl : chunks[i] = ⟨l.toArray⟩ := by rw [← hl]
    unfold GKey at hki
    rw [hl] at hki hi2 hd ⊢
    have e : S.gFed s l = D.ps.fed I.q I.down I.et bd0 l := by
      unfold Sess.gFed
      rw [hD, hId.q, hId.down, hId.et]
      rfl
    rw [e] at hi2 ⊢
    have hPs : PsOk I D.ps := by rw [hD]; exact hi1.ok I x hId
    refine fedAny h hI hPs hd (ren N I x hId) ?_ (hi2.ok I x hId) (fun _ => hi2.winI hId) (by omega)
    have kb : ∀ key, key ∉ commonKeys → key ∉ emacsKeys → KBnd N I key (bd0 key) := fun key h1 h2 => kb_none h1 h2
    rcases hki with ⟨h1, h2, h3⟩ | h1 | h1
    · refine ⟨by omega, by omega, by omega, fun _ => ⟨?_, ?_⟩, fun _ _ => by rw [h1]; exact kb _ (by decide) (by decide)⟩
      · have : chunks[i].size = l.length := by rw [hcl]; show l.toArray.size = _; simp
        omega
      · rw [← hcl]; exact h3
    · exact ⟨by omega, by omega, by omega, fun h => by omega, fun _ _ => by rw [h1]; exact kb _ (by decide) (by decide)⟩
    · exact ⟨by omega, by omega, by omega, fun h => by omega, fun _ _ => by rw [h1]; exact kb _ (by decide) (by decide)⟩
end Go.Proofs.YtiepopbmbgfhkaaGreat

namespace Go.Proofs.YtiepopbmbgfhkaaGreat
open Go.RowKit
set_option maxHeartbeats 2000000
set_option maxRecDepth 20000
set_option linter.unusedVariables false
set_option linter.unusedSimpArgs false

/-- Chunks lead from a stand to a stand, and what is asked holds all the way. -/
def GoesG (S : Sess) : PS → List ByteArray → PS → Prop
  | s, [], s' => GOk S s ∧ s' = s
  | s, c :: cs, s' => GOk S s ∧ GKey c ∧ ∃ s1, S.gFed s c.data.toList = (s1, false) ∧ GoesG S s1 cs s'

section
variable {S : Sess}
theorem GoesG.append : ∀ {a b : List ByteArray} {s s1 s2 : PS}, GoesG S s a s1 → GoesG S s1 b s2 → GoesG S s (a ++ b) s2
  | [], b, s, s1, s2, ⟨h, e⟩, k => by rw [e] at k; exact k
  | c :: cs, b, s, s1, s2, ⟨h, hk, t, ht, hg⟩, k => ⟨h, hk, t, ht, hg.append k⟩
theorem playG_cons {s s1 : PS} {c : ByteArray} {cs : List ByteArray} (h : S.gFed s c.data.toList = (s1, false)) : play S.gFed s (c :: cs) = play S.gFed s1 cs := by
  unfold play
  rw [List.foldl_cons]
  have : stepO S.gFed (s, false) c = (s1, false) := by unfold stepO; simp only [Bool.false_eq_true, if_false]; exact h
  rw [this]
theorem GoesG.play : ∀ {a : List ByteArray} {s s1 : PS}, GoesG S s a s1 → play S.gFed s a = (s1, false) ∧ (∀ i, i ≤ a.length → GOk S (play S.gFed s (a.take i)).1) ∧ ∀ i (hi : i < a.length), GKey a[i]
  | [], s, s1, ⟨h, e⟩ => by
    subst e
    exact ⟨rfl, fun i _ => by rw [List.take_nil]; exact h, fun i hi => absurd hi (by simp)⟩
  | c :: cs, s, s1, ⟨h, hk, t, ht, hg⟩ => by
    obtain ⟨k1, k2, k3⟩ := hg.play
    refine ⟨by rw [playG_cons ht]; exact k1, fun i hi => ?_, fun i hi => ?_⟩
    · cases i with
      | zero => exact h
      | succ i =>
        rw [List.take_succ_cons, playG_cons ht]
        exact k2 i (by simp at hi; omega)
    · cases i with
      | zero => exact hk
      | succ i => exact k3 i (by simp at hi; omega)
end

/-- The place behind the last byte that a test lets by. -/
theorem lastIx_at (p : UInt8 → Bool) (s : ByteArray) (m : Nat) : ∀ n, m ≤ n → (m = 0 ∨ p (s.data.getD (m - 1) 0) = true) → (∀ j, m ≤ j → j < n → p (s.data.getD j 0) = false) → lastIx p s n = (m : Int) - 1
  | 0, hm, h1, h2 => by
    have : m = 0 := by omega
    subst this; rfl
  | n + 1, hm, h1, h2 => by
    unfold lastIx
    by_cases h : m = n + 1
    · subst h
      rw [if_pos (by simpa using h1)]
      omega
    · rw [if_neg (by rw [h2 n (by omega) (by omega)]; simp)]
      exact lastIx_at p s m n (by omega) h1 (fun j a b => h2 j a (by omega))

theorem getD_append_l {a b : ByteArray} {j : Nat} (h : j < a.size) : (a ++ b).data.getD j 0 = a.data.getD j 0 := by
  have h' : j < a.data.size := h
  rw [ByteArray.data_append]
  simp only [Array.getD_eq_getD_getElem?]
  rw [Array.getElem?_append_left h']
theorem getD_append_r {a b : ByteArray} {j : Nat} (h : a.size ≤ j) : (a ++ b).data.getD j 0 = b.data.getD (j - a.size) 0 := by
  have h' : a.data.size ≤ j := h
  rw [ByteArray.data_append]
  simp only [Array.getD_eq_getD_getElem?]
  rw [Array.getElem?_append_right h']
  rfl
theorem extract_whole (t : ByteArray) : t.extract 0 t.size = t := by simp

/-- What is asked of the words ahead, and of the beginning of a word. -/
structure Word (words begun : ByteArray) : Prop where
  w : words.size = 0 ∨ words.data.getD (words.size - 1) 0 = 32
  b : ∀ j, j < begun.size → begun.data.getD j 0 ≠ 32
  b0 : begun.size ≠ 0
  pw : Prn words
  pb : Prn begun
  sz : words.size + begun.size ≤ 40

section
variable {words begun : ByteArray}
theorem word_at (h : Word words begun) : wordAt .empty (words ++ begun) (words ++ begun).size = words.size := by
  unfold wordAt
  rw [extract_whole]
  have hp : sepP .empty = (· == 32) := by unfold sepP; rw [if_pos (by rfl)]
  rw [hp, lastIx_at _ _ words.size _ (by rw [ByteArray.size_append]; omega) ?_ ?_]
  · omega
  · rcases h.w with e | e
    · exact .inl e
    · by_cases h0 : words.size = 0
      · exact .inl h0
      · exact .inr (by rw [getD_append_l (by omega), e]; rfl)
  · intro j h1 h2
    rw [ByteArray.size_append] at h2
    rw [getD_append_r h1]
    simpa using h.b (j - words.size) (by omega)
theorem extract_right (a b : ByteArray) : (a ++ b).extract a.size (a ++ b).size = b := by
  apply ByteArray.ext
  rw [ByteArray.data_extract, ByteArray.data_append]
  apply Array.ext'
  have h1 : a.size = a.data.toList.length := by simp
  rw [Array.toList_extract, List.extract_eq_take_drop, Array.toList_append, ByteArray.size_append, h1, List.drop_left, List.take_of_length_le]
  simp
theorem extract_left (a b : ByteArray) : (a ++ b).extract 0 a.size = a := by
  apply ByteArray.ext
  rw [ByteArray.data_extract, ByteArray.data_append]
  apply Array.ext'
  have h1 : a.size = a.data.toList.length := by simp
  rw [Array.toList_extract, List.extract_eq_take_drop, Array.toList_append, List.drop_zero, Nat.sub_zero, h1, List.take_left]
theorem chosen_text (h : Word words begun) (v : ByteArray) : chosenT .empty (words ++ begun) (words ++ begun).size v = words ++ v := by
  unfold chosenT
  rw [word_at h, extract_left, extract_empty _ _ _ (Nat.le_refl _), empty_pre]
  unfold putT
  rw [extract_whole, extract_empty _ _ _ (Nat.le_refl _), empty_pre]
end

/-- A session in which nothing has been typed. -/
def Zs (tmp : List Pk) : PS := ⟨.empty, 0, [], [.empty], 0, -1, 0, tmp, []⟩
/-- .. behind a text. -/
def Ts (u : ByteArray) (F : List Pk) (sel vs : Int) : PS := ⟨u, u.size, [], [.empty], 0, sel, vs, F, []⟩
/-- .. behind a line that was executed. -/
def Rs (x : ByteArray) (tmp : List Pk) : PS := ⟨.empty, 0, [x], [x, .empty], 1, -1, 0, tmp, [x]⟩
def tabT : ByteArray := ⟨#[9]⟩
def retT : ByteArray := ⟨#[13]⟩
/-- The first suggestion that is shown, behind so many tabs. -/
def Vs (most j : Nat) : Int := ((j - most : Nat) : Int)

/-- What is asked of a session. -/
structure CS (S : Sess) : Prop where
  ok : SessOk S
  hist : S.hist = []
  begun : S.begun = .empty
  sep : S.sep = .empty
  exit : S.exit = .empty

section
variable {S : Sess} {words begun : ByteArray}
theorem g0_is (h : CS S) : S.g0 = Zs (if S.start then S.offs else []) := by
  have e : S.ps = Zs [] := by unfold Sess.ps Zs; rw [h.hist, h.begun]; rfl
  unfold Sess.g0
  rw [e]
  cases S.start
  · rfl
  · simp only [if_true]
    have e2 : fit (ByteArray.empty.extract (wordAt S.sep .empty 0) 0) S.offs = S.offs := fit_empty _ _
    show PS.mk .empty 0 [] [.empty] 0 (-1) 0 (fit (ByteArray.empty.extract (wordAt S.sep .empty 0) 0) S.offs) [] = _
    rw [e2]; rfl

theorem upd_word (h : CS S) (hw : Word words begun) (sel vs : Int) (tmp : List Pk) : (Ts (words ++ begun) tmp sel vs).update (S.cp 0 0) = Ts (words ++ begun) (fit begun S.offs) sel vs := by
  have e : (words ++ begun).extract (wordAt S.sep (words ++ begun) (words ++ begun).size) (words ++ begun).size = begun := by rw [h.sep, word_at hw, extract_right]
  show PS.mk _ _ _ _ _ _ _ (fit ((words ++ begun).extract (wordAt S.sep (words ++ begun) (words ++ begun).size) (words ++ begun).size) S.offs) _ = _
  rw [e]; rfl

theorem key_list {u : ByteArray} (hu : u.size ≠ 0) (hp : Prn u) : keyOf u.data.toList = 86 := by
  refine key_text (fun e => hu ?_) (by simpa using hp)
  have : u.data.toList.length = 0 := by rw [e]; rfl
  simpa using this

theorem step_text (h : CS S) (hw : Word words begun) (tmp : List Pk) : S.gFed (Zs tmp) (words ++ begun).data.toList = (Ts (words ++ begun) (fit begun S.offs) (-1) 0, false) := by
  have hsz : (words ++ begun).size ≠ 0 := by rw [ByteArray.size_append]; have := hw.b0; omega
  have hk := key_list hsz (prn_append hw.pw hw.pb)
  have ec : (Zs tmp).comp (S.cp 0 0) S.down 86 = Zs S.offs := by
    unfold PS.comp
    rw [if_neg (by omega), if_neg (by omega), if_neg (by omega), if_neg (by omega)]
    unfold PS.chosen
    rw [if_pos (show (Zs tmp).sel = -1 from rfl)]
    rfl
  have et : (Zs S.offs).typed ⟨(words ++ begun).data.toList.toArray⟩ = Ts (words ++ begun) S.offs (-1) 0 := by
    have e9 : (⟨(words ++ begun).data.toList.toArray⟩ : ByteArray) = words ++ begun := dat_string _
    rw [e9]
    unfold PS.typed
    have e8 : putT (Zs S.offs).t (Zs S.offs).k (words ++ begun) = words ++ begun := insert_empty _
    rw [e8]
    have e7 : (Zs S.offs).k + (words ++ begun).size = (words ++ begun).size := Nat.zero_add _
    rw [e7]; rfl
  have e : (Zs tmp).feed (S.cp 0 0) S.down bd0 (words ++ begun).data.toList = (Ts (words ++ begun) S.offs (-1) 0, false, none) := by
    unfold PS.feed
    rw [hk, if_neg (by omega), if_neg (by omega), if_neg (by omega), if_neg (by omega), if_neg (by omega), if_pos rfl, ec, et]
    rfl
  unfold Sess.gFed PS.fed
  rw [e]
  show (PS.update _ _, false) = _
  rw [upd_word h hw]

theorem feed_tab (s : PS) : s.feed (S.cp 0 0) S.down bd0 tabT.data.toList = (s.next (S.cp 0 0), false, none) := by
  have hk : keyOf tabT.data.toList = 54 := by decide
  unfold PS.feed
  rw [hk, if_neg (by omega), if_neg (by omega), if_neg (by omega), if_neg (by omega), if_neg (by omega), if_neg (by omega)]
  unfold PS.comp
  rw [if_neg (by omega), if_pos rfl]
  rfl

theorem step_tab (h : CS S) (hw : Word words begun) (j : Nat) (hj : j < (fit begun S.offs).length) :
    S.gFed (Ts (words ++ begun) (fit begun S.offs) ((j : Int) - 1) (Vs S.most j)) tabT.data.toList = (Ts (words ++ begun) (fit begun S.offs) (((j + 1 : Nat) : Int) - 1) (Vs S.most (j + 1)), false) := by
  have hm := h.ok.m1
  have hv : (if Vs S.most j + (S.most : Int) - 1 = (j : Int) - 1 then Vs S.most j + 1 else Vs S.most j) = Vs S.most (j + 1) := by
    unfold Vs
    split <;> omega
  have en : nextS (S.cp 0 0) ((j : Int) - 1) (Vs S.most j) (fit begun S.offs) = ((j : Int), Vs S.most (j + 1), fit begun S.offs) := by
    unfold nextS updS
    rw [if_neg (by omega), if_neg (by omega)]
    have hv' : (if Vs S.most j + ((S.cp 0 0).most : Int) - 1 = (j : Int) - 1 then Vs S.most j + 1 else Vs S.most j) = Vs S.most (j + 1) := hv
    rw [hv', show (j : Int) - 1 + 1 = j by omega]
  have e : (Ts (words ++ begun) (fit begun S.offs) ((j : Int) - 1) (Vs S.most j)).next (S.cp 0 0) = Ts (words ++ begun) (fit begun S.offs) (((j + 1 : Nat) : Int) - 1) (Vs S.most (j + 1)) := by
    show PS.mk _ _ _ _ _ (nextS (S.cp 0 0) ((j : Int) - 1) (Vs S.most j) (fit begun S.offs)).1 (nextS (S.cp 0 0) ((j : Int) - 1) (Vs S.most j) (fit begun S.offs)).2.1 (nextS (S.cp 0 0) ((j : Int) - 1) (Vs S.most j) (fit begun S.offs)).2.2 _ = _
    rw [en, show (((j + 1 : Nat) : Int) - 1) = j by omega]
    rfl
  unfold Sess.gFed PS.fed
  rw [feed_tab, e]
  show (PS.update _ _, false) = _
  rw [upd_word h hw]

theorem step_tab_last (h : CS S) (hw : Word words begun) (j : Nat) (hj : j = (fit begun S.offs).length) :
    S.gFed (Ts (words ++ begun) (fit begun S.offs) ((j : Int) - 1) (Vs S.most j)) tabT.data.toList = (Ts (words ++ begun) (fit begun S.offs) (-1) 0, false) := by
  have en : nextS (S.cp 0 0) ((j : Int) - 1) (Vs S.most j) (fit begun S.offs) = (-1, 0, S.offs) := by
    unfold nextS updS
    rw [if_pos (by omega)]
    rfl
  have e : (Ts (words ++ begun) (fit begun S.offs) ((j : Int) - 1) (Vs S.most j)).next (S.cp 0 0) = Ts (words ++ begun) S.offs (-1) 0 := by
    show PS.mk _ _ _ _ _ (nextS (S.cp 0 0) ((j : Int) - 1) (Vs S.most j) (fit begun S.offs)).1 (nextS (S.cp 0 0) ((j : Int) - 1) (Vs S.most j) (fit begun S.offs)).2.1 (nextS (S.cp 0 0) ((j : Int) - 1) (Vs S.most j) (fit begun S.offs)).2.2 _ = _
    rw [en]
    rfl
  unfold Sess.gFed PS.fed
  rw [feed_tab, e]
  show (PS.update _ _, false) = _
  rw [upd_word h hw]

theorem step_ret (h : CS S) {u x : ByteArray} {F : List Pk} {sel vs : Int} (hx : x ≠ .empty) (hc : ((Ts u F sel vs).comp (S.cp 0 0) S.down 13) = ⟨x, x.size, [], [.empty], 0, -1, 0, S.offs, []⟩) :
    S.gFed (Ts u F sel vs) retT.data.toList = (Rs x S.offs, false) := by
  have hk : keyOf retT.data.toList = 13 := by decide
  have e : (Ts u F sel vs).feed (S.cp 0 0) S.down bd0 retT.data.toList = (⟨.empty, 0, [x], [x, .empty], 1, -1, 0, S.offs, []⟩, false, some x) := by
    unfold PS.feed
    rw [hk, if_pos (by omega), hc]
    unfold PS.enter
    rw [if_neg hx]
    rfl
  unfold Sess.gFed PS.fed
  rw [e]
  have e2 : fit (ByteArray.empty.extract (wordAt S.sep .empty 0) 0) S.offs = S.offs := fit_empty _ _
  show (PS.mk .empty 0 [x] [x, .empty] 1 (-1) 0 (fit (ByteArray.empty.extract (wordAt S.sep .empty 0) 0) S.offs) [x], decide (S.exit ≠ .empty ∧ x = S.exit)) = _
  rw [e2, h.exit]
  simp [Rs]
end
theorem gok_mk {S : Sess} (hS : SessOk S) {t : ByteArray} {k : Nat} {hs ts : List ByteArray} {hsel : Nat} {sel vs : Int} {tmp : List Pk} {ls : List ByteArray} (ht : Prn t) (hts : t.size ≤ 100) (hk : k ≤ t.size) (hsl : sel = -1 ∨ ∃ i : Nat, sel = i ∧ i < tmp.length) (v0 : 0 ≤ vs) (hm : ∀ x ∈ tmp, x ∈ S.offs) (hl : tmp.length ≤ 12)
    (hw : vs + (min S.most tmp.length : Nat) ≤ tmp.length) (hh : ∀ x ∈ hs, Prn x ∧ x.size ≤ 100) (hhl : hs.length ≤ 10) (hT : ∀ x ∈ ts, Prn x ∧ x.size ≤ 100) (hTl : ts.length ≤ 10) (hse : hsel < ts.length) (hls : ls.length ≤ 10) : GOk S ⟨t, k, hs, ts, hsel, sel, vs, tmp, ls⟩ :=
  ⟨fun I x hId => ⟨ht, Nat.le_trans hts (by omega), hk, hsl, v0, by show vs ≤ 1000; omega, by show tmp.length ≤ 1000; omega, fun y hy => by
      have e : I.q.offs = S.offs := by rw [hId.q]; rfl
      rw [e]; exact hm y hy, fun y hy => ⟨(hh y hy).1, Nat.le_trans (hh y hy).2 (by omega)⟩, by show hs.length ≤ 1000; omega, fun y hy => ⟨(hT y hy).1, Nat.le_trans (hT y hy).2 (by omega)⟩, by show ts.length ≤ 1001; omega, hse, by show ls.length ≤ 900; omega⟩, hl, hw⟩

section
variable {S : Sess} {words begun : ByteArray}
theorem one_empty : ∀ x ∈ ([.empty] : List ByteArray), Prn x ∧ x.size ≤ 100 := fun x hx => by
  rw [List.mem_singleton] at hx; subst hx
  exact ⟨prn_empty, by decide⟩
theorem zs_ok (h : CS S) (b : Bool) : GOk S (Zs (if b then S.offs else [])) := by
  have := h.ok.hol
  cases b
  · exact gok_mk h.ok prn_empty (by decide) (by decide) (.inl rfl) (by omega) (fun x hx => by cases hx) (by simp) (by simp) (fun x hx => by cases hx) (by simp) one_empty (by simp) (by simp) (by simp)
  · exact gok_mk h.ok prn_empty (by decide) (by decide) (.inl rfl) (by omega) (fun x hx => hx) this (by show (0 : Int) + (min S.most S.offs.length : Nat) ≤ S.offs.length; omega) (fun x hx => by cases hx) (by simp) one_empty (by simp) (by simp) (by simp)
theorem fit_mem {b : ByteArray} {offs : List Pk} : ∀ x ∈ fit b offs, x ∈ offs := fun x hx => (List.mem_filter.1 hx).1
theorem fit_len {b : ByteArray} {offs : List Pk} : (fit b offs).length ≤ offs.length := List.length_filter_le _ _
theorem ts_ok (h : CS S) (hw : Word words begun) {sel vs : Int} (hsl : sel = -1 ∨ ∃ i : Nat, sel = i ∧ i < (fit begun S.offs).length) (v0 : 0 ≤ vs) (hv : vs + (min S.most (fit begun S.offs).length : Nat) ≤ (fit begun S.offs).length) : GOk S (Ts (words ++ begun) (fit begun S.offs) sel vs) := by
  have := h.ok.hol
  have h9 := fit_len (b := begun) (offs := S.offs)
  have hz := hw.sz
  exact gok_mk h.ok (prn_append hw.pw hw.pb) (by rw [ByteArray.size_append]; omega) (Nat.le_refl _) hsl v0 fit_mem (by omega) hv (fun x hx => by cases hx) (by simp) one_empty (by simp) (by simp) (by simp)
theorem rs_ok (h : CS S) {x : ByteArray} (hx : Prn x) (hz : x.size ≤ 100) : GOk S (Rs x S.offs) := by
  have := h.ok.hol
  refine gok_mk h.ok prn_empty (by decide) (by decide) (.inl rfl) (by omega) (fun x hx => hx) this (by show (0 : Int) + (min S.most S.offs.length : Nat) ≤ S.offs.length; omega) (fun y hy => ?_) (by simp) (fun y hy => ?_) (by simp) (by simp) (by simp)
  · rw [List.mem_singleton] at hy; subst hy; exact ⟨hx, hz⟩
  · simp only [List.mem_cons, List.not_mem_nil, or_false] at hy
    rcases hy with rfl | rfl
    · exact ⟨hx, hz⟩
    · exact ⟨prn_empty, by decide⟩
theorem gkey_tab : GKey tabT := .inr (.inr (by decide))
theorem gkey_ret : GKey retT := .inr (.inl (by decide))

theorem ts_okj (h : CS S) (hw : Word words begun) (j : Nat) (hj : j ≤ (fit begun S.offs).length) : GOk S (Ts (words ++ begun) (fit begun S.offs) ((j : Int) - 1) (Vs S.most j)) := by
  refine ts_ok h hw ?_ (by unfold Vs; omega) (by unfold Vs; omega)
  cases j with
  | zero => exact .inl rfl
  | succ j => exact .inr ⟨j, by omega, by omega⟩

theorem goes_tabs (h : CS S) (hw : Word words begun) : ∀ n, n ≤ (fit begun S.offs).length → GoesG S (Ts (words ++ begun) (fit begun S.offs) (((0 : Nat) : Int) - 1) (Vs S.most 0)) (List.replicate n tabT) (Ts (words ++ begun) (fit begun S.offs) ((n : Int) - 1) (Vs S.most n))
  | 0, _ => ⟨ts_okj h hw 0 (Nat.zero_le _), rfl⟩
  | n + 1, hn => by
    rw [List.replicate_succ']
    exact (goes_tabs h hw n (by omega)).append ⟨ts_okj h hw n (by omega), gkey_tab, _, step_tab h hw n (by omega), ts_okj h hw (n + 1) hn, rfl⟩

/-- What is executed. -/
def wantOf (words begun : ByteArray) (F : List Pk) (n : Nat) : ByteArray := if n = 0 then words ++ begun else match F[n - 1]? with
  | some x => words ++ x.1
  | none => words ++ begun

theorem ne_of_size {x : ByteArray} (h : x.size ≠ 0) : x ≠ .empty := fun e => h (by rw [e]; rfl)

theorem comp_zero (h : CS S) (u : ByteArray) (F : List Pk) (vs : Int) : (Ts u F (-1) vs).comp (S.cp 0 0) S.down 13 = ⟨u, u.size, [], [.empty], 0, -1, 0, S.offs, []⟩ := by
  unfold PS.comp
  rw [if_neg (by omega), if_neg (by omega), if_neg (by omega), if_neg (by omega)]
  unfold PS.chosen
  rw [if_pos (show (Ts u F (-1) vs).sel = -1 from rfl)]
  rfl
theorem comp_pick (h : CS S) (hw : Word words begun) (F : List Pk) (i : Nat) (hi : i < F.length) (vs : Int) : (Ts (words ++ begun) F (i : Int) vs).comp (S.cp 0 0) S.down 13 = ⟨words ++ F[i].1, (words ++ F[i].1).size, [], [.empty], 0, -1, 0, S.offs, []⟩ := by
  unfold PS.comp
  rw [if_neg (by omega), if_neg (by omega), if_neg (by omega), if_neg (by omega)]
  unfold PS.chosen
  rw [if_neg (show ¬ (Ts (words ++ begun) F (i : Int) vs).sel = -1 from by show ¬ (i : Int) = -1; omega)]
  have et : (Ts (words ++ begun) F (i : Int) vs).text (Ts (words ++ begun) F (i : Int) vs).sel.toNat = F[i].1 := by
    show ((F[(i : Int).toNat]?).map Prod.fst).getD .empty = F[i].1
    simp [hi]
  rw [et]
  have ew : wordAt S.sep (words ++ begun) (words ++ begun).size = words.size := by rw [h.sep]; exact word_at hw
  have e1 : chosenT S.sep (words ++ begun) (words ++ begun).size F[i].1 = words ++ F[i].1 := by rw [h.sep]; exact chosen_text hw _
  show PS.mk (chosenT S.sep (words ++ begun) (words ++ begun).size F[i].1) (wordAt S.sep (words ++ begun) (words ++ begun).size + F[i].1.size) _ _ _ _ _ _ _ = _
  rw [e1, ew, ByteArray.size_append]
  rfl

theorem chosen_goes (h : CS S) (hw : Word words begun) (n : Nat) (hn : n ≤ (fit begun S.offs).length + 1) :
    GoesG S S.g0 ([words ++ begun] ++ List.replicate n tabT ++ [retT]) (Rs (wantOf words begun (fit begun S.offs) n) S.offs) := by
  have hz := hw.sz
  have hsz : (words ++ begun).size ≠ 0 := by rw [ByteArray.size_append]; have := hw.b0; omega
  have hup : Prn (words ++ begun) := prn_append hw.pw hw.pb
  have hus : (words ++ begun).size ≤ 40 := by rw [ByteArray.size_append]; omega
  have e0 : Ts (words ++ begun) (fit begun S.offs) (-1) 0 = Ts (words ++ begun) (fit begun S.offs) (((0 : Nat) : Int) - 1) (Vs S.most 0) := by
    have : Vs S.most 0 = 0 := by unfold Vs; simp
    rw [this]; rfl
  have h1 : GoesG S S.g0 [words ++ begun] (Ts (words ++ begun) (fit begun S.offs) (((0 : Nat) : Int) - 1) (Vs S.most 0)) := by
    rw [g0_is h, ← e0]
    exact ⟨zs_ok h _, .inl ⟨key_list hsz hup, by omega, hup⟩, _, step_text h hw _, by rw [e0]; exact ts_okj h hw 0 (Nat.zero_le _), rfl⟩
  have hend : GoesG S (Ts (words ++ begun) (fit begun S.offs) (((0 : Nat) : Int) - 1) (Vs S.most 0)) [retT] (Rs (words ++ begun) S.offs) := by
    rw [← e0]
    exact ⟨by rw [e0]; exact ts_okj h hw 0 (Nat.zero_le _), gkey_ret, _, step_ret h (ne_of_size hsz) (comp_zero h _ _ _), rs_ok h hup (by omega), rfl⟩
  refine (h1.append ?_).append (s1 := ?_) ?_
  rotate_left
  · by_cases hl : n ≤ (fit begun S.offs).length
    · exact Ts (words ++ begun) (fit begun S.offs) ((n : Int) - 1) (Vs S.most n)
    · exact Ts (words ++ begun) (fit begun S.offs) (((0 : Nat) : Int) - 1) (Vs S.most 0)
  · by_cases hl : n ≤ (fit begun S.offs).length
    · rw [dif_pos hl]
      cases n with
      | zero =>
        unfold wantOf
        rw [if_pos rfl]
        exact hend
      | succ n =>
        have hi : n < (fit begun S.offs).length := by omega
        have hx := h.ok.ho _ (fit_mem _ (List.getElem_mem hi))
        have ex : wantOf words begun (fit begun S.offs) (n + 1) = words ++ (fit begun S.offs)[n].1 := by
          unfold wantOf
          rw [if_neg (by omega), Nat.add_sub_cancel, List.getElem?_eq_getElem hi]
        rw [ex]
        have e9 : (((n + 1 : Nat) : Int) - 1) = (n : Int) := by omega
        refine ⟨ts_okj h hw (n + 1) hl, gkey_ret, _, step_ret h (x := words ++ (fit begun S.offs)[n].1) (ne_of_size ?_) ?_, rs_ok h (prn_append hw.pw hx.1) ?_, rfl⟩
        · rw [ByteArray.size_append]; have := hx.2.2.2.2; omega
        · rw [e9]; exact comp_pick h hw _ n hi _
        · rw [ByteArray.size_append]; have := hx.2.1; omega
    · rw [dif_neg hl]
      have ex : wantOf words begun (fit begun S.offs) n = words ++ begun := by
        unfold wantOf
        rw [if_neg (by omega), List.getElem?_eq_none (by omega)]
      rw [ex]
      exact hend
  · by_cases hl : n ≤ (fit begun S.offs).length
    · rw [dif_pos hl]
      exact goes_tabs h hw n hl
    · rw [dif_neg hl]
      have en : n = (fit begun S.offs).length + 1 := by omega
      rw [en, List.replicate_succ', ← e0]
      refine GoesG.append (by rw [e0]; exact goes_tabs h hw _ (Nat.le_refl _)) ⟨ts_okj h hw _ (Nat.le_refl _), gkey_tab, _, step_tab_last h hw _ rfl, by rw [e0]; exact ts_okj h hw 0 (Nat.zero_le _), rfl⟩
end
end Go.Proofs.YtiepopbmbgfhkaaGreat

namespace Go.Proofs.YtiepopbmbgfhkaaGreat
open Go.RowKit
set_option maxHeartbeats 16000000
set_option maxRecDepth 20000
set_option linter.unusedVariables false
set_option linter.unusedSimpArgs false

theorem wp_appos {o : Oper} {a : Act} {w : World} {K : Act → World → Prop} {Q : Exit → Act → World → Prop} {base : Nat} {v : Value} {xs ys : List ByteArray} {b c : Nat} (s x : Operand) (ho : o.op = .call { callee := .builtin .append, args := #[s, x], argTypes := #[23, 23] })
    (hs : a.eval s = v) (hx : a.eval x = .slice (some ⟨b, 0, none⟩) ys.length c) (hr : OS base w v xs) (hd : Blk w b (ys.map Value.string).toArray 9) (hlen : xs.length + ys.length ≤ 1000000) (hb : base ≤ w.heap.size)
    (h : ∀ p n c w', OS base w' (.slice p n c) (xs ++ ys) → ((Value.slice p n c).ownBlock = v.ownBlock ∨ (Value.slice p n c).ownBlock = some w.heap.size) → Fr base [] v.ownBlock.toList w w' → K (a.put o.dst (.slice p n c)) w') : o.wp Tryz.prog a w K Q := by
  obtain ⟨i, h1, h2, h3, h4⟩ := info9
  obtain ⟨v', w', hrun, hown', hgr, hnil, hat⟩ := run_append_own_at (P := Tryz.prog) w base 23 o.type 9 i (.string .empty) 1 16 (by kernel_rfl) h1 h2 h3 h4 rfl (by decide) v xs.length _ hr
    ⟨b, 0, none⟩ ys.length c (ys.map Value.string) (by simp) (fun j u hj => by
      rw [add_at, hd.cell]
      rw [← hj]
      simp)
    (fun u hu => by simp only [List.mem_map] at hu; obtain ⟨t, -, rfl⟩ := hu; rfl) (by simp only [maxLen]; omega) (by omega) hb
  have hP : OS base w' v' (xs ++ ys) := by unfold OS; rw [List.length_append]; simpa using hown'
  obtain ⟨p, c', rfl⟩ := hP.form
  unfold Oper.wp execOp
  simp only [ho, resolve, invoke, builtin, Sem.run_bind, Sem.run_pure, Result.andThen_ok, List.map_toArray, List.map_cons, List.map_nil, hs, hx, hrun]
  exact h p _ c' w' hP hat ((Fr.refl base [] _ w).grown hgr fun k hk => by
    obtain ⟨e1, -⟩ := row_blk hr k hk
    exact ⟨e1, .inl (by rw [hk]; simp)⟩)
theorem fr_append {w wa w1 : World} {v : Value} {xs : List ByteArray} {M : Nat} (h : Fr 0 [] [] w wa) (hO : OS M wa v xs) (hM : w.heap.size = M) (k : Fr M [] v.ownBlock.toList wa w1) : Fr 0 [] [] w w1 :=
  h.step (k.base_mono (Nat.zero_le _)) (by simp) fun y hy => by
    have hy : v.ownBlock = some y := by simpa using hy
    obtain ⟨e1, -⟩ := row_blk hO y hy
    exact .inr (.inl (by omega))
theorem blk_append {wa w1 : World} {v : Value} {xs : List ByteArray} {M b : Nat} {cs : Array Value} {t : TypeId} (hB : Blk wa b cs t) (h9 : t ≠ 9) (hO : OS M wa v xs) (k : Fr M [] v.ownBlock.toList wa w1) : Blk w1 b cs t :=
  k.blk hB (.inr ⟨fun hy => by
    have hy : v.ownBlock = some b := by simpa using hy
    obtain ⟨-, ds, e⟩ := row_blk hO b hy
    exact h9 (hB.inj e).2, by simp⟩)
theorem os_lt {w : World} {v : Value} {xs : List ByteArray} {M : Nat} (hO : OS M w v xs) : ∀ A n c, v = .slice (some A) n c → A.block < w.heap.size := fun A n c e => by
  obtain ⟨h1, ⟨rfl, h2⟩ | ⟨g, cap, cur, rfl, hb, hg, hn, hcap, hsz, hx⟩⟩ := hO
  · simp at e
  · simp only [Value.slice.injEq, Option.some.injEq] at e
    rw [← e.1]
    exact Blk.lt hg
theorem os_append {M N : Nat} {wa w1 : World} {v vs : Value} {ys : List ByteArray} (hS : OS N wa vs ys) (hD : ∀ g, v.ownBlock = some g → vs.ownBlock ≠ some g) (k : Fr M [] v.ownBlock.toList wa w1) : OS N w1 vs ys :=
  hS.fr k (fun g hg hy => hD g (by simpa using hy) hg) (by simp)
theorem dis_append {N : Nat} {wa : World} {v v' vs : Value} {ys : List ByteArray} (hS : OS N wa vs ys) (hD : ∀ g, v.ownBlock = some g → vs.ownBlock ≠ some g) (hat : v'.ownBlock = v.ownBlock ∨ v'.ownBlock = some wa.heap.size) : ∀ g, v'.ownBlock = some g → vs.ownBlock ≠ some g := by
  intro g hg hs
  rcases hat with e | e
  · exact hD g (e ▸ hg) hs
  · rw [hg] at e
    obtain ⟨-, ds, hb⟩ := row_blk hS g hs
    have := hb.lt
    injection e with e
    omega

/-- A session without history, line, separators, exit. -/
def Raw.strip (S : Raw) : Raw := ⟨S.pre, S.most, S.cols, S.down, S.start, .empty, .empty, S.plain, .empty, S.offs, []⟩
theorem strip_cells (S : Raw) (ov : Value) : S.strip.cells ov (.slice none 0 0) = #[.string S.pre, ov, .int .i64 S.most, .int .i64 S.cols, .bool S.down, .bool S.start, .string ⟨#[]⟩, .slice none 0 0, .string ⟨#[]⟩, .bool S.plain, .string ⟨#[]⟩] := rfl
def stripW (w : World) (M : Nat) : World := (((w.setCell ⟨M, 7, none⟩ (.slice none 0 0)).setCell ⟨M, 8, none⟩ (.string ⟨#[]⟩)).setCell ⟨M, 6, none⟩ (.string ⟨#[]⟩)).setCell ⟨M, 10, none⟩ (.string ⟨#[]⟩)
theorem stripW_ok {w w1 : World} {M : Nat} {S : Raw} {ov hv : Value} (hB : Blk w1 M (S.cells ov hv) 25) (hF : Fr 0 [] [] w w1) (hM : w.heap.size ≤ M) :
    Blk (stripW w1 M) M (S.strip.cells ov (.slice none 0 0)) 25 ∧ Fr 0 [] [] w (stripW w1 M) := by
  have st : ∀ (W : World) (i : Nat) (v : Value), Fr 0 [] [] w W → Fr 0 [] [] w (W.setCell ⟨M, i, none⟩ v) := fun W i v h => h.setCell (a := ⟨M, i, none⟩) (Nat.zero_le _) (.inr (.inl hM)) v
  refine ⟨?_, ?_⟩
  · have h := (((hB.set 7 (.slice none 0 0)).set 8 (.string ⟨#[]⟩)).set 6 (.string ⟨#[]⟩)).set 10 (.string ⟨#[]⟩)
    unfold Raw.cells at h
    simp only [List.setIfInBounds_toArray, List.set_cons_zero, List.set_cons_succ] at h
    rw [strip_cells]
    exact h
  · unfold stripW
    exact st _ _ _ (st _ _ _ (st _ _ _ (st _ _ _ hF)))
structure StripC (w : World) (M : Nat) (S : Raw) (ov : Value) : Prop where
  c0 : w.cell? ⟨M, 0, none⟩ = some (.string S.pre)
  c1 : w.cell? ⟨M, 1, none⟩ = some ov
  c2 : w.cell? ⟨M, 2, none⟩ = some (.int .i64 S.most)
  c3 : w.cell? ⟨M, 3, none⟩ = some (.int .i64 S.cols)
  c4 : w.cell? ⟨M, 4, none⟩ = some (.bool S.down)
  c5 : w.cell? ⟨M, 5, none⟩ = some (.bool S.start)
  c6 : w.cell? ⟨M, 6, none⟩ = some (.string ⟨#[]⟩)
  c7 : w.cell? ⟨M, 7, none⟩ = some (.slice none 0 0)
  c8 : w.cell? ⟨M, 8, none⟩ = some (.string ⟨#[]⟩)
  c9 : w.cell? ⟨M, 9, none⟩ = some (.bool S.plain)
  c10 : w.cell? ⟨M, 10, none⟩ = some (.string ⟨#[]⟩)
  lt : M < w.heap.size
theorem stripC {w : World} {M : Nat} {S : Raw} {ov : Value} (h : Blk w M (S.strip.cells ov (.slice none 0 0)) 25) : StripC w M S ov :=
  ⟨h.cell 0, h.cell 1, h.cell 2, h.cell 3, h.cell 4, h.cell 5, h.cell 6, h.cell 7, h.cell 8, h.cell 9, h.cell 10, h.lt⟩

theorem prn_of_append {a b : ByteArray} (h : Prn (a ++ b)) : Prn a ∧ Prn b := by
  refine ⟨fun i hi => ?_, fun i hi => ?_⟩
  · have h1 : i < (a ++ b).size := by rw [ByteArray.size_append]; omega
    have h9 := h i h1
    have e : (a ++ b)[i] = a[i] := by
      rw [← getD_lt h1, getD_append_l hi, getD_lt hi]
    rw [e] at h9
    exact h9
  · have h1 : a.size + i < (a ++ b).size := by rw [ByteArray.size_append]; omega
    have h9 := h _ h1
    have e : (a ++ b)[a.size + i] = b[i] := by
      rw [← getD_lt h1, getD_append_r (Nat.le_add_right _ _), Nat.add_sub_cancel_left, getD_lt hi]
    rw [e] at h9
    exact h9

/-- What is known where the law has looked at its input. -/
structure W4 (S : Raw) (words begun : ByteArray) : Prop where
  raw : RawOk S.strip
  w : words.size = 0 ∨ words.data.getD (words.size - 1) 0 = 32
  b0 : begun.size ≠ 0
  pw : Prn words
  pb : Prn begun
def R4Post (w wx : World) (M : Nat) (S : Raw) (ov : Value) (words begun : ByteArray) (v : Value) : Prop :=
  ∃ B : Bool, v = .bool B ∧ Fr 0 [] [] w wx ∧ Blk wx M (S.strip.cells ov (.slice none 0 0)) 25 ∧ (B = false → W4 S words begun)

theorem os_first {M : Nat} {w : World} {v : Value} {x : ByteArray} {xs : List ByteArray} (h : OS M w v (x :: xs)) : ∃ g c, v = .slice (some ⟨g, 0, none⟩) (xs.length + 1) c ∧ w.cell? ⟨g, 0, none⟩ = some (.string x) ∧ g < w.heap.size := by
  have hT := h.txIn
  obtain ⟨h1, ⟨rfl, h2⟩ | ⟨g, cap, cur, rfl, hb, hg, hn, hcap, hsz, hx⟩⟩ := h
  · simp at h2
  · refine ⟨g, cap, by simp, ?_, Blk.lt hg⟩
    rcases hT with ⟨e, -⟩ | ⟨b, o, c, e, hc⟩
    · cases e
    · simp only [Value.slice.injEq, Option.some.injEq, Addr.mk.injEq] at e
      obtain ⟨⟨rfl, rfl, -⟩, -⟩ := e
      exact hc 0 (by simp)
theorem os_new {M g : Nat} {w : World} {t : ByteArray} (hg : M ≤ g) (h : Blk w g #[.string t] 9) : OS M w (.slice (some ⟨g, 0, none⟩) 1 1) [t] :=
  ⟨rfl, .inr ⟨g, 1, #[.string t], rfl, hg, h, Nat.le_refl _, by decide, rfl, rfl⟩⟩

/-- What 'Prompted' leaves: its lines lie in a block of their own. -/
def PrompO (t : ByteArray) (k : Nat) (lines : List ByteArray) (n : Nat) (over : Bool) (w : World) (e : Ending) (w' : World) : Prop :=
  ∃ p c bs, e = .returned (.tuple #[.string bs, .agg #[.slice p n c, .string t, .int .i64 k, .bool over], .bool true]) ∧ OS w.heap.size w' (.slice p n c) lines ∧ Fr 0 [] [] w w'
theorem prompO {s : PS} {ov : Bool} {w w' : World} {e : Ending} {n : Nat} (h : PrompPost s ov w e w') (hn : s.lines.length = n) : PrompO s.t s.k s.lines n ov w e w' := by
  obtain ⟨vl, bs, he, hO, hF⟩ := h
  obtain ⟨p, c, rfl⟩ := hO.form
  rw [hn] at he hO
  exact ⟨p, c, bs, he, hO, hF⟩

theorem chosen_prompt {w : World} {S : Raw} {ov chv : Value} {words begun : ByteArray} {n : Nat} (hR : RawOk S.strip) (hW : Word words begun) (hn : n ≤ (fit begun S.offs).length + 1) (hw : 1 ≤ w.heap.size) (ht : Tab w) (hO : PkIn w ov S.offs)
    (hCh : TxIn w chv ([words ++ begun] ++ List.replicate n tabT ++ [retT])) (hChN : ∀ A n c, chv = .slice (some A) n c → A.block < w.heap.size) :
    Calls Tryz.prog 12 #[.agg (S.strip.cells ov (.slice none 0 0)), chv] w (PrompO .empty 0 [wantOf words begun (fit begun S.offs) n] 1 false w) := by
  have hS := Raw.sess_ok hR
  have hC : CS S.strip.sess := ⟨hS, rfl, rfl, rfl, rfl⟩
  obtain ⟨a1, a2, a3⟩ := (chosen_goes hC hW n hn).play
  have hcol : S.strip.sess.pre.size + 13 ≤ S.strip.sess.cols := by
    have h1 := hR.c3
    have h2 := hR.c1
    show S.strip.pre.size + 13 ≤ S.strip.cols.toNat
    omega
  have hl : (fit begun S.offs).length ≤ 12 := Nat.le_trans fit_len hS.hol
  have h := prompted_g hS hcol hw ht hO (.inl ⟨rfl, .inl rfl⟩ : TxIn w (.slice none 0 0) S.strip.sess.hist) hCh hChN (by simp only [List.length_append, List.length_replicate, List.length_singleton]; omega) a2 a3
  rw [a1, Raw.sess_cells hR] at h
  exact h.mono fun e w' h => prompO h rfl

theorem os_cell {M : Nat} {w : World} {p : Option Addr} {n c : Nat} {xs : List ByteArray} (h : OS M w (.slice p n c) xs) (i : Nat) (hi : i < xs.length) : ∃ g, p = some ⟨g, 0, none⟩ ∧ w.cell? ⟨g, i, none⟩ = some (.string xs[i]) ∧ g < w.heap.size := by
  have hT := h.txIn
  obtain ⟨h1, ⟨e, h2⟩ | ⟨g, cap, cur, e, hb, hg, hn, hcap, hsz, hx⟩⟩ := h
  · omega
  · simp only [Value.slice.injEq] at e
    obtain ⟨rfl, rfl, rfl⟩ := e
    refine ⟨g, rfl, ?_, Blk.lt hg⟩
    rcases hT with ⟨e, -⟩ | ⟨b, o, c, e, hc⟩
    · rw [e] at hi; simp at hi
    · simp only [Value.slice.injEq, Option.some.injEq, Addr.mk.injEq] at e
      obtain ⟨⟨rfl, rfl, -⟩, -⟩ := e
      have := hc i hi
      rwa [Nat.zero_add] at this

/-- A session is loaded whole. -/
theorem ex_load25 {o : Oper} {a : Act} {w : World} {M : Nat} {S : Raw} {ov : Value} {x : Operand} (ho : o.op = .load 25 x) (hx : a.eval x = .pointer (some ⟨M, 0, none⟩)) (h : Blk w M (S.strip.cells ov (.slice none 0 0)) 25) :
    (execOp a.eval o).run Tryz.prog w = .ok (.value (.agg (S.strip.cells ov (.slice none 0 0)))) w := by
  obtain ⟨c0, c1, c2, c3, c4, c5, c6, c7, c8, c9, c10, cl⟩ := stripC h
  rw [strip_cells]
  unfold execOp
  simp only [ho, hx]
  go_simp

/-- What the last call of 'Prompted' leaves, and the law's own variables. -/
def R29Post (w wx : World) (WT : ByteArray) (v17 v18 v19 : Value) : Prop :=
  ∃ X vp vc bs, v17 = .string bs ∧ v18 = .pointer (some ⟨X, 0, none⟩) ∧ v19 = .bool true ∧ Blk wx X #[.slice vp 1 vc, .string .empty, .int .i64 0, .bool false] 31 ∧ TxIn wx (.slice vp 1 vc) [WT] ∧ Fr 0 [] [] w wx

/-- The keys and the session, while the last key is appended. -/
structure P0 (w : World) (M : Nat) (cs : Array Value) (kv : Value) (ks : List ByteArray) (W : World) : Prop where
  fr : Fr 0 [] [] w W
  bl : Blk W M cs 25
  os : OS M W kv ks
theorem P0.fr0 {w : World} {M base : Nat} {cs : Array Value} {kv : Value} {ks : List ByteArray} {W W1 : World} (h : P0 w M cs kv ks W) (hF : Fr base [] [] W W1) : P0 w M cs kv ks W1 :=
  ⟨h.fr.ext hF, hF.blk0 h.bl, h.os.fr0 hF⟩
theorem P0.alloc {w : World} {M : Nat} {cs : Array Value} {kv : Value} {ks : List ByteArray} {W : World} (h : P0 w M cs kv ks W) (o : Obj) : P0 w M cs kv ks (W.alloc o) := h.fr0 ((Fr.refl 0 [] [] W).alloc o)
theorem P0.app {w : World} {M : Nat} {cs : Array Value} {kv kv' : Value} {ks ks' : List ByteArray} {W W1 : World} (h : P0 w M cs kv ks W) (hM : w.heap.size = M) (hO : OS M W1 kv' ks') (hF : Fr M [] kv.ownBlock.toList W W1) : P0 w M cs kv' ks' W1 :=
  ⟨fr_append h.fr h.os hM hF, blk_append h.bl (by decide) h.os hF, hO⟩
theorem P0.sz {w : World} {M : Nat} {cs : Array Value} {kv : Value} {ks : List ByteArray} {W : World} (h : P0 w M cs kv ks W) (hM : w.heap.size = M) : M ≤ W.heap.size := by have := h.fr.size; omega

/-- A stand's cells are written. -/
theorem stand_set {W : World} {X : Nat} {a0 a1 a2 a3 v0 v1 v2 v3 : Value} (h : Blk W X #[a0, a1, a2, a3] 31) :
    Blk ((((W.setCell ⟨X, 0, none⟩ v0).setCell ⟨X, 1, none⟩ v1).setCell ⟨X, 2, none⟩ v2).setCell ⟨X, 3, none⟩ v3) X #[v0, v1, v2, v3] 31 ∧ Fr 0 [] [X] W ((((W.setCell ⟨X, 0, none⟩ v0).setCell ⟨X, 1, none⟩ v1).setCell ⟨X, 2, none⟩ v2).setCell ⟨X, 3, none⟩ v3) := by
  refine ⟨?_, ?_⟩
  · have h2 := (((h.set 0 v0).set 1 v1).set 2 v2).set 3 v3
    simp only [List.setIfInBounds_toArray, List.set_cons_zero, List.set_cons_succ] at h2
    exact h2
  · have st : ∀ (V : World) (i : Nat) (v : Value), Fr 0 [] [X] W V → Fr 0 [] [X] W (V.setCell ⟨X, i, none⟩ v) := fun V i v h => h.setCell (a := ⟨X, i, none⟩) (Nat.zero_le _) (.inl (by simp)) v
    exact st _ _ _ (st _ _ _ (st _ _ _ (st _ _ _ (Fr.refl _ _ _ _))))

theorem r29_new {w W : World} {Bs M : Nat} {cs : Array Value} {kv : Value} {ks : List ByteArray} {vp : Option Addr} {vc : Nat} {bs WT : ByteArray} (hP : P0 w M cs kv ks W) (hT : OS Bs W (.slice vp 1 vc) [WT]) :
    R29Post w (W.alloc (.cells #[.slice vp 1 vc, .string .empty, .int .i64 0, .bool false] 31)) WT (.string bs) (.pointer (some ⟨W.heap.size, 0, none⟩)) (.bool true) :=
  ⟨W.heap.size, vp, vc, bs, rfl, rfl, rfl, Blk.new _ _ _, (hT.fr0 ((Fr.refl 0 [] [] W).alloc (.cells #[.slice vp 1 vc, .string .empty, .int .i64 0, .bool false] 31))).txIn, hP.fr.alloc _⟩
theorem r29_end {w W : World} {X Bs M : Nat} {cs : Array Value} {kv : Value} {ks : List ByteArray} {vp : Option Addr} {vc : Nat} {bs WT : ByteArray} {a0 a1 a2 a3 : Value} (hP : P0 w M cs kv ks W) (hX : Blk W X #[a0, a1, a2, a3] 31) (hXs : w.heap.size ≤ X) (hT : OS Bs W (.slice vp 1 vc) [WT]) :
    R29Post w ((((W.setCell ⟨X, 0, none⟩ (.slice vp 1 vc)).setCell ⟨X, 1, none⟩ (.string .empty)).setCell ⟨X, 2, none⟩ (.int .i64 0)).setCell ⟨X, 3, none⟩ (.bool false)) WT (.string bs) (.pointer (some ⟨X, 0, none⟩)) (.bool true) := by
  obtain ⟨h1, h2⟩ := stand_set (v0 := .slice vp 1 vc) (v1 := .string .empty) (v2 := .int .i64 0) (v3 := .bool false) hX
  refine ⟨X, vp, vc, bs, rfl, rfl, rfl, h1, (hT.fr h2 (fun g hg hm => ?_) (by simp)).txIn, hP.fr.step h2 (by simp) (fun y hy => .inr (.inl (by simp at hy; omega)))⟩
  simp only [List.mem_singleton] at hm
  obtain ⟨-, ds, hb⟩ := row_blk hT g hg
  subst hm
  exact absurd (hb.inj hX).2 (by decide)

theorem chosen_c {w : World} {S : Raw} {ov hv : Value} {words begun : ByteArray} {tabs : Nat} (hw : 1 ≤ w.heap.size) (ht : Tab w) (hO : PkIn w ov S.offs) (hH : TxIn w hv S.hist) (hps : S.pre.size ≤ 9223372036854775807)
    (hos : ∀ x ∈ S.offs, x.1.size ≤ 9223372036854775807 ∧ x.2.size ≤ 9223372036854775807) (hwz : words.size ≤ 9223372036854775807) (hbz : begun.size ≤ 9223372036854775807) (htb : tabs ≤ 255) :
    Calls Tryz.prog 3 #[.agg (S.cells ov hv), .string words, .string begun, .int .u8 tabs] w (LawPost w) := by
  obtain ⟨oA, oc, rfl⟩ := hO.form
  obtain ⟨hA, hcc, rfl⟩ := hH.form
  obtain ⟨M, hM⟩ : ∃ M, w.heap.size = M := ⟨_, rfl⟩
  have hFa : Fr 0 [] [] w (w.alloc (.cells (S.cells (.slice oA S.offs.length oc) (.slice hA S.hist.length hcc)) 25)) := (Fr.refl _ _ _ _).alloc _
  have hB : Blk (w.alloc (.cells (S.cells (.slice oA S.offs.length oc) (.slice hA S.hist.length hcc)) 25)) M (S.cells (.slice oA S.offs.length oc) (.slice hA S.hist.length hcc)) 25 := Blk.new' hM.symm _ _
  have h9 := fits1_c (S := S) (hO.fr hFa) (hH.fr hFa)
  have HOS := Lib.hid hos
  clear hos
  unfold Raw.cells at h9 hB hFa ⊢
  go_enter Tryz.func3, Tryz.ntmps3
  go_wp2_with (fail)
  refine h9.mono ?_
  rintro e w1 ⟨⟨r, rfl⟩, hF1⟩
  have hF01 := hFa.trans hF1
  have hB1 := hF1.blk0 hB
  clear h9 hFa hF1 hB
  cases r with
  | false =>
    go_wp2_with (fail)
    go_ret
    exact ⟨rfl, hF01⟩
  | true =>
  by_cases z1 : (2147483647 : Int) < words.size
  · go_wp2_with (fail)
    go_ret
    exact ⟨rfl, hF01⟩
  by_cases z2 : (2147483647 : Int) < begun.size
  · go_wp2_with (fail)
    go_ret
    exact ⟨rfl, hF01⟩
  have c0 := hB1.cell 0
  have c1 := hB1.cell 1
  have c2 := hB1.cell 2
  have c3 := hB1.cell 3
  have c4 := hB1.cell 4
  have c5 := hB1.cell 5
  have c6 := hB1.cell 6
  have c7 := hB1.cell 7
  have c8 := hB1.cell 8
  have c9 := hB1.cell 9
  have c10 := hB1.cell 10
  have f6 := hB1.frozen 6
  have f7 := hB1.frozen 7
  have f8 := hB1.frozen 8
  have f10 := hB1.frozen 10
  have cl := hB1.lt
  simp only [List.getElem?_toArray, List.getElem?_cons_zero, List.getElem?_cons_succ] at c0 c1 c2 c3 c4 c5 c6 c7 c8 c9 c10
  obtain ⟨hB3, hF03⟩ := stripW_ok (S := S) hB1 hF01 (Nat.le_of_eq hM)
  have h10 := right_c (S := S.strip) (w := stripW w1 M) (ov := .slice oA S.offs.length oc) (hv := .slice none 0 0) (hO.fr hF03) (.inl ⟨rfl, .inl rfl⟩) hps HOS.out
  rw [strip_cells] at h10
  obtain ⟨W2, hW2⟩ : ∃ W2, stripW w1 M = W2 := ⟨_, rfl⟩
  rw [hW2] at hB3 hF03 h10
  obtain ⟨d0, d1, d2, d3, d4, d5, d6, d7, d8, d9, d10, dl⟩ := stripC hB3
  unfold stripW at hW2
  go_upto_region 4 with (fail)
  clear hW2
  go_cut [72] from 37 to 72 (fun v72 wx => R4Post w wx M S (.slice oA S.offs.length oc) words begun v72)
  case first =>
    go_wp2_with (fail)
    refine h10.mono ?_
    clear d0 d1 d2 d3 d4 d5 d6 d7 d8 d9 d10 dl
    clear c0 c1 c2 c3 c4 c5 c6 c7 c8 c9 c10 f6 f7 f8 f10 cl h10 hB1 hF01
    rintro e w4 ⟨⟨r, rfl, hr⟩, hF4⟩
    have hB4 := hF4.blk0 hB3
    have hF04 := hF03.trans hF4
    clear hF4 hF03 hB3
    have no : R4Post w w4 M S (.slice oA S.offs.length oc) words begun (.bool true) := ⟨true, rfl, hF04, hB4, fun h => by cases h⟩
    cases r with
    | false =>
      go_wp2_with (fail)
      go_meet
      exact no
    | true =>
    have HR := Lib.hid (hr rfl)
    clear hr
    by_cases q1 : (40 : Int) < words.size
    · go_wp2_with (fail)
      go_meet
      exact no
    by_cases q2 : (20 : Int) < begun.size
    · go_wp2_with (fail)
      go_meet
      exact no
    have hw40 : words.size ≤ 40 := by omega
    have hb20 : begun.size ≤ 20 := by omega
    clear z1 z2
    have hus : (words ++ begun).size ≤ 60 := by rw [ByteArray.size_append]; omega
    go_wp2_with (first | (refine wpList_plain rfl (fun K hK => ?_); refine wp_of_exec (ex_add rfl rfl rfl ?_) ?_; (omega); refine hK _ _ ?_; clear hK K))
    refine (printable_c (words ++ begun) (by omega) _).mono ?_
    rintro e w5 ⟨rfl, rfl⟩
    cases p1 : prB (words ++ begun) with
    | false =>
      go_wp2_with (fail)
      go_meet
      exact no
    | true =>
    have HPB := Lib.hid (prn_of_append (prB_prn p1).1)
    clear p1
    obtain ⟨ew, hew⟩ : ∃ ew, words.toList.isEmpty = ew := ⟨_, rfl⟩
    have hew2 : ew = true → words.toList = [] := fun e => by rw [← hew] at e; simpa using e
    have hew3 : ew = false → words.toList ≠ [] := fun e e2 => by rw [e2] at hew; rw [← hew] at e; simp at e
    have HEW := Lib.hid (show ew = decide (words.size = 0) by rw [← hew, str_empty])
    obtain ⟨eb, heb⟩ : ∃ eb, begun.toList.isEmpty = eb := ⟨_, rfl⟩
    have heb2 : eb = true → begun.toList = [] := fun e => by rw [← heb] at e; simpa using e
    have heb3 : eb = false → begun.toList ≠ [] := fun e e2 => by rw [e2] at heb; rw [← heb] at e; simp at e
    have HEB := Lib.hid (show eb = decide (begun.size = 0) by rw [← heb, str_empty])
    cases ew with
    | true =>
      have hE1 := hew2 rfl
      clear hew2 hew3
      cases eb with
      | true =>
        have hE2 := heb2 rfl
        clear heb2 heb3
        go_wp2_with (fail)
        go_meet
        exact no
      | false =>
        have hE2 := heb3 rfl
        clear heb2 heb3
        go_wp2_with (fail)
        go_meet
        exact ⟨false, congrArg Value.bool (by simp; omega), hF04, hB4, fun _ => ⟨HR.out, .inl (by have := HEW.out; simpa using this.symm), by have := HEB.out; simpa using this.symm, HPB.out.1, HPB.out.2⟩⟩
    | false =>
      have hE1 := hew3 rfl
      clear hew2 hew3
      have hws : words.size ≠ 0 := by have := HEW.out; simpa using this.symm
      obtain ⟨WL, hWL⟩ : ∃ WL, words.size - 1 = WL := ⟨_, rfl⟩
      have hwl : (words.size : Int) - 1 = WL := by omega
      have hWL2 : WL < words.size := by omega
      have hWL3 : (WL : Int) < words.size := by omega
      have HWL := Lib.hid hWL
      clear hWL
      by_cases h32 : words[WL] = 32
      · have g1 : ((words[WL].toNat : Int) != 32) = false := by rw [h32]; rfl
        have H32 := Lib.hid h32
        clear h32
        cases eb with
        | true =>
          have hE2 := heb2 rfl
          clear heb2 heb3
          go_wp2_with (fail)
          go_meet
          exact no
        | false =>
          have hE2 := heb3 rfl
          clear heb2 heb3
          go_wp2_with (fail)
          go_meet
          exact ⟨false, congrArg Value.bool (by simp; omega), hF04, hB4, fun _ => ⟨HR.out, .inr (by rw [HWL.out, getD_lt hWL2]; exact H32.out), by have := HEB.out; simpa using this.symm, HPB.out.1, HPB.out.2⟩⟩
      · have g1 : ((words[WL].toNat : Int) != 32) = true := by
          have : (words[WL].toNat : Int) ≠ 32 := fun e => h32 (UInt8.toNat_inj.1 (by show words[WL].toNat = 32; omega))
          simpa using this
        clear h32
        go_wp2_with (fail)
        go_meet
        exact no
  case rest =>
  clear d0 d1 d2 d3 d4 d5 d6 d7 d8 d9 d10 dl
  clear c0 c1 c2 c3 c4 c5 c6 c7 c8 c9 c10 f6 f7 f8 f10 cl h10 hB1 hF01 hF03 hB3
  obtain ⟨B, rfl, hF04, hB4, hfacts⟩ := hcut
  cases B with
  | true =>
    go_wp2_with (fail)
    go_ret
    exact ⟨rfl, hF04⟩
  | false =>
  have HW4 := Lib.hid (hfacts rfl)
  clear hfacts
  go_wp2_with (fail)
  go_loopw [9] (fun v9 w' => ∃ i : Nat, i ≤ begun.size ∧ v9 = .int .i64 i ∧ w' = wc ∧ ∀ j (hj : j < begun.size), j < i → begun[j] ≠ 32) (fun v9 _ => begun.size - (intOf v9).toNat)
  case atStart => exact ⟨0, by omega, rfl, rfl, fun j hj h => by omega⟩
  obtain ⟨i, hi, rfl, rfl, hnb⟩ := hrel
  have HNB := Lib.hid hnb
  clear hnb
  by_cases hlt : i < begun.size
  · have d1 : decide ((i : Int) < begun.size) = true := by simpa using hlt
    have d2 : (i : Int) < begun.size := by omega
    by_cases h32 : begun[i] = 32
    · have g1 : ((begun[i].toNat : Int) == 32) = true := by rw [h32]; rfl
      clear h32
      go_wp2_with (fail)
      go_ret
      exact ⟨rfl, hF04⟩
    · have g1 : ((begun[i].toNat : Int) == 32) = false := by
        have : (begun[i].toNat : Int) ≠ 32 := fun e => h32 (UInt8.toNat_inj.1 (by show begun[i].toNat = 32; omega))
        simpa using this
      have H32 := Lib.hid h32
      clear h32
      go_wp2_with (fail)
      go_roundw
      case rel =>
        refine ⟨i + 1, by omega, by simp, (by first | rfl | trivial), fun j hj h => ?_⟩
        by_cases e : j = i
        · subst e; exact H32.out
        · exact HNB.out j hj (by omega)
      case measure => simp [intOf]; omega
  have d1 : decide ((i : Int) < begun.size) = false := by simpa using hlt
  have d2 : ¬ (i : Int) < begun.size := by omega
  have HNB2 := Lib.hid (show ∀ j, j < begun.size → begun.data.getD j 0 ≠ 32 from fun j hj => by rw [getD_lt hj]; exact HNB.out j hj (by omega))
  clear HNB
  go_wp2_with (fail)
  clear d1 d2 hlt hi
  have hOc : ∀ j (hj : j < S.offs.length), ∃ b o, oA = some ⟨b, o, none⟩ ∧ w.cell? ⟨b, o + j * 2, none⟩ = some (.string S.offs[j].1) := fun j hj => by
    rcases hO with ⟨e, -⟩ | ⟨b, o, c, e, hc⟩
    · rw [e] at hj; simp at hj
    · simp only [Value.slice.injEq] at e
      exact ⟨b, o, e.1, (hc j hj).1⟩
  have HOC := Lib.hid hOc
  clear hOc
  obtain ⟨N, hN⟩ : ∃ N, S.offs.length = N := ⟨_, rfl⟩
  have hN12 : N ≤ 12 := by have := HW4.out.raw.hol; have h9 : S.offs.length ≤ 12 := this; omega
  have HN := Lib.hid hN
  simp only [hN]
  rw [hN] at hB4
  clear hN
  go_loopw [10, 11] (fun v10 v11 w' => ∃ i : Nat, i ≤ N ∧ v11 = .int .i64 i ∧ OS M w' v10 ((fit begun (S.offs.take i)).map Prod.fst) ∧ Fr 0 [] [] w w' ∧ Blk w' M (S.strip.cells (.slice oA N oc) (.slice none 0 0)) 25) (fun _ v11 _ => N - (intOf v11).toNat)
  case atStart => exact ⟨0, by omega, rfl, ⟨rfl, .inl ⟨rfl, rfl⟩⟩, hF04, hB4⟩
  clear hF04 hB4
  obtain ⟨i, hi, rfl, hOk, hF, hBl⟩ := hrel
  have c1 := (stripC hBl).c1
  have cl := (stripC hBl).lt
  by_cases hlt : i < N
  · have d1 : decide ((i : Int) < N) = true := by simpa using hlt
    have d2 : (i : Int) < N := by omega
    have hxi : i < S.offs.length := by rw [HN.out]; exact hlt
    obtain ⟨ob, of, rfl, ec⟩ := HOC.out i hxi
    have e1 := hF.cell0 ec
    have htz : S.offs[i].1.size ≤ 9223372036854775807 := (HOS.out _ (List.getElem_mem hxi)).1
    have htk := List.take_succ_eq_append_getElem hxi
    obtain ⟨x, hx⟩ : ∃ x, S.offs[i] = x := ⟨_, rfl⟩
    rw [hx] at e1 htz htk
    have hfl : (fit begun (S.offs.take i)).length ≤ 12 := by have := fit_len (b := begun) (offs := S.offs.take i); rw [List.length_take] at this; omega
    have HTK := Lib.hid htk
    clear ec hx htk
    obtain ⟨E, hE⟩ : ∃ E, ((x.1.extract 0 begun.size).toList == begun.toList) = E := ⟨_, rfl⟩
    have HE := Lib.hid hE
    by_cases hle : begun.size ≤ x.1.size
    · have g1 : decide ((begun.size : Int) ≤ x.1.size) = true := by simpa using hle
      have g2 : (begun.size : Int) ≤ x.1.size := by omega
      cases E with
      | true =>
        have hstep : (fit begun (S.offs.take (i + 1))).map Prod.fst = (fit begun (S.offs.take i)).map Prod.fst ++ [x.1] := by
          rw [HTK.out]
          unfold fit
          rw [List.filter_append, List.map_append]
          have : isPre begun x.1 = true := by unfold isPre; rw [HE.out]; simpa using hle
          simp [this]
        have HST := Lib.hid hstep
        clear hstep
        have hlen : ((fit begun (S.offs.take i)).map Prod.fst).length + ([x.1] : List ByteArray).length ≤ 1000000 := by rw [List.length_map]; simp; omega
        go_wp2_with (first | (refine wpList_plain rfl (fun K hK => ?_); refine wp_appos (base := M) (ys := [x.1]) _ _ rfl rfl rfl (hOk.fr0 ((Fr.refl 0 [] [] _).alloc _)) (Blk.new' rfl _ _) hlen (by have := hF.size; simp; omega) ?_; intro p' n' c' w7 hO7 hat hF7; refine hK _ _ ?_; clear hK K))
        go_roundw
        case rel =>
          have hFx : Fr 0 [] [] w (wr.alloc (.cells #[.string x.1] 9)) := hF.alloc _
          have hOx := hOk.fr0 ((Fr.refl 0 [] [] wr).alloc (.cells #[.string x.1] 9))
          exact ⟨i + 1, by omega, by simp, by rw [HST.out]; exact hO7, fr_append hFx hOx hM hF7, blk_append (hBl.alloc _) (by decide) hOx hF7⟩
        case measure => simp [intOf]; omega
      | false =>
        have hstep : (fit begun (S.offs.take (i + 1))).map Prod.fst = (fit begun (S.offs.take i)).map Prod.fst := by
          rw [HTK.out]
          unfold fit
          rw [List.filter_append, List.map_append]
          have : isPre begun x.1 = false := by unfold isPre; rw [HE.out]; simp
          simp [this]
        have HST := Lib.hid hstep
        clear hstep
        go_wp2_with (fail)
        go_roundw
        case rel => exact ⟨i + 1, by omega, by simp, by rw [HST.out]; exact hOk, hF, hBl⟩
        case measure => simp [intOf]; omega
    · have g1 : decide ((begun.size : Int) ≤ x.1.size) = false := by simpa using hle
      have g2 : ¬ (begun.size : Int) ≤ x.1.size := by omega
      have hstep : (fit begun (S.offs.take (i + 1))).map Prod.fst = (fit begun (S.offs.take i)).map Prod.fst := by
        rw [HTK.out]
        unfold fit
        rw [List.filter_append, List.map_append]
        have : isPre begun x.1 = false := by unfold isPre; simp; intro h; omega
        simp [this]
      have HST := Lib.hid hstep
      clear hstep hE
      go_wp2_with (fail)
      go_roundw
      case rel => exact ⟨i + 1, by omega, by simp, by rw [HST.out]; exact hOk, hF, hBl⟩
      case measure => simp [intOf]; omega
  have d1 : decide ((i : Int) < N) = false := by simpa using hlt
  have d2 : ¬ (i : Int) < N := by omega
  have ei : S.offs.take i = S.offs := List.take_of_length_le (by rw [HN.out]; omega)
  rw [ei] at hOk
  clear ei
  obtain ⟨F, hF9⟩ : ∃ F, fit begun S.offs = F := ⟨_, rfl⟩
  rw [hF9] at hOk
  have hFl : F.length ≤ 12 := by have := fit_len (b := begun) (offs := S.offs); rw [hF9, HN.out] at this; omega
  have HF9 := Lib.hid hF9
  clear hF9
  obtain ⟨FT, hFT⟩ : ∃ FT, F.map Prod.fst = FT := ⟨_, rfl⟩
  rw [hFT] at hOk
  have hfl : FT.length = F.length := by rw [← hFT]; simp
  have HFT := Lib.hid hFT
  clear hFT
  obtain ⟨fl, hfl2⟩ : ∃ fl, FT.length = fl := ⟨_, rfl⟩
  have HFL := Lib.hid (show F.length = fl from hfl.symm.trans hfl2)
  have hfl12 : fl ≤ 12 := by omega
  obtain ⟨fp, fc, rfl⟩ := hOk.form
  have HFL2 := Lib.hid hfl2
  rw [hfl2] at hOk ⊢
  clear hfl hFl hfl2
  obtain ⟨m2, hm2⟩ : ∃ m2, fl + 2 = m2 := ⟨_, rfl⟩
  have hm3 : (fl : Int) + 2 = m2 := by omega
  have hm4 : 2 ≤ m2 := by omega
  obtain ⟨n, hn⟩ : ∃ n, tabs % m2 = n := ⟨_, rfl⟩
  have hn2 : n < m2 := by rw [← hn]; exact Nat.mod_lt _ (by omega)
  have hnm : n ≤ fl + 1 := by omega
  have hmod : Int.tmod (tabs : Int) (m2 : Int) = (n : Int) := by rw [← hn]; rfl
  have hemod : (tabs : Int) % (m2 : Int) = (n : Int) := by rw [← hn]; simp
  have hm5 : ((m2 : Int) == 0) = false := (int_ne (by omega)).1
  clear hm2 hn hn2
  have hus : words.size + begun.size ≤ 9223372036854775807 := by omega
  obtain ⟨H, hH9⟩ : ∃ H, wr.heap.size = H := ⟨_, rfl⟩
  have hMH : M ≤ H := by have := hF.size; omega
  rw [hH9] at cl
  go_wp2_with (first | (refine wpList_plain rfl (fun K hK => ?_); refine wp_of_exec (ex_add rfl rfl rfl ?_) ?_; (omega); refine hK _ _ ?_; clear hK K))
  obtain ⟨u, hu⟩ : ∃ u, words ++ begun = u := ⟨_, rfl⟩
  have HU := Lib.hid hu
  simp only [hu]
  clear hu
  have hF1 : Fr 0 [] [] w (wr.alloc (.cells #[.string u] 9)) := hF.alloc _
  have hA1 : Fr 0 [] [] wr (wr.alloc (.cells #[.string u] 9)) := (Fr.refl 0 [] [] wr).alloc _
  have hK1 : OS M (wr.alloc (.cells #[.string u] 9)) (.slice (some ⟨H, 0, none⟩) 1 1) [u] := os_new hMH (Blk.new' hH9.symm _ _)
  have hD1 : ∀ g, (Value.slice (some ⟨H, 0, none⟩) 1 1).ownBlock = some g → (Value.slice fp fl fc).ownBlock ≠ some g := fun g hg hs => by
    have e : H = g := by simpa [Value.ownBlock] using hg
    obtain ⟨-, ds, hb⟩ := row_blk hOk g hs
    have := hb.lt
    omega
  have hO1 := hOk.fr0 hA1
  have hB1 := hA1.blk0 hBl
  clear hA1 hF hOk hBl c1 cl d1 d2 hlt hi hm3 hmod hemod hm5 hH9
  go_loopw [14, 15] (fun v14 v15 w' => ∃ j : Nat, j ≤ n ∧ v15 = .int .i64 j ∧ OS M w' v14 ([u] ++ List.replicate j tabT) ∧ OS M w' (.slice fp fl fc) FT ∧ (∀ g, v14.ownBlock = some g → (Value.slice fp fl fc).ownBlock ≠ some g) ∧ Fr 0 [] [] w w' ∧ Blk w' M (S.strip.cells (.slice oA N oc) (.slice none 0 0)) 25) (fun _ v15 _ => n - (intOf v15).toNat)
  case atStart => exact ⟨0, by omega, rfl, hK1, hO1, hD1, hF1, hB1⟩
  clear hK1 hO1 hD1 hF1 hB1
  obtain ⟨j, hj, rfl, hK, hOf, hD, hF, hBl⟩ := hrel
  by_cases hlt : j < n
  · have d1 : decide ((j : Int) < n) = true := by simpa using hlt
    have d2 : (j : Int) < n := by omega
    have hlen : ([u] ++ List.replicate j tabT).length + ([tabT] : List ByteArray).length ≤ 1000000 := by simp; omega
    go_wp2_with (first | (refine wpList_plain rfl (fun K hK9 => ?_); refine wp_appos (base := M) (ys := [tabT]) _ _ rfl rfl rfl (hK.fr0 ((Fr.refl 0 [] [] _).alloc _)) (Blk.new' rfl _ _) hlen (by have := hF.size; simp; omega) ?_; intro p' n' c' w7 hO7 hat hF7; refine hK9 _ _ ?_; clear hK9 K))
    go_roundw
    case rel =>
      have hA : Fr 0 [] [] wr (wr.alloc (.cells #[.string ⟨#[9]⟩] 9)) := (Fr.refl 0 [] [] wr).alloc _
      have hFx := hF.trans hA
      have hOx := hK.fr0 hA
      refine ⟨j + 1, by omega, by simp, ?_, os_append (hOf.fr0 hA) hD hF7, dis_append (hOf.fr0 hA) hD hat, fr_append hFx hOx hM hF7, blk_append (hBl.alloc _) (by decide) hOx hF7⟩
      rw [List.replicate_succ', ← List.append_assoc]
      exact hO7
    case measure => simp [intOf]; omega
  have d1 : decide ((j : Int) < n) = false := by simpa using hlt
  have d2 : ¬ (j : Int) < n := by omega
  have ej : j = n := by omega
  rw [ej] at hK
  clear ej hj
  obtain ⟨kg, kc, rfl, k0, klt⟩ := os_first (show OS M wr _ (u :: List.replicate n tabT) from hK)
  have hkl : (List.replicate n tabT).length + 1 = n + 1 := by simp
  rw [hkl] at hK ⊢
  clear hkl
  by_cases q40 : (40 : Int) < u.size
  · go_wp2_with (fail)
    go_ret
    exact ⟨rfl, hF⟩
  have hu40 : u.size ≤ 40 := by omega
  have HWD := Lib.hid (show Word words begun from ⟨HW4.out.w, HNB2.out, HW4.out.b0, HW4.out.pw, HW4.out.pb, by have h9 := HU.out; rw [← h9, ByteArray.size_append] at hu40; exact hu40⟩)
  have hus : words.size + begun.size ≤ 9223372036854775807 := by have h9 := HU.out; rw [← h9, ByteArray.size_append] at hu40; omega
  go_upto_region 27 with (first | (refine wpList_plain rfl (fun K hK => ?_); refine wp_of_exec (ex_add rfl rfl rfl ?_) ?_; (omega); refine hK _ _ ?_; clear hK K))
  simp only [HU.out]
  obtain ⟨BB, hBB⟩ : ∃ BB, decide (0 < n ∧ n ≤ fl) = BB := ⟨_, rfl⟩
  have HBB := Lib.hid hBB
  clear hBB d1 d2 hlt
  go_cut [146] from 139 to 146 (fun v146 wx => wx = wr ∧ v146 = .bool BB)
  case first =>
    by_cases h0 : n = 0
    · have g1 : decide ((0 : Int) < (n : Int)) = false := by simp; omega
      have g2 : ¬ (0 : Int) < (n : Int) := by omega
      have H0 := Lib.hid h0
      clear h0
      go_wp2_with (fail)
      go_meet
      refine ⟨rfl, ?_⟩
      rw [← HBB.out]
      congr 1
      have := H0.out
      simp; omega
    · have g1 : decide ((0 : Int) < (n : Int)) = true := by simp; omega
      have g2 : (0 : Int) < (n : Int) := by omega
      by_cases h1 : n ≤ fl
      · have g3 : decide ((n : Int) ≤ fl) = true := by simpa using h1
        have g4 : (n : Int) ≤ fl := by omega
        go_wp2_with (fail)
        go_meet
        refine ⟨rfl, ?_⟩
        rw [← HBB.out]
        congr 1
        simp; omega
      · have g3 : decide ((n : Int) ≤ fl) = false := by simpa using h1
        have g4 : ¬ (n : Int) ≤ fl := by omega
        go_wp2_with (fail)
        go_meet
        refine ⟨rfl, ?_⟩
        rw [← HBB.out]
        congr 1
        simp; omega
  case rest =>
  obtain ⟨rfl, rfl⟩ := hcut
  obtain ⟨WT, hWT⟩ : ∃ WT, wantOf words begun F n = WT := ⟨_, rfl⟩
  have HWT := Lib.hid hWT
  clear hWT
  go_upto_if 146 with (fail)
  go_cut [16] from 146 to 153 (fun v16 wx => wx = wc ∧ v16 = .string WT)
  case first =>
    cases BB with
    | true =>
      obtain ⟨hn0, hnl⟩ : 0 < n ∧ n ≤ fl := by simpa using HBB.out
      obtain ⟨n1, hn1⟩ : ∃ n1, n - 1 = n1 := ⟨_, rfl⟩
      have hn1i : (n : Int) - 1 = n1 := by omega
      have hn1l : n1 < fl := by omega
      have hn1l' : (n1 : Int) < fl := by omega
      have hFTl : n1 < FT.length := by rw [HFL2.out]; exact hn1l
      have hFl1 : n1 < F.length := by rw [HFL.out]; exact hn1l
      obtain ⟨fg, rfl, fcell, flt⟩ := os_cell hOf n1 hFTl
      obtain ⟨v, hv⟩ : ∃ v, FT[n1] = v := ⟨_, rfl⟩
      rw [hv] at fcell
      have hvF : F[n1].1 = v := by
        have h9 : (F.map Prod.fst)[n1]? = some v := by rw [HFT.out, List.getElem?_eq_getElem hFTl, hv]
        rw [List.getElem?_map, List.getElem?_eq_getElem hFl1] at h9
        simpa using h9
      have hvz : v.size ≤ 40 := by
        rw [← hvF]
        have hm : F[n1] ∈ fit begun S.offs := by rw [HF9.out]; exact List.getElem_mem hFl1
        exact (HW4.out.raw.ho _ (fit_mem _ hm)).2.1
      have hwant : words ++ v = WT := by
        rw [← HWT.out, ← hvF]
        unfold wantOf
        rw [if_neg (by omega), hn1, List.getElem?_eq_getElem hFl1]
      have HWANT := Lib.hid hwant
      have hzz : words.size + v.size ≤ 9223372036854775807 := by omega
      clear hwant hvF hv hFl1 hFTl hn1 hn0 hnl
      go_wp2_with (first | (refine wpList_plain rfl (fun K hK => ?_); refine wp_of_exec (ex_add rfl rfl rfl ?_) ?_; (omega); refine hK _ _ ?_; clear hK K))
      go_meet
      exact ⟨rfl, by rw [HWANT.out]⟩
    | false =>
      have hwant : u = WT := by
        rw [← HWT.out, ← HU.out]
        have h9 : ¬ (0 < n ∧ n ≤ fl) := by simpa using HBB.out
        unfold wantOf
        by_cases h0 : n = 0
        · rw [if_pos h0]
        · rw [if_neg h0, List.getElem?_eq_none (by rw [HFL.out]; omega)]
      have HWANT := Lib.hid hwant
      clear hwant
      go_wp2_with (fail)
      go_meet
      exact ⟨rfl, by rw [HWANT.out]⟩
  case rest =>
  obtain ⟨rfl, rfl⟩ := hcut
  go_upto_region 29 with (fail)
  have HPK := Lib.hid (show PkIn w (.slice oA N oc) S.offs by have h9 := hO; rw [HN.out] at h9; exact h9)
  have hP0 : P0 w M (S.strip.cells (.slice oA N oc) (.slice none 0 0)) (.slice (some ⟨kg, 0, none⟩) (n + 1) kc) ([u] ++ List.replicate n tabT) wc.drew := ⟨hF.drew, hBl, hK⟩
  have hlen : ([u] ++ List.replicate n tabT).length + ([retT] : List ByteArray).length ≤ 1000000 := by simp; omega
  clear k0 klt hOf hD hF hBl hK
  go_cut [17, 18, 19] from 154 to 162 (fun v17 v18 v19 wx => R29Post w wx WT v17 v18 v19)
  case first =>
    refine wp_region_plan [0] [2, 3, 4, 9, 11] (fun w' : World => Blk w' M (S.strip.cells (.slice oA N oc) (.slice none 0 0)) 25) (.take 0 (.pure 1 (.go2 2 (.go2 3 (.go2 4 (.pure 5 (.pure 6 (.pure 7 (.pure 8 (.go 9 (.pure 10 (.go 11 (.pure 12 .done)))))))) 9 (.go 4 (.pure 5 (.pure 6 (.pure 7 (.pure 8 (.pure 10 (.go 11 (.pure 12 .done))))))))) 9 (.go 3 (.go 4 (.pure 5 (.pure 6 (.pure 7 (.pure 8 (.pure 10 (.go 11 (.pure 12 .done)))))))))) 9 (.go 2 (.go 3 (.go 4 (.pure 5 (.pure 6 (.pure 7 (.pure 8 (.pure 10 (.go 11 (.pure 12 .done))))))))))))) hmix (by kernel_rfl) ?_
    refine plan_take rfl hP0.bl rfl (fun w' hSw => ex_load25 rfl rfl hSw) ?_; (try simp only [Act.put, List.setIfInBounds_toArray, List.set_cons_zero, List.set_cons_succ, Int.toNat_natCast, Int.toNat_sub, Int.toNat_zero])
    refine plan_move rfl rfl rfl ?_; (try simp only [Act.put, List.setIfInBounds_toArray, List.set_cons_zero, List.set_cons_succ, Int.toNat_natCast, Int.toNat_sub, Int.toNat_zero])
    refine plan_go2 rfl rfl rfl rfl (fun K hK9 => ?_) (fun K hK9 => ?_)
    · have hP1 := hP0.alloc (.cells #[.string ⟨#[13]⟩] 9)
      have hDa2 : Blk (wc.drew.alloc (.cells #[.string ⟨#[13]⟩] 9)) _ #[.string ⟨#[13]⟩] 9 := Blk.new wc.drew _ _
      go_simp
      refine hK9 _ _ hP1.bl ?_; clear hK9 K; (try simp only [Act.put, List.setIfInBounds_toArray, List.set_cons_zero, List.set_cons_succ, Int.toNat_natCast, Int.toNat_sub, Int.toNat_zero])
      refine plan_go2 rfl rfl rfl rfl (fun K hK9 => ?_) (fun K hK9 => ?_)
      · refine wp_appos (base := M) (ys := [retT]) _ _ rfl rfl rfl hP1.os hDa2 hlen (hP1.sz hM) ?_; intro p' n' c' wA4 hOA5 hat hFA6
        have hP3 := hP1.app hM hOA5 hFA6
        refine hK9 _ _ hP3.bl ?_; clear hK9 K; (try simp only [Act.put, List.setIfInBounds_toArray, List.set_cons_zero, List.set_cons_succ, Int.toNat_natCast, Int.toNat_sub, Int.toNat_zero])
        refine plan_go2 rfl rfl rfl rfl (fun K hK9 => ?_) (fun K hK9 => ?_)
        · have hpb := chosen_prompt (n := n) (w := wA4) HW4.out.raw HWD.out (by have h9 := HF9.out; have h8 := HFL.out; rw [h9]; omega) (by have := hP3.sz hM; omega) (hP3.fr.tab0 ht) (by have h9 := HPK.out.fr hP3.fr; exact h9) (chv := .slice p' n' c') (by have h9 := hP3.os.txIn; rw [← HU.out] at h9; exact h9) (os_lt hP3.os)
          rw [HF9.out, HWT.out] at hpb
          go_simp
          refine hpb.mono ?_; clear hpb; rintro e wC8 ⟨vp, vc, bs, rfl, hT10, hFC9⟩
          have hP7 := hP3.fr0 hFC9
          refine hK9 _ _ hP7.bl ?_; clear hK9 K; (try simp only [Act.put, List.setIfInBounds_toArray, List.set_cons_zero, List.set_cons_succ, Int.toNat_natCast, Int.toNat_sub, Int.toNat_zero])
          refine plan_move rfl rfl rfl ?_; (try simp only [Act.put, List.setIfInBounds_toArray, List.set_cons_zero, List.set_cons_succ, Int.toNat_natCast, Int.toNat_sub, Int.toNat_zero])
          first | (refine plan_pure (v := ?_) rfl rfl ?_ ?_; rotate_left; (intro w'; go_simp <;> with_reducible rfl); (try simp only [Act.put, List.setIfInBounds_toArray, List.set_cons_zero, List.set_cons_succ, Int.toNat_natCast, Int.toNat_sub, Int.toNat_zero]))
          first | (refine plan_pure (v := ?_) rfl rfl ?_ ?_; rotate_left; (intro w'; go_simp <;> with_reducible rfl); (try simp only [Act.put, List.setIfInBounds_toArray, List.set_cons_zero, List.set_cons_succ, Int.toNat_natCast, Int.toNat_sub, Int.toNat_zero]))
          first | (refine plan_pure (v := ?_) rfl rfl ?_ ?_; rotate_left; (intro w'; go_simp <;> with_reducible rfl); (try simp only [Act.put, List.setIfInBounds_toArray, List.set_cons_zero, List.set_cons_succ, Int.toNat_natCast, Int.toNat_sub, Int.toNat_zero]))
          refine plan_goS rfl rfl (fun K hK9 => ?_)
          have hP11 := hP7.alloc (.cells #[.slice none 0 0, .string .empty, .int .i64 0, .bool false] 31)
          have hX12 : Blk (wC8.alloc (.cells #[.slice none 0 0, .string .empty, .int .i64 0, .bool false] 31)) _ #[.slice none 0 0, .string .empty, .int .i64 0, .bool false] 31 := Blk.new wC8 _ _
          have hXs : w.heap.size ≤ (wC8).heap.size := hP7.fr.size
          have hDa13 := hDa2.alloc (.cells #[.slice none 0 0, .string .empty, .int .i64 0, .bool false] 31)
          have hT14 := hT10.fr0 ((Fr.refl 0 [] [] wC8).alloc (.cells #[.slice none 0 0, .string .empty, .int .i64 0, .bool false] 31))
          go_simp
          refine hK9 _ _ hP11.bl ?_; clear hK9 K; (try simp only [Act.put, List.setIfInBounds_toArray, List.set_cons_zero, List.set_cons_succ, Int.toNat_natCast, Int.toNat_sub, Int.toNat_zero])
          first | (refine plan_pure (v := ?_) rfl rfl ?_ ?_; rotate_left; (intro w'; go_simp <;> with_reducible rfl); (try simp only [Act.put, List.setIfInBounds_toArray, List.set_cons_zero, List.set_cons_succ, Int.toNat_natCast, Int.toNat_sub, Int.toNat_zero]))
          refine plan_go rfl (by kernel_rfl) rfl (fun K hK9 => ?_)
          have xl := hX12.lt
          have y0 := hX12.cell 0
          have y1 := hX12.cell 1
          have y2 := hX12.cell 2
          have y3 := hX12.cell 3
          have yf0 := hX12.frozen 0
          have yf1 := hX12.frozen 1
          have yf2 := hX12.frozen 2
          have yf3 := hX12.frozen 3
          simp only [List.getElem?_toArray, List.getElem?_cons_zero, List.getElem?_cons_succ] at y0 y1 y2 y3
          go_simp
          refine hK9 _ _ ?_; clear hK9 K; (try simp only [Act.put, List.setIfInBounds_toArray, List.set_cons_zero, List.set_cons_succ, Int.toNat_natCast, Int.toNat_sub, Int.toNat_zero])
          have hR := r29_new (bs := bs) hP7 hT10
          clear y0 y1 y2 y3 yf0 yf1 yf2 yf3 xl
          first | (refine plan_pure (v := ?_) rfl rfl ?_ ?_; rotate_left; (intro w'; go_simp <;> with_reducible rfl); (try simp only [Act.put, List.setIfInBounds_toArray, List.set_cons_zero, List.set_cons_succ, Int.toNat_natCast, Int.toNat_sub, Int.toNat_zero]))
          refine plan_done ?_
          clear hP11 hX12 hT14 hXs

          go_wp2_with (fail)
          go_meet
          exact hR
        · have hP15 := hP3.alloc (.cells #[.slice none 0 0, .string .empty, .int .i64 0, .bool false] 31)
          have hX16 : Blk (wA4.alloc (.cells #[.slice none 0 0, .string .empty, .int .i64 0, .bool false] 31)) _ #[.slice none 0 0, .string .empty, .int .i64 0, .bool false] 31 := Blk.new wA4 _ _
          have hXs : w.heap.size ≤ (wA4).heap.size := hP3.fr.size
          have hDa17 := hDa2.alloc (.cells #[.slice none 0 0, .string .empty, .int .i64 0, .bool false] 31)
          go_simp
          refine hK9 _ _ hP15.bl ?_; clear hK9 K; (try simp only [Act.put, List.setIfInBounds_toArray, List.set_cons_zero, List.set_cons_succ, Int.toNat_natCast, Int.toNat_sub, Int.toNat_zero])
          refine plan_go rfl (by kernel_rfl) rfl (fun K hK9 => ?_)
          have hpb := chosen_prompt (n := n) (w := (wA4.alloc (.cells #[.slice none 0 0, .string .empty, .int .i64 0, .bool false] 31))) HW4.out.raw HWD.out (by have h9 := HF9.out; have h8 := HFL.out; rw [h9]; omega) (by have := hP15.sz hM; omega) (hP15.fr.tab0 ht) (by have h9 := HPK.out.fr hP15.fr; exact h9) (chv := .slice p' n' c') (by have h9 := hP15.os.txIn; rw [← HU.out] at h9; exact h9) (os_lt hP15.os)
          rw [HF9.out, HWT.out] at hpb
          go_simp
          refine hpb.mono ?_; clear hpb; rintro e wC19 ⟨vp, vc, bs, rfl, hT21, hFC20⟩
          have hP18 := hP15.fr0 hFC20
          have hX22 := hFC20.blk0 hX16
          refine hK9 _ _ ?_; clear hK9 K; (try simp only [Act.put, List.setIfInBounds_toArray, List.set_cons_zero, List.set_cons_succ, Int.toNat_natCast, Int.toNat_sub, Int.toNat_zero])
          refine plan_move rfl rfl rfl ?_; (try simp only [Act.put, List.setIfInBounds_toArray, List.set_cons_zero, List.set_cons_succ, Int.toNat_natCast, Int.toNat_sub, Int.toNat_zero])
          first | (refine plan_pure (v := ?_) rfl rfl ?_ ?_; rotate_left; (intro w'; go_simp <;> with_reducible rfl); (try simp only [Act.put, List.setIfInBounds_toArray, List.set_cons_zero, List.set_cons_succ, Int.toNat_natCast, Int.toNat_sub, Int.toNat_zero]))
          first | (refine plan_pure (v := ?_) rfl rfl ?_ ?_; rotate_left; (intro w'; go_simp <;> with_reducible rfl); (try simp only [Act.put, List.setIfInBounds_toArray, List.set_cons_zero, List.set_cons_succ, Int.toNat_natCast, Int.toNat_sub, Int.toNat_zero]))
          first | (refine plan_pure (v := ?_) rfl rfl ?_ ?_; rotate_left; (intro w'; go_simp <;> with_reducible rfl); (try simp only [Act.put, List.setIfInBounds_toArray, List.set_cons_zero, List.set_cons_succ, Int.toNat_natCast, Int.toNat_sub, Int.toNat_zero]))
          first | (refine plan_pure (v := ?_) rfl rfl ?_ ?_; rotate_left; (intro w'; go_simp <;> with_reducible rfl); (try simp only [Act.put, List.setIfInBounds_toArray, List.set_cons_zero, List.set_cons_succ, Int.toNat_natCast, Int.toNat_sub, Int.toNat_zero]))
          refine plan_go rfl (by kernel_rfl) rfl (fun K hK9 => ?_)
          have xl := hX22.lt
          have y0 := hX22.cell 0
          have y1 := hX22.cell 1
          have y2 := hX22.cell 2
          have y3 := hX22.cell 3
          have yf0 := hX22.frozen 0
          have yf1 := hX22.frozen 1
          have yf2 := hX22.frozen 2
          have yf3 := hX22.frozen 3
          simp only [List.getElem?_toArray, List.getElem?_cons_zero, List.getElem?_cons_succ] at y0 y1 y2 y3
          go_simp
          have hR := r29_end (bs := bs) hP18 hX22 hXs hT21
          clear y0 y1 y2 y3 yf0 yf1 yf2 yf3 xl
          clear hP18 hX22 hT21 hXs
          revert hR
          generalize (World.setCell (World.setCell (World.setCell (World.setCell _ _ _) _ _) _ _) _ (Value.bool false)) = WZ
          intro hR
          refine hK9 _ _ ?_; clear hK9 K; (try simp only [Act.put, List.setIfInBounds_toArray, List.set_cons_zero, List.set_cons_succ, Int.toNat_natCast, Int.toNat_sub, Int.toNat_zero])
          first | (refine plan_pure (v := ?_) rfl rfl ?_ ?_; rotate_left; (intro w'; go_simp <;> with_reducible rfl); (try simp only [Act.put, List.setIfInBounds_toArray, List.set_cons_zero, List.set_cons_succ, Int.toNat_natCast, Int.toNat_sub, Int.toNat_zero]))
          refine plan_done ?_

          go_wp2_with (fail)
          go_meet
          exact hR
      · have hP23 := hP1.alloc (.cells #[.slice none 0 0, .string .empty, .int .i64 0, .bool false] 31)
        have hX24 : Blk ((wc.drew.alloc (.cells #[.string ⟨#[13]⟩] 9)).alloc (.cells #[.slice none 0 0, .string .empty, .int .i64 0, .bool false] 31)) (wc.heap.size + 1) #[.slice none 0 0, .string .empty, .int .i64 0, .bool false] 31 := Blk.new' (by simp) _ _
        have hXs : w.heap.size ≤ wc.heap.size + 1 := by have h9 := hP1.fr.size; simpa using h9
        have hDa25 := hDa2.alloc (.cells #[.slice none 0 0, .string .empty, .int .i64 0, .bool false] 31)
        go_simp
        refine hK9 _ _ hP23.bl ?_; clear hK9 K; (try simp only [Act.put, List.setIfInBounds_toArray, List.set_cons_zero, List.set_cons_succ, Int.toNat_natCast, Int.toNat_sub, Int.toNat_zero])
        refine plan_goS rfl rfl (fun K hK9 => ?_)
        refine wp_appos (base := M) (ys := [retT]) _ _ rfl rfl rfl hP23.os hDa25 hlen (hP23.sz hM) ?_; intro p' n' c' wA27 hOA28 hat hFA29
        have hP26 := hP23.app hM hOA28 hFA29
        have hX30 := blk_append hX24 (by decide) hP23.os hFA29
        refine hK9 _ _ hP26.bl ?_; clear hK9 K; (try simp only [Act.put, List.setIfInBounds_toArray, List.set_cons_zero, List.set_cons_succ, Int.toNat_natCast, Int.toNat_sub, Int.toNat_zero])
        refine plan_go rfl (by kernel_rfl) rfl (fun K hK9 => ?_)
        have hpb := chosen_prompt (n := n) (w := wA27) HW4.out.raw HWD.out (by have h9 := HF9.out; have h8 := HFL.out; rw [h9]; omega) (by have := hP26.sz hM; omega) (hP26.fr.tab0 ht) (by have h9 := HPK.out.fr hP26.fr; exact h9) (chv := .slice p' n' c') (by have h9 := hP26.os.txIn; rw [← HU.out] at h9; exact h9) (os_lt hP26.os)
        rw [HF9.out, HWT.out] at hpb
        go_simp
        refine hpb.mono ?_; clear hpb; rintro e wC32 ⟨vp, vc, bs, rfl, hT34, hFC33⟩
        have hP31 := hP26.fr0 hFC33
        have hX35 := hFC33.blk0 hX30
        refine hK9 _ _ ?_; clear hK9 K; (try simp only [Act.put, List.setIfInBounds_toArray, List.set_cons_zero, List.set_cons_succ, Int.toNat_natCast, Int.toNat_sub, Int.toNat_zero])
        refine plan_move rfl rfl rfl ?_; (try simp only [Act.put, List.setIfInBounds_toArray, List.set_cons_zero, List.set_cons_succ, Int.toNat_natCast, Int.toNat_sub, Int.toNat_zero])
        first | (refine plan_pure (v := ?_) rfl rfl ?_ ?_; rotate_left; (intro w'; go_simp <;> with_reducible rfl); (try simp only [Act.put, List.setIfInBounds_toArray, List.set_cons_zero, List.set_cons_succ, Int.toNat_natCast, Int.toNat_sub, Int.toNat_zero]))
        first | (refine plan_pure (v := ?_) rfl rfl ?_ ?_; rotate_left; (intro w'; go_simp <;> with_reducible rfl); (try simp only [Act.put, List.setIfInBounds_toArray, List.set_cons_zero, List.set_cons_succ, Int.toNat_natCast, Int.toNat_sub, Int.toNat_zero]))
        first | (refine plan_pure (v := ?_) rfl rfl ?_ ?_; rotate_left; (intro w'; go_simp <;> with_reducible rfl); (try simp only [Act.put, List.setIfInBounds_toArray, List.set_cons_zero, List.set_cons_succ, Int.toNat_natCast, Int.toNat_sub, Int.toNat_zero]))
        first | (refine plan_pure (v := ?_) rfl rfl ?_ ?_; rotate_left; (intro w'; go_simp <;> with_reducible rfl); (try simp only [Act.put, List.setIfInBounds_toArray, List.set_cons_zero, List.set_cons_succ, Int.toNat_natCast, Int.toNat_sub, Int.toNat_zero]))
        refine plan_go rfl (by kernel_rfl) rfl (fun K hK9 => ?_)
        have xl := hX35.lt
        have y0 := hX35.cell 0
        have y1 := hX35.cell 1
        have y2 := hX35.cell 2
        have y3 := hX35.cell 3
        have yf0 := hX35.frozen 0
        have yf1 := hX35.frozen 1
        have yf2 := hX35.frozen 2
        have yf3 := hX35.frozen 3
        simp only [List.getElem?_toArray, List.getElem?_cons_zero, List.getElem?_cons_succ] at y0 y1 y2 y3
        go_simp
        have hR := r29_end (bs := bs) hP31 hX35 hXs hT34
        clear y0 y1 y2 y3 yf0 yf1 yf2 yf3 xl
        clear hP31 hX35 hT34 hXs
        revert hR
        generalize (World.setCell (World.setCell (World.setCell (World.setCell _ _ _) _ _) _ _) _ (Value.bool false)) = WZ
        intro hR
        refine hK9 _ _ ?_; clear hK9 K; (try simp only [Act.put, List.setIfInBounds_toArray, List.set_cons_zero, List.set_cons_succ, Int.toNat_natCast, Int.toNat_sub, Int.toNat_zero])
        first | (refine plan_pure (v := ?_) rfl rfl ?_ ?_; rotate_left; (intro w'; go_simp <;> with_reducible rfl); (try simp only [Act.put, List.setIfInBounds_toArray, List.set_cons_zero, List.set_cons_succ, Int.toNat_natCast, Int.toNat_sub, Int.toNat_zero]))
        refine plan_done ?_

        go_wp2_with (fail)
        go_meet
        exact hR
    · have hP36 := hP0.alloc (.cells #[.slice none 0 0, .string .empty, .int .i64 0, .bool false] 31)
      have hX37 : Blk (wc.drew.alloc (.cells #[.slice none 0 0, .string .empty, .int .i64 0, .bool false] 31)) wc.heap.size #[.slice none 0 0, .string .empty, .int .i64 0, .bool false] 31 := Blk.new wc.drew _ _
      have hXs : w.heap.size ≤ wc.heap.size := hP0.fr.size
      go_simp
      refine hK9 _ _ hP36.bl ?_; clear hK9 K; (try simp only [Act.put, List.setIfInBounds_toArray, List.set_cons_zero, List.set_cons_succ, Int.toNat_natCast, Int.toNat_sub, Int.toNat_zero])
      refine plan_goS rfl rfl (fun K hK9 => ?_)
      have hP38 := hP36.alloc (.cells #[.string ⟨#[13]⟩] 9)
      have hDa39 : Blk ((wc.drew.alloc (.cells #[.slice none 0 0, .string .empty, .int .i64 0, .bool false] 31)).alloc (.cells #[.string ⟨#[13]⟩] 9)) (wc.heap.size + 1) #[.string ⟨#[13]⟩] 9 := Blk.new' (by simp) _ _
      have hX40 := hX37.alloc (.cells #[.string ⟨#[13]⟩] 9)
      go_simp
      refine hK9 _ _ hP38.bl ?_; clear hK9 K; (try simp only [Act.put, List.setIfInBounds_toArray, List.set_cons_zero, List.set_cons_succ, Int.toNat_natCast, Int.toNat_sub, Int.toNat_zero])
      refine plan_goS rfl rfl (fun K hK9 => ?_)
      refine wp_appos (base := M) (ys := [retT]) _ _ rfl rfl rfl hP38.os hDa39 hlen (hP38.sz hM) ?_; intro p' n' c' wA42 hOA43 hat hFA44
      have hP41 := hP38.app hM hOA43 hFA44
      have hX45 := blk_append hX40 (by decide) hP38.os hFA44
      refine hK9 _ _ hP41.bl ?_; clear hK9 K; (try simp only [Act.put, List.setIfInBounds_toArray, List.set_cons_zero, List.set_cons_succ, Int.toNat_natCast, Int.toNat_sub, Int.toNat_zero])
      refine plan_go rfl (by kernel_rfl) rfl (fun K hK9 => ?_)
      have hpb := chosen_prompt (n := n) (w := wA42) HW4.out.raw HWD.out (by have h9 := HF9.out; have h8 := HFL.out; rw [h9]; omega) (by have := hP41.sz hM; omega) (hP41.fr.tab0 ht) (by have h9 := HPK.out.fr hP41.fr; exact h9) (chv := .slice p' n' c') (by have h9 := hP41.os.txIn; rw [← HU.out] at h9; exact h9) (os_lt hP41.os)
      rw [HF9.out, HWT.out] at hpb
      go_simp
      refine hpb.mono ?_; clear hpb; rintro e wC47 ⟨vp, vc, bs, rfl, hT49, hFC48⟩
      have hP46 := hP41.fr0 hFC48
      have hX50 := hFC48.blk0 hX45
      refine hK9 _ _ ?_; clear hK9 K; (try simp only [Act.put, List.setIfInBounds_toArray, List.set_cons_zero, List.set_cons_succ, Int.toNat_natCast, Int.toNat_sub, Int.toNat_zero])
      refine plan_move rfl rfl rfl ?_; (try simp only [Act.put, List.setIfInBounds_toArray, List.set_cons_zero, List.set_cons_succ, Int.toNat_natCast, Int.toNat_sub, Int.toNat_zero])
      first | (refine plan_pure (v := ?_) rfl rfl ?_ ?_; rotate_left; (intro w'; go_simp <;> with_reducible rfl); (try simp only [Act.put, List.setIfInBounds_toArray, List.set_cons_zero, List.set_cons_succ, Int.toNat_natCast, Int.toNat_sub, Int.toNat_zero]))
      first | (refine plan_pure (v := ?_) rfl rfl ?_ ?_; rotate_left; (intro w'; go_simp <;> with_reducible rfl); (try simp only [Act.put, List.setIfInBounds_toArray, List.set_cons_zero, List.set_cons_succ, Int.toNat_natCast, Int.toNat_sub, Int.toNat_zero]))
      first | (refine plan_pure (v := ?_) rfl rfl ?_ ?_; rotate_left; (intro w'; go_simp <;> with_reducible rfl); (try simp only [Act.put, List.setIfInBounds_toArray, List.set_cons_zero, List.set_cons_succ, Int.toNat_natCast, Int.toNat_sub, Int.toNat_zero]))
      first | (refine plan_pure (v := ?_) rfl rfl ?_ ?_; rotate_left; (intro w'; go_simp <;> with_reducible rfl); (try simp only [Act.put, List.setIfInBounds_toArray, List.set_cons_zero, List.set_cons_succ, Int.toNat_natCast, Int.toNat_sub, Int.toNat_zero]))
      refine plan_go rfl (by kernel_rfl) rfl (fun K hK9 => ?_)
      have xl := hX50.lt
      have y0 := hX50.cell 0
      have y1 := hX50.cell 1
      have y2 := hX50.cell 2
      have y3 := hX50.cell 3
      have yf0 := hX50.frozen 0
      have yf1 := hX50.frozen 1
      have yf2 := hX50.frozen 2
      have yf3 := hX50.frozen 3
      simp only [List.getElem?_toArray, List.getElem?_cons_zero, List.getElem?_cons_succ] at y0 y1 y2 y3
      go_simp
      have hR := r29_end (bs := bs) hP46 hX50 hXs hT49
      clear y0 y1 y2 y3 yf0 yf1 yf2 yf3 xl
      clear hP46 hX50 hT49 hXs
      revert hR
      generalize (World.setCell (World.setCell (World.setCell (World.setCell _ _ _) _ _) _ _) _ (Value.bool false)) = WZ
      intro hR
      refine hK9 _ _ ?_; clear hK9 K; (try simp only [Act.put, List.setIfInBounds_toArray, List.set_cons_zero, List.set_cons_succ, Int.toNat_natCast, Int.toNat_sub, Int.toNat_zero])
      first | (refine plan_pure (v := ?_) rfl rfl ?_ ?_; rotate_left; (intro w'; go_simp <;> with_reducible rfl); (try simp only [Act.put, List.setIfInBounds_toArray, List.set_cons_zero, List.set_cons_succ, Int.toNat_natCast, Int.toNat_sub, Int.toNat_zero]))
      refine plan_done ?_

      go_wp2_with (fail)
      go_meet
      exact hR
  case rest =>
  clear hlen hP0
  obtain ⟨X, vp, vc, bs, rfl, rfl, rfl, hX, hS, hF⟩ := hcut
  obtain ⟨Y, hY⟩ : ∃ Y, wc.heap.size = Y := ⟨_, rfl⟩
  have xl := hX.lt
  rw [hY] at xl
  have y0 : wc.cell? ⟨X, 0, none⟩ = some (.slice vp 1 vc) := hX.cell 0
  have y1 : wc.cell? ⟨X, 1, none⟩ = some (.string .empty) := hX.cell 1
  have y2 : wc.cell? ⟨X, 2, none⟩ = some (.int .i64 0) := hX.cell 2
  have y3 : wc.cell? ⟨X, 3, none⟩ = some (.bool false) := hX.cell 3
  go_wp2_with (fail)
  have hTa : TxIn (wc.alloc (.cells #[.string WT] 9)) (.slice (some ⟨Y, 0, none⟩) 1 1) [WT] := txIn_new (Blk.new' hY.symm _ _) 1
  have hst := stands_c (w := wc.alloc (.cells #[.string WT] 9)) (t := .empty) (k := 0) (ov := false) (hS.fr ((Fr.refl 0 [] [] wc).alloc _)) hTa (by simp)
  refine hst.mono ?_
  rintro e w10 ⟨rfl, hF10⟩
  go_wp2_with (fail)
  go_ret
  exact ⟨rfl, (hF.alloc _).trans hF10⟩
end Go.Proofs.YtiepopbmbgfhkaaGreat
