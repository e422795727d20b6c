/-
  Render.
-/
import Derived.Test.YtiepopbmbgfhkaaGreatQ11
import Derived.Defers
namespace Go.Proofs.YtiepopbmbgfhkaaGreat
open Go.RowKit
open List renaming setIfInBounds_toArray → zq1, set_cons_zero → zq2, set_cons_succ → zq3
open Int renaming toNat_natCast → zq4, toNat_sub → zq5, toNat_zero → zq6
set_option maxHeartbeats 2000000
set_option maxRecDepth 20000
set_option linter.unusedVariables false
set_option linter.unusedSimpArgs false

theorem Cm.blk {base : Nat} {w : World} {c : Nat} {q : Cp} {sel vs : Int} {tmp : List Pk} (h : Cm base w c q sel vs tmp) : ∃ cs, Blk w c cs 87 := by
  obtain ⟨p, k, C, hB, hP, hb⟩ := h.ren
  exact ⟨_, hB⟩
theorem Cm.fr {base base' : Nat} {w w1 : World} {c : Nat} {q : Cp} {sel vs : Int} {tmp : List Pk} {ts bs : List Nat} (h : Cm base w c q sel vs tmp) (hF : Fr base' ts bs w w1) (h1 : 25 ∉ ts ∧ 72 ∉ ts ∧ 73 ∉ ts ∧ 87 ∉ ts) (hb : ∀ b ∈ bs, ∃ cs t, Blk w b cs t ∧ t ≠ 25 ∧ t ≠ 72 ∧ t ≠ 73 ∧ t ≠ 87) : Cm base w1 c q sel vs tmp := by
  obtain ⟨e1, e2, v, hB, hP⟩ := h
  refine ⟨e1, e2.fr hF ⟨h1.1, h1.2.1, h1.2.2.1⟩ (fun b hm => ?_), v, hF.blk hB (.inr ⟨fun hm => ?_, h1.2.2.2⟩), hP.fr hF h1.2.2.1 fun b hm => ?_⟩
  · obtain ⟨cs, t, g1, g2, g3, g4, g5⟩ := hb b hm
    exact ⟨cs, t, g1, g2, g3, g4⟩
  · obtain ⟨cs, t, g1, g2, g3, g4, g5⟩ := hb c hm
    exact g5 (g1.inj hB).2
  · obtain ⟨cs, t, g1, g2, g3, g4, g5⟩ := hb b hm
    exact ⟨cs, t, g1, g4⟩

/-- The renderer, the buffer and the completion manager together. -/
structure Scr (base : Nat) (w : World) (r o b L c : Nat) (pre : ByteArray) (cols n : Nat) (t : ByteArray) (k : Nat) (q : Cp) (sel vs : Int) (tmp : List Pk) : Prop where
  rn : Rn base w r o pre cols n
  buf : Buf base w b L t k
  cm : Cm base w c q sel vs tmp
section
variable {base : Nat} {w w1 : World} {r o b L c : Nat} {pre : ByteArray} {cols n m : Nat} {t : ByteArray} {k : Nat} {q : Cp} {sel vs : Int} {tmp : List Pk}
/-- Behind a call that only makes new blocks. -/
theorem Scr.fr0 {base' : Nat} (h : Scr base w r o b L c pre cols n t k q sel vs tmp) (hF : Fr base' [] [] w w1) : Scr base w1 r o b L c pre cols n t k q sel vs tmp :=
  ⟨hF.rn0 h.rn, hF.buf0 h.buf, h.cm.fr0 hF⟩
/-- Behind a call that writes. -/
theorem Scr.out (h : Scr base w r o b L c pre cols n t k q sel vs tmp) (hR : Rn base w1 r o pre cols m) (hF : Fr base [5, 143] [] w w1) : Scr base w1 r o b L c pre cols m t k q sel vs tmp :=
  ⟨hR, h.buf.after hF (by simp), h.cm.fr hF (by simp) (by simp)⟩
theorem Scr.outW (h : Scr base w r o b L c pre cols n t k q sel vs tmp) (hW : Wr base w1 o m) (hF : Fr base [5, 143] [] w w1) : Scr base w1 r o b L c pre cols m t k q sel vs tmp :=
  h.out (h.rn.after hF hW) hF
/-- Behind a call that looks at the buffer's document. -/
theorem Scr.doc (h : Scr base w r o b L c pre cols n t k q sel vs tmp) (hB : Buf base w1 b L t k) (hF : Fr base [] [b] w w1) : Scr base w1 r o b L c pre cols n t k q sel vs tmp := by
  obtain ⟨⟨cs, hb⟩, -⟩ := h.buf.blk
  refine ⟨h.rn.fr hF (by simp) fun x hx => ?_, hB, h.cm.fr hF (by simp) fun x hx => ?_⟩
  · simp only [List.mem_singleton] at hx; subst hx; exact ⟨cs, 121, hb, by decide, by decide, by decide⟩
  · simp only [List.mem_singleton] at hx; subst hx; exact ⟨cs, 121, hb, by decide, by decide, by decide, by decide⟩
theorem Scr.le (h : Scr base w r o b L c pre cols n t k q sel vs tmp) (hm : n ≤ m) : Scr base w r o b L c pre cols m t k q sel vs tmp :=
  ⟨⟨h.rn.1, h.rn.2.1, h.rn.wr.le hm⟩, h.buf, h.cm⟩
theorem Scr.pc (h : Scr base w r o b L c pre cols n t k q sel vs tmp) (x : Nat) (hx : x ≤ 1400) : Scr base (w.setCell ⟨r, 7, none⟩ (.int .i64 x)) r o b L c pre cols n t k q sel vs tmp ∧ Fr base [] [r] w (w.setCell ⟨r, 7, none⟩ (.int .i64 x)) := by
  obtain ⟨h1, hF⟩ := h.rn.putPc x hx
  obtain ⟨pc, hpc, -, hB, hbr⟩ := h.rn.ren
  refine ⟨⟨h1, h.buf.frB hF (by simp) fun y hy => ?_, h.cm.fr hF (by simp) fun y hy => ?_⟩, hF⟩
  · simp only [List.mem_singleton] at hy; subst hy; exact ⟨_, 128, hB, by decide, by decide, by decide⟩
  · simp only [List.mem_singleton] at hy; subst hy; exact ⟨_, 128, hB, by decide, by decide, by decide, by decide⟩
theorem Scr.drew (h : Scr base w r o b L c pre cols n t k q sel vs tmp) : Scr base w.drew r o b L c pre cols n t k q sel vs tmp := h.fr0 ((Fr.refl 0 [] [] w).drew)
theorem Scr.drewN (h : Scr base w r o b L c pre cols n t k q sel vs tmp) (j : Nat) : Scr base (w.drewN j) r o b L c pre cols n t k q sel vs tmp := h.fr0 ((Fr.refl 0 [] [] w).drewN j)
end

/-- What is asked of a screen. -/
structure ScrOk (pre : ByteArray) (cols : Nat) (t : ByteArray) (k : Nat) (q : Cp) : Prop where
  hpre : Prn pre
  hpres : pre.size ≤ 100
  hc1 : 13 ≤ cols
  hc2 : cols ≤ 120
  ht : Prn t
  hts : t.size ≤ 1000
  hk : k ≤ t.size
  hq : CpOk q
  hmost : q.most ≤ 100

theorem render_c {base : Nat} {w : World} {r o b L c : Nat} {pre : ByteArray} {cols n : Nat} {t : ByteArray} {k : Nat} {q : Cp} {vs : Int} {tmp : List Pk} (h : Scr base w r o b L c pre cols n t k q (-1) vs tmp) (hok : ScrOk pre cols t k q) (hn : n + 100000 ≤ 1000000000)
    (hRC : ∀ (w : World) (n : Nat), n + 20000 ≤ 1000000000 → Scr base w r o b L c pre cols n t k q (-1) vs tmp → Calls Tryz.prog 82 #[.pointer (some ⟨r, 0, none⟩), .pointer (some ⟨b, 0, none⟩), .pointer (some ⟨c, 0, none⟩)] w fun e w' => e = .returned (.tuple #[]) ∧ Scr base w' r o b L c pre cols (n + 20000) t k q (-1) vs tmp ∧ Fr base [5, 143] [b] w w') :
    Calls Tryz.prog 47 #[.pointer (some ⟨r, 0, none⟩), .pointer (some ⟨b, 0, none⟩), .pointer (some ⟨c, 0, none⟩)] w fun e w' => e = .returned (.tuple #[]) ∧ Scr base w' r o b L c pre cols (n + 100000) t k q (-1) vs tmp ∧ Fr base [5, 143] [b, r] w w' := by
  obtain ⟨hpre, hpres, hc1, hc2, ht, hts, hk, hq, hmost⟩ := hok
  have m1 := md_SetColor
  have m2 := na_SetColor
  have m3 := md_WriteStr
  have m4 := na_WriteStr
  have m5 := md_HideCursor
  have m6 := na_HideCursor
  have m7 := md_ShowCursor
  have m8 := na_ShowCursor
  have m9 := md_EraseDown
  have m10 := na_EraseDown
  obtain ⟨e1, e2⟩ := int_ne (a := (cols : Int)) (b := 0) (by omega)
  obtain ⟨pc, hpc, ⟨c0, c1, c2, c3, c5, c6, c7, f7, hlt⟩, hB, hbr⟩ := h.rn.ren
  go_enter_defers Tryz.func47, Tryz.ntmps47
  go_wp2_with (fail)
  refine (move_c h.rn hc1 hc2 pc 0 hpc (by omega) (by omega)).mono ?_
  rintro e w1 ⟨rfl, h1, hF1⟩
  replace h1 := h.out h1 hF1
  go_wp2_with (fail)
  refine (text_c h1.buf).mono ?_
  rintro e w2 ⟨rfl, j2, rfl⟩
  have h2 := h1.drewN j2
  go_wp2_with (fail)
  refine (prefix_c h2.rn).mono ?_
  rintro e w3 ⟨rfl, hF3⟩
  have h3 := h2.fr0 hF3
  go_wp2_with (fail)
  refine (width_c _ hpre (by omega) _).mono ?_
  rintro e w4 ⟨rfl, hF4⟩
  have h4 := h3.fr0 hF4
  go_wp2_with (fail)
  refine (width_c _ ht (by omega) _).mono ?_
  rintro e w5 ⟨rfl, hF5⟩
  have h5 := h4.fr0 hF5
  have hcur : ((pre.size + t.size : Nat) : Int) = (pre.size : Int) + t.size := by omega
  go_wp2_with (fail)
  refine (toPos_c h5.rn hc1 hc2 (pre.size + t.size) (by omega)).mono ?_
  rintro e w6 ⟨x, y, rfl, hx, hxa, hy, hF6⟩
  have h6 := h5.fr0 hF6
  obtain ⟨pc6, hpc6, ⟨c0, c1, c2, c3, c5, c6, c7, f7, hlt⟩, hB6, hbr6⟩ := h6.rn.ren
  obtain ⟨p6, k6, ⟨g0, g1, g2, g3, g4, g5, g6, gf0, gf1, gf4, glt⟩, hC6, -⟩ := h6.cm.ren
  have hw1 : IntKind.i64.wrap (q.most : Int) = q.most := wrap_in (by omega) (by omega)
  have hw2 : IntKind.i64.wrap (cols : Int) = cols := wrap_in (by omega) (by omega)
  have d1 : decide ((1000 : Int) < (y : Int) + 1 + q.most) = false := by simp; omega
  have d2 : decide ((cols : Int) < 4) = false := by simp; omega
  go_wp2_with (fail)
  refine (hideCursor_c h6.rn.wr (by omega)).mono ?_
  rintro e w7 ⟨rfl, hW7, hF7⟩
  have h7 := h6.outW hW7 hF7
  have hFa : Fr base [5, 143] [b, r] w w7 := ((((((Fr.refl base [5, 143] [b, r] w).into hF1 (by simp) (by simp)).drewN j2).ext hF3).ext hF4).ext hF5 |>.ext hF6).into hF7 (by simp) (by simp)
  obtain ⟨pc7, hpc7, ⟨c0, c1, c2, c3, c5, c6, c7, f7, hlt⟩, hB7, hbr7⟩ := h7.rn.ren
  go_wp2_with (fail)
  refine (renderPrefix_c h7.rn hpre hpres (by omega)).mono ?_
  rintro e w8 ⟨rfl, hR8, hF8⟩
  have h8 := h7.out hR8 hF8
  go_wp2_with (fail)
  have hS : (fun w' : World => w'.cell? ⟨r, 0, none⟩ = some (.iface 144 (.pointer (some ⟨o, 0, none⟩))) ∧ w'.cell? ⟨r, 10, none⟩ = some (.int .i64 0) ∧ w'.cell? ⟨r, 11, none⟩ = some (.int .i64 0)) w8.drew := by
    obtain ⟨pc, hpc, ⟨c0, c1, c2, c3, c5, c6, c7, f7, hlt⟩, hB, hbr⟩ := h8.rn.ren
    exact ⟨c0, h8.rn.col.2.2.1, h8.rn.col.2.2.2.1⟩
  refine wp_region_plan [3, 7, 11] [14] (fun w' : World => w'.cell? ⟨r, 0, none⟩ = some (.iface 144 (.pointer (some ⟨o, 0, none⟩))) ∧ w'.cell? ⟨r, 10, none⟩ = some (.int .i64 0) ∧ w'.cell? ⟨r, 11, none⟩ = some (.int .i64 0)) (.pure 0 (.pure 1 (.pure 2 (.take 3 (.pure 4 (.pure 5 (.pure 6 (.take 7 (.pure 8 (.pure 9 (.pure 10 (.take 11 (.pure 12 (.pure 13 (.go 14 .done))))))))))))))) hmix (by kernel_rfl) ?_
  repeat (first | (refine plan_move rfl rfl rfl ?_; (try simp only [Act.put, zq1, zq2, zq3, zq4, zq5, zq6])) | (refine plan_pure (v := ?_) rfl rfl ?_ ?_; rotate_left; (intro w'; go_simp <;> with_reducible rfl); (try simp only [Act.put, zq1, zq2, zq3, zq4, zq5, zq6])) | (refine plan_take (v := ?_) rfl hS rfl ?_ ?_; rotate_left; (intro w' hSw; (try dsimp only at hSw); go_simp <;> with_reducible rfl); (try simp only [Act.put, zq1, zq2, zq3, zq4, zq5, zq6])))
  refine plan_go rfl (by kernel_rfl) rfl (fun K hK => ?_)
  go_simp; refine (setColor_c (f := 0) (b := 0) h8.rn.wr.drew (by omega) (by omega) (by omega)).mono ?_; rintro e w9 ⟨rfl, hW9, hF9⟩; refine hK _ _ ?_; clear hK K; (try simp only [Act.put, zq1, zq2, zq3, zq4, zq5, zq6])
  refine plan_done ?_
  have h9 := h8.drew.outW hW9 hF9
  have hFb : Fr base [5, 143] [b, r] w w9 := ((hFa.into hF8 (by simp) (by simp)).drew).into hF9 (by simp) (by simp)
  obtain ⟨pc9, hpc9, ⟨c0, c1, c2, c3, c5, c6, c7, f7, hlt⟩, hB9, hbr9⟩ := h9.rn.ren
  go_wp2_with (fail)
  refine (writeStr_c h9.rn.wr ht.noEsc (by omega)).mono ?_
  rintro e w10 ⟨rfl, hW10, hF10⟩
  have h10 := h9.outW hW10 hF10
  obtain ⟨pc10, hpc10, ⟨c0, c1, c2, c3, c5, c6, c7, f7, hlt⟩, hB10, hbr10⟩ := h10.rn.ren
  go_wp2_with (fail)
  refine (setColor_c (f := 0) (b := 0) h10.rn.wr (by omega) (by omega) (by omega)).mono ?_
  rintro e w11 ⟨rfl, hW11, hF11⟩
  have h11 := h10.outW hW11 hF11
  go_wp2_with (fail)
  refine (lineWrap_c h11.rn hc1 hc2 (pre.size + t.size) (by omega) (by omega)).mono ?_
  rintro e w12 ⟨rfl, hR12, hF12⟩
  have h12 := h11.out hR12 hF12
  obtain ⟨pc12, hpc12, ⟨c0, c1, c2, c3, c5, c6, c7, f7, hlt⟩, hB12, hbr12⟩ := h12.rn.ren
  go_wp2_with (fail)
  refine (eraseDown_c h12.rn.wr (by omega)).mono ?_
  rintro e w13 ⟨rfl, hW13, hF13⟩
  have h13 := h12.outW hW13 hF13
  have hFc : Fr base [5, 143] [b, r] w w13 := (((hFb.into hF10 (by simp) (by simp)).into hF11 (by simp) (by simp)).into hF12 (by simp) (by simp)).into hF13 (by simp) (by simp)
  go_wp2_with (fail)
  refine (width_c _ ht (by omega) _).mono ?_
  rintro e w14 ⟨rfl, hF14⟩
  have h14 := h13.fr0 hF14
  go_wp2_with (fail)
  refine (bufPos_c h14.buf ht (by omega) hk).mono ?_
  rintro e w15 ⟨rfl, hB15, hF15⟩
  have h15 := h14.doc hB15 hF15
  have hsub : (t.size : Int) - k = (t.size - k : Nat) := by omega
  go_wp2_with (fail)
  refine (backward_c h15.rn hc1 hc2 (pre.size + t.size) (t.size - k) (by omega) (by omega) (by omega)).mono ?_
  rintro e w16 ⟨rfl, hR16, hF16⟩
  have h16 := h15.out hR16 hF16
  have hFd : Fr base [5, 143] [b, r] w w16 := ((hFc.ext hF14).into hF15 (by simp) (by simp)).into hF16 (by simp) (by simp)
  go_wp2_with (fail)
  refine (hRC _ _ (by omega) h16).mono ?_
  rintro e w17 ⟨rfl, h17, hF17⟩
  go_wp2_with (fail)
  refine (getSel_none h17.cm).mono ?_
  rintro e w18 ⟨rfl, hF18⟩
  have h18 := h17.fr0 hF18
  obtain ⟨pc18, hpc18, ⟨c0, c1, c2, c3, c5, c6, c7, f7, hlt⟩, hB18, hbr18⟩ := h18.rn.ren
  go_wp2_with (fail)
  obtain ⟨h19, hF19⟩ := h18.pc (pre.size + t.size - (t.size - k)) (by omega)
  have h20 := h19.fr0 ((Fr.refl 0 [] [] _).alloc (.cells #[.string .empty, .string .empty] 73))
  refine leaves_cons (f := 251) (args := #[.pointer (some ⟨o, 0, none⟩)]) (by simp) (by kernel_rfl) ?_
  refine (showCursor_d h20.rn.wr (by omega)).mono ?_
  rintro e u' w21 ⟨rfl, rfl, hW21, hF21⟩
  have h21 := h20.outW hW21 hF21
  refine ⟨_, results_none rfl _ _ _, rfl, h21.le (by omega), ?_⟩
  exact (((hFd.into hF17 (by simp) (by simp)).ext hF18).into hF19 (by simp) (by simp)).alloc _ |>.into hF21 (by simp) (by simp)
end Go.Proofs.YtiepopbmbgfhkaaGreat
