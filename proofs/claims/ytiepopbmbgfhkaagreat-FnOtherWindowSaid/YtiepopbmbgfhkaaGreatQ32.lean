/-
  renderCompletion, where there are suggestions.
-/
import Derived.Test.YtiepopbmbgfhkaaGreatQ31
import Derived.Test.YtiepopbmbgfhkaaGreatQ12
import Derived.Deep.DeepCutAuto
namespace Go.Proofs.YtiepopbmbgfhkaaGreat
open Go.RowKit
open List renaming setIfInBounds_toArray → zq1, set_cons_zero → zq2, set_cons_succ → zq3
open Int renaming toNat_natCast → zq4, toNat_sub → zq5, toNat_zero → zq6
set_option maxHeartbeats 40000000
set_option maxRecDepth 20000
set_option linter.unusedVariables false
set_option linter.unusedSimpArgs false

theorem under72 : Tryz.prog.underlying 72 = some (.slice (Tryz.prog.elem 72)) := by kernel_rfl
theorem elem72 : Tryz.prog.elem 72 = 73 := by kernel_rfl
theorem size73 (w : World) : (sizeOf 73).run Tryz.prog w = .ok 2 w := by kernel_rfl
/-- 's[i:j]' of suggestions. -/
theorem ex_cutP {o : Oper} {a : Act} {w : World} {g n cap i j : Nat} {x y z : Operand} (ho : o.op = .slice 72 x (some y) (some z) none) (hx : a.eval x = .slice (some ⟨g, 0, none⟩) n cap) (hy : a.eval y = .int .i64 i) (hz : a.eval z = .int .i64 j) (hij : i ≤ j) (hj : j ≤ cap) (hi : i < cap) :
    (execOp a.eval o).run Tryz.prog w = .ok (.value (.slice (some ⟨g, i * 2, none⟩) (j - i) (cap - i))) w := by
  have hr : (Instr.sliceAt 72 (.slice (some ⟨g, 0, none⟩) n cap) (some (.int .i64 i)) (some (.int .i64 j)) none).run Tryz.prog w = .ok (.slice (some ⟨g, i * 2, none⟩) (j - i) (cap - i)) w := by
    rw [run_sliceAt_slice (P := Tryz.prog) (t := 72) (h := under72), run_slice_lh (P := Tryz.prog) (t := 72) (ht := under72) (h0 := Int.natCast_nonneg i) (h1 := by omega) (h2 := by omega)]
    rw [elem72, size73]
    simp only [Result.andThen_ok, Int.toNat_natCast]
    unfold sliced
    rw [if_neg (by omega)]
    simp [Addr.add]
    omega
  unfold execOp
  simp only [ho, hx, hy, hz, Sem.run_bind, Option.map_some, Option.map_none, hr, Result.andThen_ok, Sem.run_pure]

/-- The other colours of a renderer. -/
structure RnD (w : World) (r : Nat) : Prop where
  c14 : w.cell? ⟨r, 14, none⟩ = some (.int .i64 16)
  c15 : w.cell? ⟨r, 15, none⟩ = some (.int .i64 7)
  c16 : w.cell? ⟨r, 16, none⟩ = some (.int .i64 1)
  c17 : w.cell? ⟨r, 17, none⟩ = some (.int .i64 15)
  c18 : w.cell? ⟨r, 18, none⟩ = some (.int .i64 1)
  c19 : w.cell? ⟨r, 19, none⟩ = some (.int .i64 15)
  c20 : w.cell? ⟨r, 20, none⟩ = some (.int .i64 16)
  c21 : w.cell? ⟨r, 21, none⟩ = some (.int .i64 7)
  c22 : w.cell? ⟨r, 22, none⟩ = some (.int .i64 9)
  c23 : w.cell? ⟨r, 23, none⟩ = some (.int .i64 7)
theorem Rn.cold {base : Nat} {w : World} {r o n : Nat} {pre : ByteArray} {cols : Nat} (h : Rn base w r o pre cols n) : RnD w r := by
  obtain ⟨pc, hpc, -, hB, hbr⟩ := h.ren
  exact ⟨hB.cell 14, hB.cell 15, hB.cell 16, hB.cell 17, hB.cell 18, hB.cell 19, hB.cell 20, hB.cell 21, hB.cell 22, hB.cell 23⟩

/-- What is asked of suggestions that are rendered. -/
structure Wnd (pre : ByteArray) (cols : Nat) (q : Cp) (vs : Int) (tmp : List Pk) : Prop where
  hx : ∀ x ∈ tmp, Prn x.1 ∧ x.1.size ≤ 100 ∧ Prn x.2 ∧ x.2.size ≤ 100
  hx0 : ∀ x ∈ tmp, x.1.size ≠ 0
  hl : tmp.length ≤ 12
  hm : 1 ≤ q.most
  hcol : pre.size + 13 ≤ cols
  v0 : 0 ≤ vs
  v1 : vs + (min q.most tmp.length : Nat) ≤ tmp.length

theorem wrapX {cols x WW XW BB : Nat} (h1 : x + WW = XW) (h2 : cols ≤ XW) (h3 : XW - cols = BB) (h4 : XW ≤ 240) (h5 : BB < 120) :
    -120 < (BB : Int) ∧ (BB : Int) < 120 ∧ IntKind.i64.wrap ((x : Int) + WW) = XW ∧ IntKind.i64.wrap ((XW : Int) - cols) = BB := by
  refine ⟨by omega, by omega, ?_, ?_⟩
  · rw [show (x : Int) + WW = (XW : Int) by omega]; exact wrap_in (by omega) (by omega)
  · rw [show (XW : Int) - cols = (BB : Int) by omega]; exact wrap_in (by omega) (by omega)

/-- What stands while suggestions are rendered. -/
structure RD (base : Nat) (w : World) (r o b L c : Nat) (pre : ByteArray) (cols : Nat) (t : ByteArray) (k : Nat) (q : Cp) (sel vs : Int) (tmp : List Pk) (g : Nat) (fs : List Pk) (P1 P2 : Nat) (z1 z2 : Int) (m : Nat) (wx : World) : Prop where
  scr : Scr base wx r o b L c pre cols m t k q sel vs tmp
  pb : PB wx g fs
  b1 : Blk wx P1 #[.int .i64 z1] 3
  b2 : Blk wx P2 #[.int .i64 z2] 3
  fr : Fr base [5, 143] [b] w wx
section
variable {base : Nat} {w wx w1 : World} {r o b L c : Nat} {pre : ByteArray} {cols : Nat} {t : ByteArray} {k : Nat} {q : Cp} {sel vs : Int} {tmp : List Pk} {g : Nat} {fs : List Pk} {P1 P2 : Nat} {z1 z2 : Int} {m m' : Nat}
theorem RD.outR (h : RD base w r o b L c pre cols t k q sel vs tmp g fs P1 P2 z1 z2 m wx) (hR : Rn base w1 r o pre cols m') (hF : Fr base [5, 143] [] wx w1) : RD base w r o b L c pre cols t k q sel vs tmp g fs P1 P2 z1 z2 m' w1 :=
  ⟨h.scr.out hR hF, h.pb.fr hF (.inr ⟨by simp, by decide⟩), hF.blk h.b1 (.inr ⟨by simp, by decide⟩), hF.blk h.b2 (.inr ⟨by simp, by decide⟩), h.fr.into hF (by simp) (by simp)⟩
theorem RD.out (h : RD base w r o b L c pre cols t k q sel vs tmp g fs P1 P2 z1 z2 m wx) (hW : Wr base w1 o m') (hF : Fr base [5, 143] [] wx w1) : RD base w r o b L c pre cols t k q sel vs tmp g fs P1 P2 z1 z2 m' w1 :=
  h.outR (h.scr.rn.after hF hW) hF
theorem RD.fr0 {base' : Nat} (h : RD base w r o b L c pre cols t k q sel vs tmp g fs P1 P2 z1 z2 m wx) (hF : Fr base' [] [] wx w1) : RD base w r o b L c pre cols t k q sel vs tmp g fs P1 P2 z1 z2 m w1 :=
  ⟨h.scr.fr0 hF, h.pb.fr0 hF, hF.blk0 h.b1, hF.blk0 h.b2, h.fr.ext hF⟩
theorem RD.drew (h : RD base w r o b L c pre cols t k q sel vs tmp g fs P1 P2 z1 z2 m wx) : RD base w r o b L c pre cols t k q sel vs tmp g fs P1 P2 z1 z2 m wx.drew := h.fr0 ((Fr.refl 0 [] [] wx).drew)
theorem RD.le (h : RD base w r o b L c pre cols t k q sel vs tmp g fs P1 P2 z1 z2 m wx) (hm : m ≤ m') : RD base w r o b L c pre cols t k q sel vs tmp g fs P1 P2 z1 z2 m' wx :=
  ⟨h.scr.le hm, h.pb, h.b1, h.b2, h.fr⟩
theorem RD.c0 (h : RD base w r o b L c pre cols t k q sel vs tmp g fs P1 P2 z1 z2 m wx) : wx.cell? ⟨r, 0, none⟩ = some (.iface 144 (.pointer (some ⟨o, 0, none⟩))) := by
  obtain ⟨pc, hpc, C, hB, hbr⟩ := h.scr.rn.ren
  exact C.c0
theorem RD.c6 (h : RD base w r o b L c pre cols t k q sel vs tmp g fs P1 P2 z1 z2 m wx) : wx.cell? ⟨r, 6, none⟩ = some (.int .u16 cols) := by
  obtain ⟨pc, hpc, C, hB, hbr⟩ := h.scr.rn.ren
  exact C.c6
theorem RD.rlt (h : RD base w r o b L c pre cols t k q sel vs tmp g fs P1 P2 z1 z2 m wx) : r < wx.heap.size := by
  obtain ⟨pc, hpc, C, hB, hbr⟩ := h.scr.rn.ren
  exact C.lt
end

theorem renderComp_c {base : Nat} {w : World} {r o b L c : Nat} {pre : ByteArray} {cols n : Nat} {t : ByteArray} {k : Nat} {q : Cp} {sel vs : Int} {tmp : List Pk} (h : Scr base w r o b L c pre cols n t k q sel vs tmp) (hok : ScrOk pre cols t k q) (hw : Wnd pre cols q vs tmp) (hne : tmp ≠ []) (hsel : -10 ≤ sel ∧ sel ≤ 1000) (hn : n + 20000 ≤ 1000000000) :
    Calls Tryz.prog 82 #[.pointer (some ⟨r, 0, none⟩), .pointer (some ⟨b, 0, none⟩), .pointer (some ⟨c, 0, none⟩)] w fun e w' => e = .returned (.tuple #[]) ∧ Scr base w' r o b L c pre cols (n + 20000) t k q sel vs tmp ∧ Fr base [5, 143] [b] w w' := by
  obtain ⟨hpre, hpres, hc1, hc2, ht, hts, hk, hq, hmost⟩ := hok
  obtain ⟨hx, hx0, hl, hm, hcol, v0, v1⟩ := hw
  have HX := Lib.hid hx
  have HX0 := Lib.hid hx0
  clear hx hx0
  obtain ⟨v, rfl⟩ : ∃ v : Nat, vs = v := ⟨vs.toNat, by omega⟩
  have hl0 : tmp.length ≠ 0 := by cases tmp; exact absurd rfl hne; simp
  have HNE := Lib.hid hne
  clear hne
  have m1 := md_SetColor
  have m2 := na_SetColor
  have m3 := md_WriteStr
  have m4 := na_WriteStr
  have m5 := md_CursorDown
  have m6 := na_CursorDown
  have m7 := md_CursorUp
  have m8 := na_CursorUp
  have m9 := md_CursorForward
  have m10 := na_CursorForward
  obtain ⟨e1, -⟩ := int_ne (a := (tmp.length : Int)) (b := 0) (by omega)
  have hw1 : IntKind.i64.wrap (q.most : Int) = q.most := wrap_in (by omega) (by omega)
  have hw2 : IntKind.i64.wrap (cols : Int) = cols := wrap_in (by omega) (by omega)
  obtain ⟨A, hA⟩ : ∃ A, cols - pre.size = A := ⟨_, rfl⟩
  obtain ⟨MX, hMX⟩ : ∃ MX, A - 1 = MX := ⟨_, rfl⟩
  have hMX2 : 12 ≤ MX ∧ MX + 1 = A ∧ A + pre.size = cols := by omega
  have hsA : IntKind.i64.wrap ((cols : Int) - pre.size) = A := by rw [show (cols : Int) - pre.size = (A : Int) by omega]; exact wrap_in (by omega) (by omega)
  have hsM : IntKind.i64.wrap ((A : Int) - 1) = MX := by rw [show (A : Int) - 1 = (MX : Int) by omega]; exact wrap_in (by omega) (by omega)
  clear hMX hA
  obtain ⟨N0, hN0⟩ : ∃ N, w.heap.size = N := ⟨_, rfl⟩
  have hbN : b < N0 := by obtain ⟨⟨cs, hb⟩, -⟩ := h.buf.blk; have := hb.lt; omega
  have HN0 := Lib.hid hN0
  clear hN0
  go_enter Tryz.func82, Tryz.ntmps82
  go_wp2_with (fail)
  refine (getSuggestions_c h.cm).mono ?_
  rintro e w1 ⟨⟨p1, k1, rfl, hP1⟩, rfl⟩
  go_wp2_with (fail)
  refine (getSuggestions_c h.cm).mono ?_
  rintro e w1 ⟨⟨p2, k2, rfl, hP2⟩, rfl⟩
  clear hP2
  go_wp2_with (fail)
  refine (prefix_c h.rn).mono ?_
  rintro e w1 ⟨rfl, hF1⟩
  have h1 := h.fr0 hF1
  have hP1' := hP1.fr0 hF1
  go_wp2_with (fail)
  have hS : (fun w' : World => w'.cell? ⟨r, 6, none⟩ = some (.int .u16 cols)) w1.drew := by
    obtain ⟨pc, hpc, ⟨c0, c1, c2, c3, c5, c6, c7, f7, hlt⟩, hB, hbr⟩ := h1.rn.ren
    exact c6
  refine wp_region_plan [4, 5] [7, 10] (fun w' : World => w'.cell? ⟨r, 6, none⟩ = some (.int .u16 cols)) (.pure 0 (.pure 1 (.pure 2 (.pure 3 (.take 4 (.take 5 (.pure 6 (.go 7 (.pure 8 (.pure 9 (.go 10 (.pure 11 (.pure 12 (.pure 13 (.pure 14 (.pure 15 .done)))))))))))))))) hmix (by kernel_rfl) ?_
  repeat (first | (refine plan_pure (v := ?_) rfl rfl ?_ ?_; rotate_left; (intro w'; go_simp <;> with_reducible rfl); (try simp only [Act.put, zq1, zq2, zq3, zq4, zq5, zq6])) | (refine plan_take (v := ?_) rfl hS rfl ?_ ?_; rotate_left; (intro w' hSw; (try dsimp only at hSw); go_simp <;> with_reducible rfl); (try simp only [Act.put, zq1, zq2, zq3, zq4, zq5, zq6])))
  refine plan_goS rfl rfl (fun K hK => ?_)
  go_simp; refine (width_c pre hpre (by omega) _).mono ?_; rintro e w2 ⟨rfl, hF2⟩; refine hK _ _ (hF2.cell0 hS) ?_; clear hK K; (try simp only [Act.put, zq1, zq2, zq3, zq4, zq5, zq6])
  repeat (first | (refine plan_pure (v := ?_) rfl rfl ?_ ?_; rotate_left; (intro w'; go_simp <;> with_reducible rfl); (try simp only [Act.put, zq1, zq2, zq3, zq4, zq5, zq6])))
  refine plan_go rfl (by kernel_rfl) rfl (fun K hK => ?_)
  go_simp; refine (formatSuggestions_c (MX : Int) ((hP1'.fr0 ((Fr.refl 0 [] [] w1).drew)).fr0 hF2) HX.out HX0.out HNE.out (by omega) (by omega) (by omega)).mono ?_; rintro e w3 ⟨g, W, fs, rfl, hB3, hsh, hg, hW, hF3⟩; refine hK _ _ ?_; clear hK K; (try simp only [Act.put, zq1, zq2, zq3, zq4, zq5, zq6])
  repeat (first | (refine plan_pure (v := ?_) rfl rfl ?_ ?_; rotate_left; (intro w'; go_simp <;> with_reducible rfl); (try simp only [Act.put, zq1, zq2, zq3, zq4, zq5, zq6])))
  refine plan_done ?_
  have h3 := (h1.drew.fr0 hF2).fr0 hF3
  have hF03 : Fr base [5, 143] [b] w w3 := ((((Fr.refl base [5, 143] [b] w).ext hF1).drew.ext hF2)).ext hF3
  have hgN : N0 ≤ g := by have := HN0.out; have := hF1.size; have := hF2.size; simp at this; omega
  clear hF1 hF2 hF3 h h1 hP1 hP1' hS
  obtain ⟨n9, hn9⟩ : ∃ n, tmp.length = n := ⟨_, rfl⟩
  have HN9 := Lib.hid hn9
  rw [hn9] at hsh hl v1 e1 hl0
  obtain ⟨wh, hwh⟩ : ∃ wh, min q.most n9 = wh := ⟨_, rfl⟩
  rw [hwh] at v1
  have hwh2 : 1 ≤ wh ∧ wh ≤ q.most ∧ wh ≤ n9 := by omega
  have HWH := Lib.hid hwh
  clear hwh hn9
  obtain ⟨p3, k3, ⟨g0, g1, g2, g3, g4, g5, g6, gf0, gf1, gf4, glt⟩, hC3, hP3, -⟩ := h3.cm.ren
  simp only [HN9.out]
  obtain ⟨WW, hWW⟩ : ∃ WW, W + 1 = WW := ⟨_, rfl⟩
  have hww : (W : Int) + 1 = WW := by omega
  have hW2 : 1 ≤ WW ∧ WW + pre.size ≤ cols := by omega
  clear hWW hW
  go_upto_if 54 with (fail)
  clear hww
  go_cut [10] from 54 to 59 (fun v10 wx => wx = w3 ∧ v10 = .int .i64 wh)
  case first =>
    by_cases hmn : q.most < n9
    · have d1 : decide ((q.most : Int) < n9) = true := by simpa using hmn
      have e9 : q.most = wh := by have := HWH.out; omega
      have E9 := Lib.hid e9
      clear e9
      go_wp2_with (fail)
      go_meet
      exact ⟨rfl, by rw [E9.out]⟩
    · have d1 : decide ((q.most : Int) < n9) = false := by simpa using hmn
      have e9 : n9 = wh := by have := HWH.out; omega
      have E9 := Lib.hid e9
      clear e9
      go_wp2_with (fail)
      go_meet
      exact ⟨rfl, by rw [E9.out]⟩
  case rest =>
    obtain ⟨rfl, rfl⟩ := hcut
    obtain ⟨VW, hVW⟩ : ∃ VW, v + wh = VW := ⟨_, rfl⟩
    have hsV : IntKind.i64.wrap ((v : Int) + wh) = VW := by rw [show (v : Int) + wh = (VW : Int) by omega]; exact wrap_in (by omega) (by omega)
    have hVW2 : VW ≤ n9 ∧ v ≤ VW ∧ v < n9 ∧ VW - v = wh := by omega
    clear hVW
    go_wp2_with (fail)
    have hS : (fun w' : World => w'.cell? ⟨c, 4, none⟩ = some (.int .i64 v)) wc.drew := g4
    refine wp_region_plan [4, 8] [] (fun w' : World => w'.cell? ⟨c, 4, none⟩ = some (.int .i64 v)) (.pure 0 (.pure 1 (.pure 2 (.pure 3 (.take 4 (.pure 5 (.pure 6 (.pure 7 (.take 8 (.pure 9 (.pure 10 (.pure 11 (.pure 12 .done))))))))))))) hmix (by kernel_rfl) ?_
    repeat (first | (refine plan_pure rfl rfl (fun w' => ex_cutP rfl rfl rfl rfl ?_ ?_ ?_) ?_; omega; omega; omega; (try simp only [Act.put, zq1, zq2, zq3, zq4, zq5, zq6])) | (refine plan_pure (v := ?_) rfl rfl ?_ ?_; rotate_left; (intro w'; go_simp <;> with_reducible rfl); (try simp only [Act.put, zq1, zq2, zq3, zq4, zq5, zq6])) | (refine plan_take (v := ?_) rfl hS rfl ?_ ?_; rotate_left; (intro w' hSw; (try dsimp only at hSw); go_simp <;> with_reducible rfl); (try simp only [Act.put, zq1, zq2, zq3, zq4, zq5, zq6])))
    refine plan_done ?_
    have hgb : g ≠ b := by omega
    have h4 := h3.drew
    have hB4 : PB wc.drew g fs := hB3
    have hF04 := hF03.drew
    clear h3 hB3 hF03 hS p3 k3 g0 g1 g2 g3 g4 g5 g6 gf0 gf1 gf4 glt hC3 hP3 hsV
    go_wp2_with (fail)
    refine (prepareArea_c h4.rn wh (by omega) (by omega)).mono ?_
    rintro e w5 ⟨rfl, hR5, hF5⟩
    have h5 := h4.out hR5 hF5
    have hB5 := hB4.fr hF5 (.inr ⟨by simp, by decide⟩)
    have hF05 := hF04.into hF5 (by simp) (by simp)
    clear h4 hB4 hF04 hR5 hF5
    go_wp2_with (fail)
    refine (width_c pre hpre (by omega) _).mono ?_
    rintro e w6 ⟨rfl, hF6⟩
    have h6 := h5.fr0 hF6
    have hB6 := hB5.fr0 hF6
    have hF06 := hF05.ext hF6
    clear h5 hB5 hF05 hF6
    go_wp2_with (fail)
    refine (doc_c h6.buf).mono ?_
    rintro e w7 ⟨d, rfl, hd, hU7, hF7⟩
    have h7 := h6.doc hU7 hF7
    have hB7 := hB6.fr hF7 (.inr ⟨by simpa using hgb, by simp⟩)
    have hF07 := hF06.into hF7 (by simp) (by simp)
    clear h6 hB6 hF06 hF7 hU7
    go_wp2_with (fail)
    refine (before_c hd ht.asc (by omega) hk).mono ?_
    rintro e w8 ⟨rfl, hF8⟩
    have h8 := h7.fr0 hF8
    have hB8 := hB7.fr0 hF8
    have hF08 := hF07.ext hF8
    clear h7 hB7 hF07 hF8 hd
    have hex : (t.extract 0 k).size = k := by simp; omega
    go_wp2_with (fail)
    refine (width_c (t.extract 0 k) (ht.extract _ _) (by omega) _).mono ?_
    rintro e w9 ⟨rfl, hF9⟩
    have h9 := h8.fr0 hF9
    have hB9 := hB8.fr0 hF9
    have hF09 := hF08.ext hF9
    clear h8 hB8 hF08 hF9
    obtain ⟨CU, hCU⟩ : ∃ CU, pre.size + k = CU := ⟨_, rfl⟩
    have hcu : (pre.size : Int) + k = CU := by omega
    go_wp2_with (fail)
    refine (toPos_c h9.rn hc1 hc2 CU (by omega)).mono ?_
    rintro e wa ⟨x, y, rfl, hx, hxa, hy, hFa⟩
    have ha := h9.fr0 hFa
    have hBa := hB9.fr0 hFa
    have hF0a := hF09.ext hFa
    clear h9 hB9 hF09 hFa hcu hex
    obtain ⟨pc, hpc, ⟨c0, c1, c2, c3, c5, c6, c7, f7, hlt⟩, hRB, hbr⟩ := ha.rn.ren
    go_upto_if 96 with (fail)
    clear pc hpc c0 c1 c2 c3 c5 c7 f7 hRB hbr
    have hCU2 : CU ≤ 1100 := by omega
    clear hCU
    go_cut [11] from 88 to 108 (fun v11 wx => ∃ cu m : Nat, v11 = .int .i64 cu ∧ cu ≤ CU ∧ m = n + 2500 ∧ Scr base wx r o b L c pre cols m t k q sel v tmp ∧ PB wx g fs ∧ Fr base [5, 143] [b] w wx)
    case first =>
      by_cases hge : cols ≤ x + WW
      · have d1 : decide ((cols : Int) ≤ (x : Int) + WW) = true := by simp; omega
        obtain ⟨XW, hXW⟩ : ∃ XW, x + WW = XW := ⟨_, rfl⟩
        have hxw : (x : Int) + WW = XW := by omega
        rw [hxw] at d1
        have hge2 : cols ≤ XW ∧ XW - cols ≤ CU := by omega
        obtain ⟨BB, hBB⟩ : ∃ BB, XW - cols = BB := ⟨_, rfl⟩
        have hbb : (XW : Int) - cols = BB := by omega
        have hBB2 : BB ≤ CU := by omega
        clear hXW hBB hge hge2
        go_wp2_with (fail)
        refine (backward_c ha.rn hc1 hc2 CU BB (by omega) hBB2 (by omega)).mono ?_
        rintro e wb ⟨rfl, hRb, hFb⟩
        go_wp2_with (fail)
        go_meet
        exact ⟨CU - BB, n + 2500, rfl, by omega, rfl, (ha.out hRb hFb).le (by omega), hBa.fr hFb (.inr ⟨by simp, by decide⟩), hF0a.into hFb (by simp) (by simp)⟩
      · have d1 : decide ((cols : Int) ≤ (x : Int) + WW) = false := by simp; omega
        go_wp2_with (fail)
        go_meet
        exact ⟨CU, n + 2500, rfl, Nat.le_refl _, rfl, ha.le (by omega), hBa, hF0a⟩
    case rest =>
      obtain ⟨cu, m, rfl, hcu, hm2, h1, hB1, hF1⟩ := hcut
      clear ha hBa hF0a c6 hlt
      obtain ⟨dh, mh, zh, hBH⟩ := bar_h (a := wh) (b := n9) (by omega) (by omega) (by omega)
      obtain ⟨dt, mt, zt, hBT⟩ := bar_t (a := wh) (b := n9) (v := v) (by omega) (by omega) (by omega) (by omega)
      have r1 : ∀ (a : Int) w, (convert 3 169 (.int .i64 a)).run Tryz.prog w = .ok (.float .f64 (floatOfInt .f64 a)) w := fun a w => run_convert_int_float (P := Tryz.prog) w 3 169 .i64 .f64 a (by kernel_rfl) (by kernel_rfl)
      have r2 : ∀ t w, (binOp .quo t (.float .f64 (floatOfInt .f64 wh)) (.float .f64 (floatOfInt .f64 n9))).run Tryz.prog w = .ok (.float .f64 dh) w := fun t w => run_float_arith (P := Tryz.prog) w .quo t .f64 _ _ _ hBH.hq
      have r3 : ∀ t w, (binOp .mul t (.float .f64 (floatOfInt .f64 wh)) (.float .f64 dh)).run Tryz.prog w = .ok (.float .f64 mh) w := fun t w => run_float_arith (P := Tryz.prog) w .mul t .f64 _ _ _ hBH.hm
      have r4 : ∀ w, (convert 169 3 (.float .f64 (clampF (floatOfInt .f64 wh) 4607182418800017408 mh))).run Tryz.prog w = .ok (.int .i64 zh) w := fun w => run_convert_float_int (P := Tryz.prog) w 169 3 .f64 .i64 _ _ (by kernel_rfl) (by kernel_rfl) hBH.hz
      have r5 : ∀ t w, (binOp .quo t (.float .f64 (floatOfInt .f64 v)) (.float .f64 (floatOfInt .f64 n9))).run Tryz.prog w = .ok (.float .f64 dt) w := fun t w => run_float_arith (P := Tryz.prog) w .quo t .f64 _ _ _ hBT.hq
      have r6 : ∀ t w, (binOp .mul t (.float .f64 (floatOfInt .f64 wh)) (.float .f64 dt)).run Tryz.prog w = .ok (.float .f64 mt) w := fun t w => run_float_arith (P := Tryz.prog) w .mul t .f64 _ _ _ hBT.hm
      have r7 : ∀ w, (convert 169 3 (.float .f64 mt)).run Tryz.prog w = .ok (.int .i64 zt) w := fun w => run_convert_float_int (P := Tryz.prog) w 169 3 .f64 .i64 _ _ (by kernel_rfl) (by kernel_rfl) hBT.hz
      clear hBH hBT
      obtain ⟨p3, k3, ⟨g0, g1, g2, g3, g4, g5, g6, gf0, gf1, gf4, glt⟩, hC3, hP3, -⟩ := h1.cm.ren
      rw [HN9.out] at g1
      go_wp2_with (fail)
      refine (clamp_c _ _ _ _).mono ?_
      rintro e wb ⟨rfl, rfl⟩
      obtain ⟨P1, hP1⟩ : ∃ P, wc.heap.size = P := ⟨_, rfl⟩
      rw [hP1] at glt
      go_wp2_with (fail)
      have hFz : Fr 0 [] [] wc ((wc.alloc (.cells #[.int .i64 zh] 3)).alloc (.cells #[.int .i64 zt] 3)) := ((Fr.refl 0 [] [] wc).alloc _).alloc _
      have h2 : RD base w r o b L c pre cols t k q sel v tmp g fs P1 (P1 + 1) zh zt m ((wc.alloc (.cells #[.int .i64 zh] 3)).alloc (.cells #[.int .i64 zt] 3)) :=
        ⟨h1.fr0 hFz, hB1.fr0 hFz, (Blk.new' hP1.symm _ _).alloc _, Blk.new' (by simp [hP1]) _ _, hF1.ext hFz⟩
      obtain ⟨P2, hP2⟩ : ∃ P, P1 + 1 = P := ⟨_, rfl⟩
      rw [hP2] at h2
      simp only [hP2]
      obtain ⟨W2, hW2⟩ : ∃ W, ((wc.alloc (.cells #[.int .i64 zh] 3)).alloc (.cells #[.int .i64 zt] 3)) = W := ⟨_, rfl⟩
      rw [hW2] at h2 ⊢
      obtain ⟨SV, hSV⟩ : ∃ SV : Int, IntKind.i64.wrap (sel - (v : Int)) = SV := ⟨_, rfl⟩
      clear hW2 hP1 hP2 hFz h1 hB1 hF1 r1 r2 r3 r4 r5 r6 r7 g0 g1 g2 g3 g4 g5 g6 gf0 gf1 gf4 glt hC3 hP3
      have hS : (fun w' : World => w'.cell? ⟨c, 0, none⟩ = some (.int .i64 sel) ∧ w'.cell? ⟨c, 4, none⟩ = some (.int .i64 v)) W2.drew := by
        obtain ⟨p3, k3, ⟨g0, g1, g2, g3, g4, g5, g6, gf0, gf1, gf4, glt⟩, hC3, hP3, -⟩ := h2.scr.cm.ren
        exact ⟨g0, g4⟩
      refine wp_region_plan [3, 7] [] (fun w' : World => w'.cell? ⟨c, 0, none⟩ = some (.int .i64 sel) ∧ w'.cell? ⟨c, 4, none⟩ = some (.int .i64 v)) (.pure 0 (.pure 1 (.pure 2 (.take 3 (.pure 4 (.pure 5 (.pure 6 (.take 7 (.pure 8 (.pure 9 .done)))))))))) hmix (by kernel_rfl) ?_
      repeat (first | (refine plan_pure (v := ?_) rfl rfl ?_ ?_; rotate_left; (intro w'; go_simp <;> with_reducible rfl); (try simp only [Act.put, zq1, zq2, zq3, zq4, zq5, zq6])) | (refine plan_take (v := ?_) rfl hS rfl ?_ ?_; rotate_left; (intro w' hSw; (try dsimp only at hSw); go_simp <;> with_reducible rfl); (try simp only [Act.put, zq1, zq2, zq3, zq4, zq5, zq6])))
      refine plan_done ?_
      replace h2 := h2.drew
      clear hSV hS
      have c0 := h2.c0
      have hlt := h2.rlt
      go_wp2_with (fail)
      refine (setColor_c (f := 16) (b := 7) h2.scr.rn.wr (by omega) (by omega) (by omega)).mono ?_
      rintro e w3 ⟨rfl, hW3, hF3⟩
      have h3 := h2.out hW3 hF3
      clear h2 c0 hlt hW3 hF3
      go_wp2_with (fail)
      obtain ⟨n3, hn3⟩ : ∃ n3, m + 30 = n3 := ⟨_, rfl⟩
      rw [hn3] at h3
      have hn3b : n3 ≤ n + 3000 := by omega
      clear hn3 hm2
      go_loopw [21] (fun v21 w' => ∃ i : Nat, i ≤ wh ∧ v21 = .int .i64 i ∧ RD base w r o b L c pre cols t k q sel v tmp g fs P1 P2 zh zt (n3 + 1000 * i) w') (fun v21 _ => wh - (intOf v21).toNat)
      case atStart => exact ⟨0, by omega, rfl, h3⟩
      clear h3
      obtain ⟨i, hi, rfl, h4⟩ := hrel
      by_cases hlt : i < wh
      · have d1 : decide ((i : Int) < wh) = true := by simpa using hlt
        have d2 : (i : Int) < wh := by omega
        obtain ⟨m4, hm4⟩ : ∃ m4, n3 + 1000 * i = m4 := ⟨_, rfl⟩
        rw [hm4] at h4
        have hm4b : m4 ≤ n + 3000 + 1000 * i := by omega
        have HM4 := Lib.hid hm4
        clear hm4
        have hvi : v + i < fs.length := by rw [hsh.1]; omega
        have hq9 := hsh.2 _ (List.getElem_mem hvi)
        obtain ⟨t1, ht1⟩ : ∃ t, (fs[v + i]'hvi).1 = t := ⟨_, rfl⟩
        obtain ⟨t2, ht2⟩ : ∃ t, (fs[v + i]'hvi).2 = t := ⟨_, rfl⟩
        have HT1 := Lib.hid (show ∀ wx, PB wx g fs → wx.cell? ⟨g, v * 2 + i * 2, none⟩ = some (.string t1) from fun wx h => by have h9 := (h.get (v + i) hvi).1; rw [ht1, Nat.add_mul] at h9; exact h9)
        have HT2 := Lib.hid (show ∀ wx, PB wx g fs → wx.cell? ⟨g, v * 2 + i * 2 + 1, none⟩ = some (.string t2) from fun wx h => by have h9 := (h.get (v + i) hvi).2.1; rw [ht2, Nat.add_mul] at h9; exact h9)
        rw [ht1, ht2] at hq9
        have HQ := Lib.hid hq9
        clear hq9 ht1 ht2 hvi
        have c0 := h4.c0
        have rlt := h4.rlt
        obtain ⟨B, hB⟩ : ∃ B, ((i : Int) == SV) = B := ⟨_, rfl⟩
        go_wp2_with (fail)
        refine (down_c h4.scr.rn.wr 1 (by omega) (by omega) (by omega)).mono ?_
        rintro e w5 ⟨rfl, hW5, hF5⟩
        have h5 := h4.out hW5 hF5
        clear h4 c0 rlt hW5 hF5
        go_upto_if 167 with (fail)
        go_cut [] from 167 to 197 (fun wx => RD base w r o b L c pre cols t k q sel v tmp g fs P1 P2 zh zt (m4 + 40) wx)
        case first =>
          cases B with
          | true =>
            go_wp2_with (fail)
            have hS : (fun w' : World => w'.cell? ⟨r, 0, none⟩ = some (.iface 144 (.pointer (some ⟨o, 0, none⟩))) ∧ w'.cell? ⟨r, 16, none⟩ = some (.int .i64 1) ∧ w'.cell? ⟨r, 17, none⟩ = some (.int .i64 15)) w5.drew := ⟨h5.c0, h5.scr.rn.cold.c16, h5.scr.rn.cold.c17⟩
            refine wp_region_plan [3, 7, 11] [14] (fun w' : World => w'.cell? ⟨r, 0, none⟩ = some (.iface 144 (.pointer (some ⟨o, 0, none⟩))) ∧ w'.cell? ⟨r, 16, none⟩ = some (.int .i64 1) ∧ w'.cell? ⟨r, 17, none⟩ = some (.int .i64 15)) (.pure 0 (.pure 1 (.pure 2 (.take 3 (.pure 4 (.pure 5 (.pure 6 (.take 7 (.pure 8 (.pure 9 (.pure 10 (.take 11 (.pure 12 (.pure 13 (.go 14 .done))))))))))))))) hmix (by kernel_rfl) ?_
            repeat (first | (refine plan_pure (v := ?_) rfl rfl ?_ ?_; rotate_left; (intro w'; go_simp <;> with_reducible rfl); (try simp only [Act.put, zq1, zq2, zq3, zq4, zq5, zq6])) | (refine plan_take (v := ?_) rfl hS rfl ?_ ?_; rotate_left; (intro w' hSw; (try dsimp only at hSw); go_simp <;> with_reducible rfl); (try simp only [Act.put, zq1, zq2, zq3, zq4, zq5, zq6])))
            refine plan_go rfl (by kernel_rfl) rfl (fun K hK => ?_)
            go_simp; refine (setColor_c (f := 1) (b := 15) h5.drew.scr.rn.wr (by omega) (by omega) (by omega)).mono ?_; rintro e wz ⟨rfl, hW9, hF9⟩; refine hK _ _ ?_; clear hK K; (try simp only [Act.put, zq1, zq2, zq3, zq4, zq5, zq6])
            refine plan_done ?_
            have hz := h5.drew.out hW9 hF9
            clear hW9 hF9 hS
            go_wp2_with (fail)
            go_meet
            exact hz.le (by omega)
          | false =>
            go_wp2_with (fail)
            have hS : (fun w' : World => w'.cell? ⟨r, 0, none⟩ = some (.iface 144 (.pointer (some ⟨o, 0, none⟩))) ∧ w'.cell? ⟨r, 14, none⟩ = some (.int .i64 16) ∧ w'.cell? ⟨r, 15, none⟩ = some (.int .i64 7)) w5.drew := ⟨h5.c0, h5.scr.rn.cold.c14, h5.scr.rn.cold.c15⟩
            refine wp_region_plan [3, 7, 11] [14] (fun w' : World => w'.cell? ⟨r, 0, none⟩ = some (.iface 144 (.pointer (some ⟨o, 0, none⟩))) ∧ w'.cell? ⟨r, 14, none⟩ = some (.int .i64 16) ∧ w'.cell? ⟨r, 15, none⟩ = some (.int .i64 7)) (.pure 0 (.pure 1 (.pure 2 (.take 3 (.pure 4 (.pure 5 (.pure 6 (.take 7 (.pure 8 (.pure 9 (.pure 10 (.take 11 (.pure 12 (.pure 13 (.go 14 .done))))))))))))))) hmix (by kernel_rfl) ?_
            repeat (first | (refine plan_pure (v := ?_) rfl rfl ?_ ?_; rotate_left; (intro w'; go_simp <;> with_reducible rfl); (try simp only [Act.put, zq1, zq2, zq3, zq4, zq5, zq6])) | (refine plan_take (v := ?_) rfl hS rfl ?_ ?_; rotate_left; (intro w' hSw; (try dsimp only at hSw); go_simp <;> with_reducible rfl); (try simp only [Act.put, zq1, zq2, zq3, zq4, zq5, zq6])))
            refine plan_go rfl (by kernel_rfl) rfl (fun K hK => ?_)
            go_simp; refine (setColor_c (f := 16) (b := 7) h5.drew.scr.rn.wr (by omega) (by omega) (by omega)).mono ?_; rintro e wz ⟨rfl, hW9, hF9⟩; refine hK _ _ ?_; clear hK K; (try simp only [Act.put, zq1, zq2, zq3, zq4, zq5, zq6])
            refine plan_done ?_
            have hz := h5.drew.out hW9 hF9
            clear hW9 hF9 hS
            go_wp2_with (fail)
            go_meet
            exact hz.le (by omega)
        case rest =>
        have h6 := hcut
        clear hcut h5
        go_wp2_with (fail)
        have hS : (fun w' : World => w'.cell? ⟨r, 0, none⟩ = some (.iface 144 (.pointer (some ⟨o, 0, none⟩))) ∧ w'.cell? ⟨g, v * 2 + i * 2, none⟩ = some (.string t1)) wc.drew := ⟨h6.c0, HT1.out _ h6.pb⟩
        refine wp_region_plan [3, 8] [11] (fun w' : World => w'.cell? ⟨r, 0, none⟩ = some (.iface 144 (.pointer (some ⟨o, 0, none⟩))) ∧ w'.cell? ⟨g, v * 2 + i * 2, none⟩ = some (.string t1)) (.pure 0 (.pure 1 (.pure 2 (.take 3 (.pure 4 (.pure 5 (.pure 6 (.pure 7 (.take 8 (.pure 9 (.pure 10 (.go 11 .done)))))))))))) hmix (by kernel_rfl) ?_
        repeat (first | (refine plan_pure (v := ?_) rfl rfl ?_ ?_; rotate_left; (intro w'; go_simp <;> with_reducible rfl); (try simp only [Act.put, zq1, zq2, zq3, zq4, zq5, zq6])) | (refine plan_take (v := ?_) rfl hS rfl ?_ ?_; rotate_left; (intro w' hSw; (try dsimp only at hSw); go_simp <;> with_reducible rfl); (try simp only [Act.put, zq1, zq2, zq3, zq4, zq5, zq6])))
        refine plan_go rfl (by kernel_rfl) rfl (fun K hK => ?_)
        go_simp; refine (writeStr_c h6.drew.scr.rn.wr HQ.out.1.noEsc (by have := HQ.out; omega)).mono ?_; rintro e w7 ⟨rfl, hW9, hF9⟩; refine hK _ _ ?_; clear hK K; (try simp only [Act.put, zq1, zq2, zq3, zq4, zq5, zq6])
        refine plan_done ?_
        have h7 := (h6.drew.out hW9 hF9).le (show _ ≤ m4 + 240 by have := HQ.out; omega)
        clear hW9 hF9 hS
        clear h6
        go_upto_if 212 with (fail)
        go_cut [] from 212 to 242 (fun wx => RD base w r o b L c pre cols t k q sel v tmp g fs P1 P2 zh zt (m4 + 270) wx)
        case first =>
          cases B with
          | true =>
            go_wp2_with (fail)
            have hS : (fun w' : World => w'.cell? ⟨r, 0, none⟩ = some (.iface 144 (.pointer (some ⟨o, 0, none⟩))) ∧ w'.cell? ⟨r, 20, none⟩ = some (.int .i64 16) ∧ w'.cell? ⟨r, 21, none⟩ = some (.int .i64 7)) w7.drew := ⟨h7.c0, h7.scr.rn.cold.c20, h7.scr.rn.cold.c21⟩
            refine wp_region_plan [3, 7, 11] [14] (fun w' : World => w'.cell? ⟨r, 0, none⟩ = some (.iface 144 (.pointer (some ⟨o, 0, none⟩))) ∧ w'.cell? ⟨r, 20, none⟩ = some (.int .i64 16) ∧ w'.cell? ⟨r, 21, none⟩ = some (.int .i64 7)) (.pure 0 (.pure 1 (.pure 2 (.take 3 (.pure 4 (.pure 5 (.pure 6 (.take 7 (.pure 8 (.pure 9 (.pure 10 (.take 11 (.pure 12 (.pure 13 (.go 14 .done))))))))))))))) hmix (by kernel_rfl) ?_
            repeat (first | (refine plan_pure (v := ?_) rfl rfl ?_ ?_; rotate_left; (intro w'; go_simp <;> with_reducible rfl); (try simp only [Act.put, zq1, zq2, zq3, zq4, zq5, zq6])) | (refine plan_take (v := ?_) rfl hS rfl ?_ ?_; rotate_left; (intro w' hSw; (try dsimp only at hSw); go_simp <;> with_reducible rfl); (try simp only [Act.put, zq1, zq2, zq3, zq4, zq5, zq6])))
            refine plan_go rfl (by kernel_rfl) rfl (fun K hK => ?_)
            go_simp; refine (setColor_c (f := 16) (b := 7) h7.drew.scr.rn.wr (by omega) (by omega) (by omega)).mono ?_; rintro e wz ⟨rfl, hW9, hF9⟩; refine hK _ _ ?_; clear hK K; (try simp only [Act.put, zq1, zq2, zq3, zq4, zq5, zq6])
            refine plan_done ?_
            have hz := h7.drew.out hW9 hF9
            clear hW9 hF9 hS
            go_wp2_with (fail)
            go_meet
            exact hz.le (by omega)
          | false =>
            go_wp2_with (fail)
            have hS : (fun w' : World => w'.cell? ⟨r, 0, none⟩ = some (.iface 144 (.pointer (some ⟨o, 0, none⟩))) ∧ w'.cell? ⟨r, 18, none⟩ = some (.int .i64 1) ∧ w'.cell? ⟨r, 19, none⟩ = some (.int .i64 15)) w7.drew := ⟨h7.c0, h7.scr.rn.cold.c18, h7.scr.rn.cold.c19⟩
            refine wp_region_plan [3, 7, 11] [14] (fun w' : World => w'.cell? ⟨r, 0, none⟩ = some (.iface 144 (.pointer (some ⟨o, 0, none⟩))) ∧ w'.cell? ⟨r, 18, none⟩ = some (.int .i64 1) ∧ w'.cell? ⟨r, 19, none⟩ = some (.int .i64 15)) (.pure 0 (.pure 1 (.pure 2 (.take 3 (.pure 4 (.pure 5 (.pure 6 (.take 7 (.pure 8 (.pure 9 (.pure 10 (.take 11 (.pure 12 (.pure 13 (.go 14 .done))))))))))))))) hmix (by kernel_rfl) ?_
            repeat (first | (refine plan_pure (v := ?_) rfl rfl ?_ ?_; rotate_left; (intro w'; go_simp <;> with_reducible rfl); (try simp only [Act.put, zq1, zq2, zq3, zq4, zq5, zq6])) | (refine plan_take (v := ?_) rfl hS rfl ?_ ?_; rotate_left; (intro w' hSw; (try dsimp only at hSw); go_simp <;> with_reducible rfl); (try simp only [Act.put, zq1, zq2, zq3, zq4, zq5, zq6])))
            refine plan_go rfl (by kernel_rfl) rfl (fun K hK => ?_)
            go_simp; refine (setColor_c (f := 1) (b := 15) h7.drew.scr.rn.wr (by omega) (by omega) (by omega)).mono ?_; rintro e wz ⟨rfl, hW9, hF9⟩; refine hK _ _ ?_; clear hK K; (try simp only [Act.put, zq1, zq2, zq3, zq4, zq5, zq6])
            refine plan_done ?_
            have hz := h7.drew.out hW9 hF9
            clear hW9 hF9 hS
            go_wp2_with (fail)
            go_meet
            exact hz.le (by omega)
        case rest =>
        have h8 := hcut
        clear hcut h7
        go_wp2_with (fail)
        have hS : (fun w' : World => w'.cell? ⟨r, 0, none⟩ = some (.iface 144 (.pointer (some ⟨o, 0, none⟩))) ∧ w'.cell? ⟨g, v * 2 + i * 2 + 1, none⟩ = some (.string t2)) wc.drew := ⟨h8.c0, HT2.out _ h8.pb⟩
        refine wp_region_plan [3, 8] [11] (fun w' : World => w'.cell? ⟨r, 0, none⟩ = some (.iface 144 (.pointer (some ⟨o, 0, none⟩))) ∧ w'.cell? ⟨g, v * 2 + i * 2 + 1, none⟩ = some (.string t2)) (.pure 0 (.pure 1 (.pure 2 (.take 3 (.pure 4 (.pure 5 (.pure 6 (.pure 7 (.take 8 (.pure 9 (.pure 10 (.go 11 .done)))))))))))) hmix (by kernel_rfl) ?_
        repeat (first | (refine plan_pure (v := ?_) rfl rfl ?_ ?_; rotate_left; (intro w'; go_simp <;> with_reducible rfl); (try simp only [Act.put, zq1, zq2, zq3, zq4, zq5, zq6])) | (refine plan_take (v := ?_) rfl hS rfl ?_ ?_; rotate_left; (intro w' hSw; (try dsimp only at hSw); go_simp <;> with_reducible rfl); (try simp only [Act.put, zq1, zq2, zq3, zq4, zq5, zq6])))
        refine plan_go rfl (by kernel_rfl) rfl (fun K hK => ?_)
        go_simp; refine (writeStr_c h8.drew.scr.rn.wr HQ.out.2.2.1.noEsc (by have := HQ.out; omega)).mono ?_; rintro e w9 ⟨rfl, hW9, hF9⟩; refine hK _ _ ?_; clear hK K; (try simp only [Act.put, zq1, zq2, zq3, zq4, zq5, zq6])
        refine plan_done ?_
        have h9 := (h8.drew.out hW9 hF9).le (show _ ≤ m4 + 470 by have := HQ.out; omega)
        clear hW9 hF9 hS
        clear h8
        have q1 := h9.b1.c1.1
        have q2 := h9.b2.c1.1
        go_wp2_with (fail)
        refine (thumb_c (i : Int) q2 q1).mono ?_
        rintro e wa ⟨⟨B2, rfl⟩, rfl⟩
        clear q1 q2
        go_upto_if 257 with (fail)
        go_cut [] from 255 to 279 (fun wx => RD base w r o b L c pre cols t k q sel v tmp g fs P1 P2 zh zt (m4 + 500) wx)
        case first =>
          cases B2 with
          | true =>
            go_wp2_with (fail)
            have hS : (fun w' : World => w'.cell? ⟨r, 0, none⟩ = some (.iface 144 (.pointer (some ⟨o, 0, none⟩))) ∧ w'.cell? ⟨r, 22, none⟩ = some (.int .i64 9)) w9.drew := ⟨h9.c0, h9.scr.rn.cold.c22⟩
            refine wp_region_plan [3, 7] [10] (fun w' : World => w'.cell? ⟨r, 0, none⟩ = some (.iface 144 (.pointer (some ⟨o, 0, none⟩))) ∧ w'.cell? ⟨r, 22, none⟩ = some (.int .i64 9)) (.pure 0 (.pure 1 (.pure 2 (.take 3 (.pure 4 (.pure 5 (.pure 6 (.take 7 (.pure 8 (.pure 9 (.go 10 .done))))))))))) hmix (by kernel_rfl) ?_
            repeat (first | (refine plan_pure (v := ?_) rfl rfl ?_ ?_; rotate_left; (intro w'; go_simp <;> with_reducible rfl); (try simp only [Act.put, zq1, zq2, zq3, zq4, zq5, zq6])) | (refine plan_take (v := ?_) rfl hS rfl ?_ ?_; rotate_left; (intro w' hSw; (try dsimp only at hSw); go_simp <;> with_reducible rfl); (try simp only [Act.put, zq1, zq2, zq3, zq4, zq5, zq6])))
            refine plan_go rfl (by kernel_rfl) rfl (fun K hK => ?_)
            go_simp; refine (setColor_c (f := 0) (b := 9) h9.drew.scr.rn.wr (by omega) (by omega) (by omega)).mono ?_; rintro e wz ⟨rfl, hW9, hF9⟩; refine hK _ _ ?_; clear hK K; (try simp only [Act.put, zq1, zq2, zq3, zq4, zq5, zq6])
            refine plan_done ?_
            have hz := h9.drew.out hW9 hF9
            clear hW9 hF9 hS
            go_wp2_with (fail)
            go_meet
            exact hz.le (by omega)
          | false =>
            go_wp2_with (fail)
            have hS : (fun w' : World => w'.cell? ⟨r, 0, none⟩ = some (.iface 144 (.pointer (some ⟨o, 0, none⟩))) ∧ w'.cell? ⟨r, 23, none⟩ = some (.int .i64 7)) w9.drew := ⟨h9.c0, h9.scr.rn.cold.c23⟩
            refine wp_region_plan [3, 7] [10] (fun w' : World => w'.cell? ⟨r, 0, none⟩ = some (.iface 144 (.pointer (some ⟨o, 0, none⟩))) ∧ w'.cell? ⟨r, 23, none⟩ = some (.int .i64 7)) (.pure 0 (.pure 1 (.pure 2 (.take 3 (.pure 4 (.pure 5 (.pure 6 (.take 7 (.pure 8 (.pure 9 (.go 10 .done))))))))))) hmix (by kernel_rfl) ?_
            repeat (first | (refine plan_pure (v := ?_) rfl rfl ?_ ?_; rotate_left; (intro w'; go_simp <;> with_reducible rfl); (try simp only [Act.put, zq1, zq2, zq3, zq4, zq5, zq6])) | (refine plan_take (v := ?_) rfl hS rfl ?_ ?_; rotate_left; (intro w' hSw; (try dsimp only at hSw); go_simp <;> with_reducible rfl); (try simp only [Act.put, zq1, zq2, zq3, zq4, zq5, zq6])))
            refine plan_go rfl (by kernel_rfl) rfl (fun K hK => ?_)
            go_simp; refine (setColor_c (f := 0) (b := 7) h9.drew.scr.rn.wr (by omega) (by omega) (by omega)).mono ?_; rintro e wz ⟨rfl, hW9, hF9⟩; refine hK _ _ ?_; clear hK K; (try simp only [Act.put, zq1, zq2, zq3, zq4, zq5, zq6])
            refine plan_done ?_
            have hz := h9.drew.out hW9 hF9
            clear hW9 hF9 hS
            go_wp2_with (fail)
            go_meet
            exact hz.le (by omega)
        case rest =>
        have ha := hcut
        clear hcut h9
        have c0 := ha.c0
        have rlt := ha.rlt
        go_wp2_with (fail)
        refine (writeStr_c (t := sp1) ha.scr.rn.wr sp1_prn.noEsc (by show _ + 1 ≤ _; omega)).mono ?_
        rintro e wb ⟨rfl, hWb, hFb⟩
        have hb := (ha.out hWb hFb).le (show _ ≤ m4 + 501 by show m4 + 500 + 1 ≤ _; omega)
        clear ha c0 rlt hWb hFb
        have c0 := hb.c0
        have rlt := hb.rlt
        go_wp2_with (fail)
        refine (setColor_c (f := 0) (b := 0) hb.scr.rn.wr (by omega) (by omega) (by omega)).mono ?_
        rintro e wd ⟨rfl, hWd, hFd⟩
        have hd := hb.out hWd hFd
        clear hb c0 rlt hWd hFd
        obtain ⟨CW, hCW⟩ : ∃ CW, cu + WW = CW := ⟨_, rfl⟩
        have hcw : (cu : Int) + WW = CW := by omega
        have hCW2 : CW ≤ 1300 ∧ WW ≤ CW := by omega
        clear hCW
        go_wp2_with (fail)
        refine (lineWrap_c hd.scr.rn hc1 hc2 CW (by omega) (by omega)).mono ?_
        rintro e we ⟨rfl, hRe, hFe⟩
        have he := hd.outR hRe hFe
        clear hd hRe hFe
        go_wp2_with (fail)
        refine (backward_c he.scr.rn hc1 hc2 CW WW (by omega) hCW2.2 (by omega)).mono ?_
        rintro e wf ⟨rfl, hRf, hFf⟩
        have hf := he.outR hRf hFf
        clear he hRf hFf hcw
        go_wp2_with (fail)
        go_roundw
        case rel => exact ⟨i + 1, by omega, by simp, hf.le (by have := HM4.out; omega)⟩
        case measure => simp [intOf]; omega
      · have d1 : decide ((i : Int) < wh) = false := by simpa using hlt
        have d2 : ¬ (i : Int) < wh := by omega
        obtain ⟨m5, hm5⟩ : ∃ m5, m5 = n3 + 1000 * wh := ⟨_, rfl⟩
        replace h4 := h4.le (show _ ≤ m5 by rw [hm5]; have : i ≤ wh := hi; omega)
        have hm5b : m5 ≤ n + 15000 := by omega
        clear hm5
        obtain ⟨XW, hXW⟩ : ∃ XW, x + WW = XW := ⟨_, rfl⟩
        have hXW2 : XW ≤ 240 := by omega
        have HXW := Lib.hid hXW
        clear hXW
        have c6 := h4.c6
        have rlt := h4.rlt
        go_upto_if 309 with (fail)
        go_cut [] from 309 to 325 (fun wx => RD base w r o b L c pre cols t k q sel v tmp g fs P1 P2 zh zt (m5 + 10) wx)
        case first =>
          by_cases hge : cols ≤ XW
          · have g1 : decide ((cols : Int) ≤ (x : Int) + WW) = true := by have := HXW.out; simp; omega
            have g2 : (cols : Int) ≤ (x : Int) + WW := by have := HXW.out; omega
            obtain ⟨BB, hBB⟩ : ∃ BB, XW - cols = BB := ⟨_, rfl⟩
            have hB3 : m5 + 10 ≤ 1000000000 := by omega
            have hB0 := wrapX HXW.out hge hBB hXW2 (by have := HXW.out; omega)
            clear hBB hge
            obtain ⟨hB1, hB2, hsX, hsB⟩ := hB0
            go_wp2_with (fail)
            have hS : (fun w' : World => w'.cell? ⟨r, 0, none⟩ = some (.iface 144 (.pointer (some ⟨o, 0, none⟩))) ∧ w'.cell? ⟨r, 6, none⟩ = some (.int .u16 cols)) wr.drew := ⟨h4.c0, h4.c6⟩
            refine wp_region_plan [3, 10, 11] [15] (fun w' : World => w'.cell? ⟨r, 0, none⟩ = some (.iface 144 (.pointer (some ⟨o, 0, none⟩))) ∧ w'.cell? ⟨r, 6, none⟩ = some (.int .u16 cols)) (.pure 0 (.pure 1 (.pure 2 (.take 3 (.pure 4 (.pure 5 (.pure 6 (.pure 7 (.pure 8 (.pure 9 (.take 10 (.take 11 (.pure 12 (.pure 13 (.pure 14 (.go 15 .done)))))))))))))))) hmix (by kernel_rfl) ?_
            repeat (first | (refine plan_pure (v := ?_) rfl rfl ?_ ?_; rotate_left; (intro w'; go_simp <;> with_reducible rfl); (try simp only [Act.put, zq1, zq2, zq3, zq4, zq5, zq6])) | (refine plan_take (v := ?_) rfl hS rfl ?_ ?_; rotate_left; (intro w' hSw; (try dsimp only at hSw); go_simp <;> with_reducible rfl); (try simp only [Act.put, zq1, zq2, zq3, zq4, zq5, zq6])))
            refine plan_go rfl (by kernel_rfl) rfl (fun K hK => ?_)
            go_simp; refine (fwd_c h4.drew.scr.rn.wr (BB : Int) hB1 hB2 hB3).mono ?_; rintro e wz ⟨rfl, hW9, hF9⟩; refine hK _ _ ?_; clear hK K; (try simp only [Act.put, zq1, zq2, zq3, zq4, zq5, zq6])
            refine plan_done ?_
            have hz := h4.drew.out hW9 hF9
            clear hW9 hF9 hS
            go_wp2_with (fail)
            go_meet
            exact hz
          · have g1 : decide ((cols : Int) ≤ (x : Int) + WW) = false := by have := HXW.out; simp; omega
            have g2 : ¬ (cols : Int) ≤ (x : Int) + WW := by have := HXW.out; omega
            go_wp2_with (fail)
            go_meet
            exact h4.le (by omega)
        case rest =>
        have h5 := hcut
        clear hcut h4 c6 rlt
        have c0 := h5.c0
        have rlt := h5.rlt
        go_wp2_with (fail)
        refine (up_c h5.scr.rn.wr (wh : Int) (by omega) (by omega) (by omega)).mono ?_
        rintro e w6 ⟨rfl, hW6, hF6⟩
        have h6 := h5.out hW6 hF6
        clear h5 c0 rlt hW6 hF6
        have c0 := h6.c0
        have rlt := h6.rlt
        go_wp2_with (fail)
        refine (setColor_c (f := 0) (b := 0) h6.scr.rn.wr (by omega) (by omega) (by omega)).mono ?_
        rintro e w7 ⟨rfl, hW7, hF7⟩
        have h7 := h6.out hW7 hF7
        clear h6 c0 rlt hW7 hF7
        go_wp2_with (fail)
        go_end0
        exact ⟨rfl, h7.scr.le (by omega), h7.fr⟩
end Go.Proofs.YtiepopbmbgfhkaaGreat
