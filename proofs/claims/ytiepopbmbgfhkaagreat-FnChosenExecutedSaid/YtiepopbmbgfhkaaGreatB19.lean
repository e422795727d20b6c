/-
  The keys of completion: all other keys.
-/
import Derived.Test.YtiepopbmbgfhkaaGreatB18
namespace Go.Proofs.YtiepopbmbgfhkaaGreat
open Go.RowKit
set_option maxHeartbeats 2000000
set_option maxRecDepth 20000
set_option linter.unusedVariables false
set_option linter.unusedSimpArgs false
section
variable {base : Nat} {w : World} {I : Pid} {D : Dyn}

theorem asc_extract {t : ByteArray} (h : Asc t) (i j : Nat) : Asc (t.extract i j) := by
  intro k hk
  have hk' : k < (t.extract i j).data.size := hk
  simp only [ByteArray.data_extract, Array.size_extract] at hk'
  have e : (t.extract i j)[k] = t[i + k]'(by show i + k < t.data.size; omega) := by
    show (t.extract i j).data[k] = t.data[i + k]
    simp [ByteArray.data_extract]
  rw [e]
  exact h _ _
theorem asc_append {t u : ByteArray} (h : Asc t) (k : Asc u) : Asc (t ++ u) := by
  intro i hi
  have hi' : i < (t ++ u).data.size := hi
  simp only [ByteArray.data_append, Array.size_append] at hi'
  have e1 : (t ++ u)[i] = (t.data ++ u.data)[i]'(by simpa using hi') := by
    show (t ++ u).data[i] = _
    simp [ByteArray.data_append]
  rw [e1]
  by_cases hlt : i < t.data.size
  · rw [Array.getElem_append_left hlt]; exact h i hlt
  · rw [Array.getElem_append_right (by omega)]; exact k _ _
theorem _root_.Go.Proofs.YtiepopbmbgfhkaaGreat.Blk.other5 {w1 : World} {M : Nat} {cs : Array Value} (hM : Blk w M cs 73) (h : St base w I D) (hF : Fr base [] [D.b, D.L] w w1) : Blk w1 M cs 73 := by
  obtain ⟨⟨csb, hb⟩, ds, hL⟩ := h.scr.buf.blk
  refine hF.blk hM (.inr ⟨?_, by simp⟩)
  simp only [List.mem_cons, List.not_mem_nil, or_false]
  rintro (rfl | rfl)
  · exact absurd (hM.inj hb).2 (by decide)
  · exact absurd (hM.inj hL).2 (by decide)
theorem St.docUpd {w1 : World} (h : St base w I D) (hB : Buf base w1 D.b D.L D.t D.k) (hF : Fr base [] [D.b] w w1) : St base w1 I D :=
  h.upd (hF.mono (by simp) (by simp)) (h.scr.doc hB hF)
theorem St.bufUpd {w1 : World} {t' : ByteArray} {k' : Nat} (h : St base w I D) (hB : Buf base w1 D.b D.L t' k') (hF : Fr base [] [D.b, D.L] w w1) : St base w1 I { D with t := t', k := k' } :=
  h.upd (hF.mono (by simp) (by simp)) (h.scr.bufUpd hB hF)
theorem St.cells3 (h : St base w I D) : w.cell? ⟨I.p, 0, none⟩ = some (.pointer (some ⟨D.b, 0, none⟩)) ∧ w.cell? ⟨I.p, 4, none⟩ = some (.pointer (some ⟨I.c, 0, none⟩)) ∧ w.cell? ⟨I.c, 5, none⟩ = some (.string I.q.sep) := by
  obtain ⟨pp, kk, C, hCB, -⟩ := h.scr.cm.ren
  exact ⟨(prC h.pr).c0, (prC h.pr).c4, C.c5⟩

theorem comp_none (h : St base w I D) (hk : StOk I D) (cp : Bool) (key : Int) (hs : D.sel = -1) (n1 : key ≠ 37) (n2 : key ≠ 54) (n3 : key ≠ 9) (n4 : key ≠ 36) (n5 : key ≠ 51) :
    Calls Tryz.prog 87 #[.pointer (some ⟨I.p, 0, none⟩), .int .i64 key, .bool cp] w (CompPost base I D (D.comp I key) w) := by
  obtain ⟨c0, c1, c2, c3, c4, c5, c6, c7, c8, c9, f0, hlt⟩ := prC h.pr
  have e1 : D.comp I key = { D with sel := -1, vs := 0, tmp := I.q.offs } := by simp [Dyn.comp, Dyn.chosen, n1, n2, n4, n5, hs]
  rw [e1]
  have d1 := (int_ne n1).1
  have d2 := (int_ne n2).1
  have d3 := (int_ne n3).1
  have d4 := (int_ne n4).1
  have d5 := (int_ne n5).1
  have hcm := h.scr.cm
  rw [hs] at hcm
  clear n1 n2 n3 n4 n5 hs e1
  go_enter Tryz.func87, Tryz.ntmps87
  go_wp2_with (fail)
  refine (getSel_none hcm).mono ?_
  rintro e w1 ⟨rfl, hF1⟩
  have hF1' := hF1.ext ((Fr.refl 0 [] [] w1).alloc (.cells #[.string .empty, .string .empty] 73))
  have h1 := h.fr0 hF1'
  obtain ⟨c0, c1, c2, c3, c4, c5, c6, c7, c8, c9, f0, hlt⟩ := prC h1.pr
  go_wp2_with (fail)
  refine (reset_c h1.scr.cm hk.ok.hq).mono ?_
  rintro e w2 ⟨rfl, hC, hF⟩
  go_wp2
  go_end0
  have hF' : Fr base [5, 143] [D.b, D.L, I.r, I.c] _ w2 := hF.mono (by simp) (by simp)
  exact ⟨rfl, h1.upd hF' (h1.scr.cmUpd hC hF), hF1'.any.trans (hF.mono (by simp) (by simp))⟩

theorem comp_some (h : St base w I D) (hk : StOk I D) (cp : Bool) (key : Int) (s : Nat) (hs : D.sel = s) (hlt2 : s < D.tmp.length) (n1 : key ≠ 37) (n2 : key ≠ 54) (n3 : key ≠ 9) (n4 : key ≠ 36) (n5 : key ≠ 51) :
    Calls Tryz.prog 87 #[.pointer (some ⟨I.p, 0, none⟩), .int .i64 key, .bool cp] w (CompPost base I D (D.comp I key) w) := by
  obtain ⟨c0, c1, c2, c3, c4, c5, c6, c7, c8, c9, f0, hlt⟩ := prC h.pr
  have hkk := hk.ok.hk
  have hts := hk.ok.hts
  have ha := hk.ok.ht.asc
  have hwl := wordAt_le I.q.sep D.t D.k
  obtain ⟨v, hv⟩ : ∃ v, v = D.tmp[s].1 := ⟨_, rfl⟩
  have hvp := hk.tp _ (List.getElem_mem hlt2)
  rw [← hv] at hvp
  have e1 : D.comp I key = { D with t := chosenT I.q.sep D.t D.k v, k := wordAt I.q.sep D.t D.k + v.size, sel := -1, vs := 0, tmp := I.q.offs } := by
    simp [Dyn.comp, Dyn.chosen, n1, n2, n4, n5, hs, Dyn.text, hlt2, hv]
  rw [e1]
  have d1 := (int_ne n1).1
  have d2 := (int_ne n2).1
  have d3 := (int_ne n3).1
  have d4 := (int_ne n4).1
  have d5 := (int_ne n5).1
  have hcm := h.scr.cm
  rw [hs] at hcm
  have hgs := getSel_some hcm hlt2 hk.tl
  rw [← hv] at hgs
  obtain ⟨x2, hx2⟩ : ∃ x, x = D.tmp[s].2 := ⟨_, rfl⟩
  rw [← hx2] at hgs
  clear n1 n2 n3 n4 n5 hs e1 hv hx2
  unfold chosenT
  obtain ⟨a, ha0⟩ : ∃ a, a = wordAt I.q.sep D.t D.k := ⟨_, rfl⟩
  rw [← ha0] at hwl
  rw [← ha0]
  have HA := Lib.hid ha0
  clear ha0
  go_enter Tryz.func87, Tryz.ntmps87
  go_wp2_with (fail)
  refine hgs.mono ?_
  rintro e w1 ⟨rfl, hF1⟩
  clear hgs hcm
  obtain ⟨M, hM⟩ : ∃ M, w1.heap.size = M := ⟨_, rfl⟩
  have hMB := Blk.new' (w := w1) hM.symm #[.string v, .string x2] 73
  have hF1' := hF1.ext ((Fr.refl 0 [] [] w1).alloc (.cells #[.string v, .string x2] 73))
  have h1 := h.fr0 hF1'
  obtain ⟨c0, c1, c2, c3, c4, c5, c6, c7, c8, c9, f0, hlt⟩ := prC h1.pr
  obtain ⟨pp, kk, ⟨k0, k1, k2, k3, k4, k5, k6, kf0, kf1, kf4, klt⟩, hCB, -⟩ := h1.scr.cm.ren
  obtain ⟨m0, m1, mf0, mf1⟩ := hMB.c2
  go_wp2_with (fail)
  have hS : (fun w' : World => w'.cell? ⟨I.p, 0, none⟩ = some (.pointer (some ⟨D.b, 0, none⟩)) ∧ w'.cell? ⟨I.p, 4, none⟩ = some (.pointer (some ⟨I.c, 0, none⟩)) ∧ w'.cell? ⟨I.c, 5, none⟩ = some (.string I.q.sep)) (w1.alloc (.cells #[.string v, .string x2] 73)).drew := ⟨c0, c4, k5⟩
  refine wp_region_plan [3, 8, 11] [4, 12] (fun w' : World => w'.cell? ⟨I.p, 0, none⟩ = some (.pointer (some ⟨D.b, 0, none⟩)) ∧ w'.cell? ⟨I.p, 4, none⟩ = some (.pointer (some ⟨I.c, 0, none⟩)) ∧ w'.cell? ⟨I.c, 5, none⟩ = some (.string I.q.sep)) (.pure 0 (.pure 1 (.pure 2 (.take 3 (.pure 5 (.pure 6 (.pure 7 (.take 8 (.pure 9 (.pure 10 (.take 11 (.go 4 (.go 12 (.pure 13 .done)))))))))))))) hmix (by kernel_rfl) ?_
  refine plan_move rfl rfl rfl ?_; (try simp only [Act.put, List.setIfInBounds_toArray, List.set_cons_zero, List.set_cons_succ, Int.toNat_natCast, Int.toNat_sub, Int.toNat_zero])
  first | (refine plan_pure (v := ?_) rfl rfl ?_ ?_; rotate_left; (intro w'; go_simp <;> with_reducible rfl); (try simp only [Act.put, List.setIfInBounds_toArray, List.set_cons_zero, List.set_cons_succ, Int.toNat_natCast, Int.toNat_sub, Int.toNat_zero]))
  first | (refine plan_pure (v := ?_) rfl rfl ?_ ?_; rotate_left; (intro w'; go_simp <;> with_reducible rfl); (try simp only [Act.put, List.setIfInBounds_toArray, List.set_cons_zero, List.set_cons_succ, Int.toNat_natCast, Int.toNat_sub, Int.toNat_zero]))
  first | (refine plan_take (v := ?_) rfl hS rfl ?_ ?_; rotate_left; (intro w' hSw; (try dsimp only at hSw); go_simp <;> with_reducible rfl); (try simp only [Act.put, List.setIfInBounds_toArray, List.set_cons_zero, List.set_cons_succ, Int.toNat_natCast, Int.toNat_sub, Int.toNat_zero]))
  refine plan_move rfl rfl rfl ?_; (try simp only [Act.put, List.setIfInBounds_toArray, List.set_cons_zero, List.set_cons_succ, Int.toNat_natCast, Int.toNat_sub, Int.toNat_zero])
  first | (refine plan_pure (v := ?_) rfl rfl ?_ ?_; rotate_left; (intro w'; go_simp <;> with_reducible rfl); (try simp only [Act.put, List.setIfInBounds_toArray, List.set_cons_zero, List.set_cons_succ, Int.toNat_natCast, Int.toNat_sub, Int.toNat_zero]))
  first | (refine plan_pure (v := ?_) rfl rfl ?_ ?_; rotate_left; (intro w'; go_simp <;> with_reducible rfl); (try simp only [Act.put, List.setIfInBounds_toArray, List.set_cons_zero, List.set_cons_succ, Int.toNat_natCast, Int.toNat_sub, Int.toNat_zero]))
  first | (refine plan_take (v := ?_) rfl hS rfl ?_ ?_; rotate_left; (intro w' hSw; (try dsimp only at hSw); go_simp <;> with_reducible rfl); (try simp only [Act.put, List.setIfInBounds_toArray, List.set_cons_zero, List.set_cons_succ, Int.toNat_natCast, Int.toNat_sub, Int.toNat_zero]))
  first | (refine plan_pure (v := ?_) rfl rfl ?_ ?_; rotate_left; (intro w'; go_simp <;> with_reducible rfl); (try simp only [Act.put, List.setIfInBounds_toArray, List.set_cons_zero, List.set_cons_succ, Int.toNat_natCast, Int.toNat_sub, Int.toNat_zero]))
  first | (refine plan_pure (v := ?_) rfl rfl ?_ ?_; rotate_left; (intro w'; go_simp <;> with_reducible rfl); (try simp only [Act.put, List.setIfInBounds_toArray, List.set_cons_zero, List.set_cons_succ, Int.toNat_natCast, Int.toNat_sub, Int.toNat_zero]))
  first | (refine plan_take (v := ?_) rfl hS rfl ?_ ?_; rotate_left; (intro w' hSw; (try dsimp only at hSw); go_simp <;> with_reducible rfl); (try simp only [Act.put, List.setIfInBounds_toArray, List.set_cons_zero, List.set_cons_succ, Int.toNat_natCast, Int.toNat_sub, Int.toNat_zero]))
  refine plan_goS rfl rfl (fun K hK => ?_)
  go_simp; refine (doc_c h1.scr.buf.drew).mono ?_; rintro e w2 ⟨d, rfl, hd, hB2, hF2⟩; have h2 := h1.drew.docUpd hB2 hF2; have hS2 : (fun w' : World => w'.cell? ⟨I.p, 0, none⟩ = some (.pointer (some ⟨D.b, 0, none⟩)) ∧ w'.cell? ⟨I.p, 4, none⟩ = some (.pointer (some ⟨I.c, 0, none⟩)) ∧ w'.cell? ⟨I.c, 5, none⟩ = some (.string I.q.sep)) w2 := h2.cells3; refine hK _ _ hS2 ?_; clear hK K; (try simp only [Act.put, List.setIfInBounds_toArray, List.set_cons_zero, List.set_cons_succ, Int.toNat_natCast, Int.toNat_sub, Int.toNat_zero])
  refine plan_go rfl (by kernel_rfl) rfl (fun K hK => ?_)
  go_simp; refine (getWord_c hd ha hk.ok.hq.sep (by omega) hkk).mono ?_; rintro e w3 ⟨rfl, hF3⟩; refine hK _ _ ?_; clear hK K; (try simp only [Act.put, List.setIfInBounds_toArray, List.set_cons_zero, List.set_cons_succ, Int.toNat_natCast, Int.toNat_sub, Int.toNat_zero])
  first | (refine plan_pure (v := ?_) rfl rfl ?_ ?_; rotate_left; (intro w'; go_simp <;> with_reducible rfl); (try simp only [Act.put, List.setIfInBounds_toArray, List.set_cons_zero, List.set_cons_succ, Int.toNat_natCast, Int.toNat_sub, Int.toNat_zero]))
  refine plan_done ?_
  have h3 := h2.fr0 hF3
  have hM2 := hF3.blk0 (hF2.blk hMB.drew (.inr ⟨by simp only [List.mem_singleton]; rintro rfl; exact absurd (h1.scr.buf.blk.1.choose_spec.inj hMB).2 (by decide), by simp⟩))
  have hFa : Fr base [] [D.b, D.L, I.c] w w3 := ((hF1'.any.drew).into hF2 (by simp) (by simp)).ext hF3
  obtain ⟨wd, hwd⟩ : ∃ wd, wd = D.t.extract (wordAt I.q.sep D.t D.k) D.k := ⟨_, rfl⟩
  rw [← hwd]
  have hws : wd.size = D.k - a := by rw [hwd, HA.out]; simp; omega
  have hwa : Asc wd := by rw [hwd]; exact asc_extract ha _ _
  have HW := Lib.hid hws
  clear hwd hws
  obtain ⟨c0, c1, c2, c3, c4, c5, c6, c7, c8, c9, f0, hlt⟩ := prC h3.pr
  obtain ⟨m0, m1, mf0, mf1⟩ := hM2.c2
  have hMl := hM2.lt
  by_cases hz : a = D.k
  · have hE := str_empty (a := wd)
    have hE3 : wd.size = 0 := by rw [HW.out]; omega
    rw [hE3] at hE
    have hE1 : wd.toList.isEmpty = true := by simpa using hE
    have hE2 : wd.toList = [] := by simpa using hE1
    have HZ := Lib.hid hz
    clear hz hE hE3
    go_wp2_with (fail)
    have e1 : D.t.extract 0 a ++ D.t.extract D.k D.t.size = D.t := by rw [HZ.out]; exact extract_all _ _ hkk
    have h5 : St base w3 I { D with t := D.t.extract 0 a ++ D.t.extract D.k D.t.size, k := a } := by rw [e1, HZ.out]; exact h3
    clear e1
    have ht1 : Asc (D.t.extract 0 a ++ D.t.extract D.k D.t.size) := asc_append (asc_extract ha _ _) (asc_extract ha _ _)
    have hs1 : (D.t.extract 0 a ++ D.t.extract D.k D.t.size).size ≤ 1000 := by rw [ByteArray.size_append]; simp; omega
    have ha1 : a ≤ (D.t.extract 0 a ++ D.t.extract D.k D.t.size).size := by rw [ByteArray.size_append]; simp; omega
    have hFb := hFa
    have hS : (fun w' : World => w'.cell? ⟨I.p, 0, none⟩ = some (.pointer (some ⟨D.b, 0, none⟩)) ∧ w'.cell? ⟨M, 0, none⟩ = some (.string v)) w3.drew := ⟨c0, m0⟩
    refine wp_region_plan [3, 5] [6] (fun w' : World => w'.cell? ⟨I.p, 0, none⟩ = some (.pointer (some ⟨D.b, 0, none⟩)) ∧ w'.cell? ⟨M, 0, none⟩ = some (.string v)) (.pure 0 (.pure 1 (.pure 2 (.take 3 (.pure 4 (.take 5 (.go 6 .done))))))) hmix (by kernel_rfl) ?_
    refine plan_move rfl rfl rfl ?_; (try simp only [Act.put, List.setIfInBounds_toArray, List.set_cons_zero, List.set_cons_succ, Int.toNat_natCast, Int.toNat_sub, Int.toNat_zero])
    first | (refine plan_pure (v := ?_) rfl rfl ?_ ?_; rotate_left; (intro w'; go_simp <;> with_reducible rfl); (try simp only [Act.put, List.setIfInBounds_toArray, List.set_cons_zero, List.set_cons_succ, Int.toNat_natCast, Int.toNat_sub, Int.toNat_zero]))
    first | (refine plan_pure (v := ?_) rfl rfl ?_ ?_; rotate_left; (intro w'; go_simp <;> with_reducible rfl); (try simp only [Act.put, List.setIfInBounds_toArray, List.set_cons_zero, List.set_cons_succ, Int.toNat_natCast, Int.toNat_sub, Int.toNat_zero]))
    first | (refine plan_take (v := ?_) rfl hS rfl ?_ ?_; rotate_left; (intro w' hSw; (try dsimp only at hSw); go_simp <;> with_reducible rfl); (try simp only [Act.put, List.setIfInBounds_toArray, List.set_cons_zero, List.set_cons_succ, Int.toNat_natCast, Int.toNat_sub, Int.toNat_zero]))
    first | (refine plan_pure (v := ?_) rfl rfl ?_ ?_; rotate_left; (intro w'; go_simp <;> with_reducible rfl); (try simp only [Act.put, List.setIfInBounds_toArray, List.set_cons_zero, List.set_cons_succ, Int.toNat_natCast, Int.toNat_sub, Int.toNat_zero]))
    first | (refine plan_take (v := ?_) rfl hS rfl ?_ ?_; rotate_left; (intro w' hSw; (try dsimp only at hSw); go_simp <;> with_reducible rfl); (try simp only [Act.put, List.setIfInBounds_toArray, List.set_cons_zero, List.set_cons_succ, Int.toNat_natCast, Int.toNat_sub, Int.toNat_zero]))
    refine plan_go rfl (by kernel_rfl) rfl (fun K hK => ?_)
    go_simp; refine (insert_c h5.scr.buf.drew v ht1 hvp.1.asc (Nat.le_trans hs1 (by omega)) (Nat.le_trans hvp.2.1 (by omega)) ha1).mono ?_; rintro e w6 ⟨rfl, hB6, hF6⟩; refine hK _ _ ?_; clear hK K; (try simp only [Act.put, List.setIfInBounds_toArray, List.set_cons_zero, List.set_cons_succ, Int.toNat_natCast, Int.toNat_sub, Int.toNat_zero])
    refine plan_done ?_
    have h6 := h5.drew.bufUpd hB6 hF6
    obtain ⟨c0, c1, c2, c3, c4, c5, c6, c7, c8, c9, f0, hlt⟩ := prC h6.pr
    go_wp2_with (fail)
    refine (reset_c h6.scr.cm hk.ok.hq).mono ?_
    rintro e w7 ⟨rfl, hC, hF⟩
    go_wp2
    go_end0
    have hF' : Fr base [5, 143] [D.b, D.L, I.r, I.c] _ w7 := hF.mono (by simp) (by simp)
    exact ⟨rfl, h6.upd hF' (h6.scr.cmUpd hC hF), ((hFb.drew).into hF6 (by simp) (by simp)).trans (hF.mono (by simp) (by simp))⟩
  · have hE := str_empty (a := wd)
    have hE3 : wd.size ≠ 0 := by rw [HW.out]; omega
    have hE1 : wd.toList.isEmpty = false := by rw [hE]; simpa using hE3
    have hE2 : wd.toList ≠ [] := by intro e; rw [e] at hE1; simp at hE1
    have hwz : wd.size ≤ 70368744177664 := by rw [HW.out]; omega
    have HZ := Lib.hid hz
    clear hz hE hE3
    go_wp2_with (first | (refine wpList_plain rfl (fun K hK => ?_); refine wp_runes _ _ rfl rfl hwa hwz ?_; intro rb rc w4 hcap hB4 hF4; refine hK _ _ ?_; clear hK K; have h4 := h3.fr0 hF4; obtain ⟨c0, c1, c2, c3, c4, c5, c6, c7, c8, c9, f0, hlt⟩ := prC h4.pr))
    refine (delBefore_c h4.scr.buf wd.size ha (by omega) hkk (by rw [HW.out]; omega)).mono ?_
    rintro e w5 ⟨rfl, hB5, hF5⟩
    have hka : D.k - wd.size = a := by rw [HW.out]; omega
    rw [hka] at hB5
    clear hka
    have h5 := h4.bufUpd hB5 hF5
    have hM5 := (hF4.blk0 hM2).other5 h4 hF5
    have hFb : Fr base [] [D.b, D.L, I.c] w w5 := (hFa.ext hF4).into hF5 (by simp) (by simp)
    obtain ⟨c0, c1, c2, c3, c4, c5, c6, c7, c8, c9, f0, hlt⟩ := prC h5.pr
    obtain ⟨m0, m1, mf0, mf1⟩ := hM5.c2
    have hMl := hM5.lt
    have ht1 : Asc (D.t.extract 0 a ++ D.t.extract D.k D.t.size) := asc_append (asc_extract ha _ _) (asc_extract ha _ _)
    have hs1 : (D.t.extract 0 a ++ D.t.extract D.k D.t.size).size ≤ 1000 := by rw [ByteArray.size_append]; simp; omega
    have ha1 : a ≤ (D.t.extract 0 a ++ D.t.extract D.k D.t.size).size := by rw [ByteArray.size_append]; simp; omega
    go_wp2_with (fail)
    have hS : (fun w' : World => w'.cell? ⟨I.p, 0, none⟩ = some (.pointer (some ⟨D.b, 0, none⟩)) ∧ w'.cell? ⟨M, 0, none⟩ = some (.string v)) w5.drew := ⟨c0, m0⟩
    refine wp_region_plan [3, 5] [6] (fun w' : World => w'.cell? ⟨I.p, 0, none⟩ = some (.pointer (some ⟨D.b, 0, none⟩)) ∧ w'.cell? ⟨M, 0, none⟩ = some (.string v)) (.pure 0 (.pure 1 (.pure 2 (.take 3 (.pure 4 (.take 5 (.go 6 .done))))))) hmix (by kernel_rfl) ?_
    refine plan_move rfl rfl rfl ?_; (try simp only [Act.put, List.setIfInBounds_toArray, List.set_cons_zero, List.set_cons_succ, Int.toNat_natCast, Int.toNat_sub, Int.toNat_zero])
    first | (refine plan_pure (v := ?_) rfl rfl ?_ ?_; rotate_left; (intro w'; go_simp <;> with_reducible rfl); (try simp only [Act.put, List.setIfInBounds_toArray, List.set_cons_zero, List.set_cons_succ, Int.toNat_natCast, Int.toNat_sub, Int.toNat_zero]))
    first | (refine plan_pure (v := ?_) rfl rfl ?_ ?_; rotate_left; (intro w'; go_simp <;> with_reducible rfl); (try simp only [Act.put, List.setIfInBounds_toArray, List.set_cons_zero, List.set_cons_succ, Int.toNat_natCast, Int.toNat_sub, Int.toNat_zero]))
    first | (refine plan_take (v := ?_) rfl hS rfl ?_ ?_; rotate_left; (intro w' hSw; (try dsimp only at hSw); go_simp <;> with_reducible rfl); (try simp only [Act.put, List.setIfInBounds_toArray, List.set_cons_zero, List.set_cons_succ, Int.toNat_natCast, Int.toNat_sub, Int.toNat_zero]))
    first | (refine plan_pure (v := ?_) rfl rfl ?_ ?_; rotate_left; (intro w'; go_simp <;> with_reducible rfl); (try simp only [Act.put, List.setIfInBounds_toArray, List.set_cons_zero, List.set_cons_succ, Int.toNat_natCast, Int.toNat_sub, Int.toNat_zero]))
    first | (refine plan_take (v := ?_) rfl hS rfl ?_ ?_; rotate_left; (intro w' hSw; (try dsimp only at hSw); go_simp <;> with_reducible rfl); (try simp only [Act.put, List.setIfInBounds_toArray, List.set_cons_zero, List.set_cons_succ, Int.toNat_natCast, Int.toNat_sub, Int.toNat_zero]))
    refine plan_go rfl (by kernel_rfl) rfl (fun K hK => ?_)
    go_simp; refine (insert_c h5.scr.buf.drew v ht1 hvp.1.asc (Nat.le_trans hs1 (by omega)) (Nat.le_trans hvp.2.1 (by omega)) ha1).mono ?_; rintro e w6 ⟨rfl, hB6, hF6⟩; refine hK _ _ ?_; clear hK K; (try simp only [Act.put, List.setIfInBounds_toArray, List.set_cons_zero, List.set_cons_succ, Int.toNat_natCast, Int.toNat_sub, Int.toNat_zero])
    refine plan_done ?_
    have h6 := h5.drew.bufUpd hB6 hF6
    obtain ⟨c0, c1, c2, c3, c4, c5, c6, c7, c8, c9, f0, hlt⟩ := prC h6.pr
    go_wp2_with (fail)
    refine (reset_c h6.scr.cm hk.ok.hq).mono ?_
    rintro e w7 ⟨rfl, hC, hF⟩
    go_wp2
    go_end0
    have hF' : Fr base [5, 143] [D.b, D.L, I.r, I.c] _ w7 := hF.mono (by simp) (by simp)
    exact ⟨rfl, h6.upd hF' (h6.scr.cmUpd hC hF), ((hFb.drew).into hF6 (by simp) (by simp)).trans (hF.mono (by simp) (by simp))⟩
end
end Go.Proofs.YtiepopbmbgfhkaaGreat
