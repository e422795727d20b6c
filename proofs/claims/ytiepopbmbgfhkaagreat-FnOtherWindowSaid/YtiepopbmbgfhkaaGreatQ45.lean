/-
  The set's player: what a key does by itself (texts, arrows, others).
-/
import Derived.Test.YtiepopbmbgfhkaaGreatQ44
namespace Go.Proofs.YtiepopbmbgfhkaaGreat
open Go.RowKit
open List renaming setIfInBounds_toArray → zq1, set_cons_zero → zq2, set_cons_succ → zq3
open Int renaming toNat_natCast → zq4, toNat_sub → zq5, toNat_zero → zq6
set_option maxHeartbeats 8000000
set_option maxRecDepth 20000
set_option linter.unusedVariables false
set_option linter.unusedSimpArgs false

/-- What is asked of a player's stand between choosing and acting. -/
structure ActH (s : PS) : Prop where
  ht : Prn s.t
  hts : s.t.size ≤ 240
  hk : s.k ≤ s.t.size
  hh : ∀ x ∈ s.hs, Prn x ∧ x.size ≤ 240
  hhl : s.hs.length ≤ 100
  hT : ∀ x ∈ s.ts, Prn x ∧ x.size ≤ 240
  hTl : s.ts.length = s.hs.length + 1
  hsl : s.hsel < s.ts.length
  hl : s.lines.length ≤ 100

/-- A chunk that has no doing of its own. -/
structure NoAct (c : ByteArray) : Prop where
  k1 : (c.toList == [13]) = false
  k2 : (c.toList == [10]) = false
  k3 : (c.toList == [3]) = false
  k4 : (c.toList == [27, 91, 65]) = false
  k5 : (c.toList == [16]) = false
  k6 : (c.toList == [27, 91, 66]) = false
  k7 : (c.toList == [14]) = false
  k8 : (c.toList == [4]) = false

section
variable {nb base : Nat} {w : World} {p : Nat} {S : Sess} {ov hv : Value} {P : PL} {V : PV}
theorem act_text {c : ByteArray} (h : Ply base w p S ov hv P V) (hnb : V.bs.length ≤ nb) (hA : ActH P.s) (hc : NoAct c) (hcp : Prn c) (hcs : c.size ≤ 40) (h0 : 0 < c.size) (h127 : (c.toList == [127]) = false) (cpl : Bool) :
    Calls Tryz.prog 57 #[.pointer (some ⟨p, 0, none⟩), .string c, .bool cpl] w (PlyPost nb base p S ov hv (P.st (P.s.typed c)) (.bool false) w) := by
  obtain ⟨k1, k2, k3, k4, k5, k6, k7, k8⟩ := hc
  have hC := plC h.blk
  have c11 := hC.c11
  have c12 := hC.c12
  have f11 := hC.f 11
  have f12 := hC.f 12
  have hlt := hC.lt
  have hts := hA.hts
  have hins := fun w => inserted_c P.s.t c P.s.k hA.ht hcp (by omega) (by omega) hA.hk w
  have g32 := (hcp 0 h0).1
  have d1 : decide ((32 : Int) ≤ c[0].toNat) = true := by simp; omega
  have d2 : (32 : Int) ≤ c[0].toNat := by omega
  obtain ⟨U, hU⟩ : ∃ U, putT P.s.t P.s.k c = U := ⟨_, rfl⟩
  obtain ⟨q, hq⟩ : ∃ q, P.s.k + c.size = q := ⟨_, rfl⟩
  simp only [hU, hq] at hins
  have hty : P.s.typed c = { P.s with t := U, k := q } := by unfold PS.typed; rw [hU, hq]
  rw [hty]
  clear hty hU hq
  go_enter Tryz.func57, Tryz.ntmps57
  go_wp2_with (fail)
  refine (hins _).mono ?_
  rintro e w1 ⟨rfl, hF1⟩
  replace h := h.fr0 hF1
  clear c11 c12 f11 f12 hlt hC
  have hC := plC h.blk
  have c11 := hC.c11
  have c12 := hC.c12
  have f11 := hC.f 11
  have f12 := hC.f 12
  have hlt := hC.lt
  go_wp2_with (fail)
  go_ret
  have h2 := h.put 11 (.string U) (P' := P.st { P.s with t := U }) (V' := V) rfl rfl rfl rfl rfl ⟨rfl, rfl, rfl, rfl, rfl, rfl⟩ rfl rfl
  have h3 := h2.put 12 (.int .i64 q) (P' := P.st { P.s with t := U, k := q }) (V' := V) rfl rfl rfl rfl rfl ⟨rfl, rfl, rfl, rfl, rfl, rfl⟩ rfl rfl
  exact ⟨rfl, ⟨V, h3, hnb⟩, (hF1.any.trans (h.putF 11 _)).trans (h2.putF 12 _)⟩

/-- A key that does nothing by itself. -/
theorem act_other {c : ByteArray} (h : Ply base w p S ov hv P V) (hnb : V.bs.length ≤ nb) (hc : NoAct c) (h0 : 0 < c.size) (ho : c[0].toNat < 32 ∨ c.toList = [127]) (cpl : Bool) :
    Calls Tryz.prog 57 #[.pointer (some ⟨p, 0, none⟩), .string c, .bool cpl] w (PlyPost nb base p S ov hv P (.bool false) w) := by
  obtain ⟨k1, k2, k3, k4, k5, k6, k7, k8⟩ := hc
  by_cases h32 : c[0].toNat < 32
  · have d1 : decide ((32 : Int) ≤ c[0].toNat) = false := by simp; omega
    have d2 : ¬ (32 : Int) ≤ c[0].toNat := by omega
    go_enter Tryz.func57, Tryz.ntmps57
    go_wp2_with (fail)
    go_ret
    exact ⟨rfl, ⟨V, h, hnb⟩, Fr.refl _ _ _ _⟩
  · have d1 : decide ((32 : Int) ≤ c[0].toNat) = true := by simp; omega
    have d2 : (32 : Int) ≤ c[0].toNat := by omega
    have hk := ho.resolve_left h32
    clear k1 k2 k3 k4 k5 k6 k7 k8 ho
    go_enter Tryz.func57, Tryz.ntmps57
    go_wp2_with (fail)
    go_ret
    exact ⟨rfl, ⟨V, h, hnb⟩, Fr.refl _ _ _ _⟩
theorem act_up_no0 {c : ByteArray} (h : Ply base w p S ov hv P V) (hnb : V.bs.length ≤ nb) (hc : c.toList = [27, 91, 65]) (cpl : Bool) (hno : cpl = true ∨ P.s.hsel = 0) :
    Calls Tryz.prog 57 #[.pointer (some ⟨p, 0, none⟩), .string c, .bool cpl] w (PlyPost nb base p S ov hv P (.bool false) w) := by
  have hC := plC h.blk
  have c18 := hC.c18
  have hlt := hC.lt
  cases cpl with
  | true =>
    go_enter Tryz.func57, Tryz.ntmps57
    go_wp2_with (fail)
    go_ret
    exact ⟨rfl, ⟨V, h, hnb⟩, Fr.refl _ _ _ _⟩
  | false =>
    have h9 : P.s.hsel = 0 := by simpa using hno
    rw [h9] at c18
    go_enter Tryz.func57, Tryz.ntmps57
    go_wp2_with (fail)
    go_ret
    exact ⟨rfl, ⟨V, h, hnb⟩, Fr.refl _ _ _ _⟩
theorem act_up0 {c : ByteArray} (h : Ply base w p S ov hv P V) (hnb : V.bs.length ≤ nb) (hA : ActH P.s) (hc : c.toList = [27, 91, 65]) (hsel : P.s.hsel ≠ 0) :
    Calls Tryz.prog 57 #[.pointer (some ⟨p, 0, none⟩), .string c, .bool false] w (PlyPost nb base p S ov hv (P.st P.s.older) (.bool false) w) := by
  have hC := plC h.blk
  have c18 := hC.c18
  have hlt := hC.lt
  have hTl := hA.hTl
  have hhl := hA.hhl
  have hsl := hA.hsl
  have hj : P.s.hsel - 1 < P.s.ts.length := by omega
  have hx := hA.hT _ (List.getElem_mem hj)
  have hTn := pTurn_c (S := S) (ov := ov) (hv := hv) h hnb (-1) (P.s.hsel - 1) P.s.ts[P.s.hsel - 1] (by omega) (by omega) (by omega) hsl hj (List.getElem?_eq_getElem hj) hx.1 (by have := hx.2; omega)
  have hold : P.s.older = P.s.turned (P.s.hsel - 1) P.s.ts[P.s.hsel - 1] := by
    unfold PS.older
    rw [if_neg (by omega), List.getD_eq_getElem?_getD, List.getElem?_eq_getElem hj]
    rfl
  rw [← hold] at hTn
  have d1 : (0 : Int) < P.s.hsel := by omega
  have d2 : decide ((0 : Int) < P.s.hsel) = true := by simpa using d1
  clear hold hx
  go_enter Tryz.func57, Tryz.ntmps57
  go_wp2_with (fail)
  refine hTn.mono ?_
  rintro e w1 ⟨rfl, hV, hF1⟩
  go_wp2_with (fail)
  go_ret
  exact ⟨rfl, hV, hF1⟩
theorem act_up_no1 {c : ByteArray} (h : Ply base w p S ov hv P V) (hnb : V.bs.length ≤ nb) (hc : c.toList = [16]) (cpl : Bool) (hno : cpl = true ∨ P.s.hsel = 0) :
    Calls Tryz.prog 57 #[.pointer (some ⟨p, 0, none⟩), .string c, .bool cpl] w (PlyPost nb base p S ov hv P (.bool false) w) := by
  have hC := plC h.blk
  have c18 := hC.c18
  have hlt := hC.lt
  cases cpl with
  | true =>
    go_enter Tryz.func57, Tryz.ntmps57
    go_wp2_with (fail)
    go_ret
    exact ⟨rfl, ⟨V, h, hnb⟩, Fr.refl _ _ _ _⟩
  | false =>
    have h9 : P.s.hsel = 0 := by simpa using hno
    rw [h9] at c18
    go_enter Tryz.func57, Tryz.ntmps57
    go_wp2_with (fail)
    go_ret
    exact ⟨rfl, ⟨V, h, hnb⟩, Fr.refl _ _ _ _⟩
theorem act_up1 {c : ByteArray} (h : Ply base w p S ov hv P V) (hnb : V.bs.length ≤ nb) (hA : ActH P.s) (hc : c.toList = [16]) (hsel : P.s.hsel ≠ 0) :
    Calls Tryz.prog 57 #[.pointer (some ⟨p, 0, none⟩), .string c, .bool false] w (PlyPost nb base p S ov hv (P.st P.s.older) (.bool false) w) := by
  have hC := plC h.blk
  have c18 := hC.c18
  have hlt := hC.lt
  have hTl := hA.hTl
  have hhl := hA.hhl
  have hsl := hA.hsl
  have hj : P.s.hsel - 1 < P.s.ts.length := by omega
  have hx := hA.hT _ (List.getElem_mem hj)
  have hTn := pTurn_c (S := S) (ov := ov) (hv := hv) h hnb (-1) (P.s.hsel - 1) P.s.ts[P.s.hsel - 1] (by omega) (by omega) (by omega) hsl hj (List.getElem?_eq_getElem hj) hx.1 (by have := hx.2; omega)
  have hold : P.s.older = P.s.turned (P.s.hsel - 1) P.s.ts[P.s.hsel - 1] := by
    unfold PS.older
    rw [if_neg (by omega), List.getD_eq_getElem?_getD, List.getElem?_eq_getElem hj]
    rfl
  rw [← hold] at hTn
  have d1 : (0 : Int) < P.s.hsel := by omega
  have d2 : decide ((0 : Int) < P.s.hsel) = true := by simpa using d1
  clear hold hx
  go_enter Tryz.func57, Tryz.ntmps57
  go_wp2_with (fail)
  refine hTn.mono ?_
  rintro e w1 ⟨rfl, hV, hF1⟩
  go_wp2_with (fail)
  go_ret
  exact ⟨rfl, hV, hF1⟩
theorem act_dn_no0 {c : ByteArray} (h : Ply base w p S ov hv P V) (hnb : V.bs.length ≤ nb) (hA : ActH P.s) (hc : c.toList = [27, 91, 66]) (cpl : Bool) (hno : cpl = true ∨ P.s.ts.length ≤ P.s.hsel + 1) :
    Calls Tryz.prog 57 #[.pointer (some ⟨p, 0, none⟩), .string c, .bool cpl] w (PlyPost nb base p S ov hv P (.bool true) w) := by
  have hC := plC h.blk
  have c18 := hC.c18
  have c17 := hC.c17
  have hlt := hC.lt
  obtain ⟨kc, hvk, hkc⟩ := h.kept.k.form
  rw [hvk] at c17
  have hTl := hA.hTl
  have hhl := hA.hhl
  have hsl := hA.hsl
  have hwr : IntKind.i64.wrap ((P.s.hsel : Int) + 1) = (P.s.hsel : Int) + 1 := wrap_in (by omega) (by omega)
  cases cpl with
  | true =>
    go_enter Tryz.func57, Tryz.ntmps57
    go_wp2_with (fail)
    have hS : (fun w' : World => w'.cell? ⟨p, 18, none⟩ = some (.int .i64 P.s.hsel) ∧ w'.cell? ⟨p, 17, none⟩ = some (.slice (some ⟨V.gk, 0, none⟩) P.s.ts.length kc)) w.drew := ⟨c18, c17⟩
    refine wp_region_plan [6, 11] [] (fun w' : World => w'.cell? ⟨p, 18, none⟩ = some (.int .i64 P.s.hsel) ∧ w'.cell? ⟨p, 17, none⟩ = some (.slice (some ⟨V.gk, 0, none⟩) P.s.ts.length kc)) (.pure 0 (.pure 1 (.pure 2 (.pure 3 (.pure 4 (.pure 5 (.take 6 (.pure 7 (.pure 8 (.pure 9 (.pure 10 (.take 11 (.pure 12 (.pure 13 (.pure 14 .done))))))))))))))) hmix (by kernel_rfl) ?_
    repeat (first | (refine plan_move rfl rfl rfl ?_; (try simp only [Act.put, zq1, zq2, zq3, zq4, zq5, zq6])) | (refine plan_skipP rfl rfl ?_; (try simp only [Act.put, zq1, zq2, zq3, zq4, zq5, zq6])) | (refine plan_skip rfl hS rfl ?_; (try simp only [Act.put, zq1, zq2, zq3, zq4, zq5, zq6])) | (refine plan_pure (v := ?_) rfl rfl ?_ ?_; rotate_left; (intro w'; go_simp <;> with_reducible rfl); (try simp only [Act.put, zq1, zq2, zq3, zq4, zq5, zq6])) | (refine plan_take (v := ?_) rfl hS rfl ?_ ?_; rotate_left; (intro w' hSw; (try dsimp only at hSw); go_simp <;> with_reducible rfl); (try simp only [Act.put, zq1, zq2, zq3, zq4, zq5, zq6])))
    refine plan_done ?_
    go_wp2_with (fail)
    go_ret
    exact ⟨rfl, ⟨V, h.fr0 ((Fr.refl 0 [] [] w).drew), hnb⟩, (Fr.refl _ _ _ _).drew⟩
  | false =>
    have h9 : P.s.ts.length ≤ P.s.hsel + 1 := by simpa using hno
    have d1 : ¬ (P.s.hsel : Int) + 1 < P.s.ts.length := by omega
    go_enter Tryz.func57, Tryz.ntmps57
    go_wp2_with (fail)
    have hS : (fun w' : World => w'.cell? ⟨p, 18, none⟩ = some (.int .i64 P.s.hsel) ∧ w'.cell? ⟨p, 17, none⟩ = some (.slice (some ⟨V.gk, 0, none⟩) P.s.ts.length kc)) w.drew := ⟨c18, c17⟩
    refine wp_region_plan [6, 11] [] (fun w' : World => w'.cell? ⟨p, 18, none⟩ = some (.int .i64 P.s.hsel) ∧ w'.cell? ⟨p, 17, none⟩ = some (.slice (some ⟨V.gk, 0, none⟩) P.s.ts.length kc)) (.pure 0 (.pure 1 (.pure 2 (.pure 3 (.pure 4 (.pure 5 (.take 6 (.pure 7 (.pure 8 (.pure 9 (.pure 10 (.take 11 (.pure 12 (.pure 13 (.pure 14 .done))))))))))))))) hmix (by kernel_rfl) ?_
    repeat (first | (refine plan_move rfl rfl rfl ?_; (try simp only [Act.put, zq1, zq2, zq3, zq4, zq5, zq6])) | (refine plan_skipP rfl rfl ?_; (try simp only [Act.put, zq1, zq2, zq3, zq4, zq5, zq6])) | (refine plan_skip rfl hS rfl ?_; (try simp only [Act.put, zq1, zq2, zq3, zq4, zq5, zq6])) | (refine plan_pure (v := ?_) rfl rfl ?_ ?_; rotate_left; (intro w'; go_simp <;> with_reducible rfl); (try simp only [Act.put, zq1, zq2, zq3, zq4, zq5, zq6])) | (refine plan_take (v := ?_) rfl hS rfl ?_ ?_; rotate_left; (intro w' hSw; (try dsimp only at hSw); go_simp <;> with_reducible rfl); (try simp only [Act.put, zq1, zq2, zq3, zq4, zq5, zq6])))
    refine plan_done ?_
    go_wp2_with (fail)
    go_ret
    exact ⟨rfl, ⟨V, h.fr0 ((Fr.refl 0 [] [] w).drew), hnb⟩, (Fr.refl _ _ _ _).drew⟩
theorem act_dn0 {c : ByteArray} (h : Ply base w p S ov hv P V) (hnb : V.bs.length ≤ nb) (hA : ActH P.s) (hc : c.toList = [27, 91, 66]) (hlen : P.s.hsel + 1 < P.s.ts.length) :
    Calls Tryz.prog 57 #[.pointer (some ⟨p, 0, none⟩), .string c, .bool false] w (PlyPost nb base p S ov hv { s := P.s.newer, over := P.over, opn := P.opn || S.down } (.bool true) w) := by
  have hC := plC h.blk
  have c18 := hC.c18
  have c17 := hC.c17
  have hlt := hC.lt
  obtain ⟨kc, hvk, hkc⟩ := h.kept.k.form
  rw [hvk] at c17
  have hTl := hA.hTl
  have hhl := hA.hhl
  have hsl := hA.hsl
  have hwr : IntKind.i64.wrap ((P.s.hsel : Int) + 1) = (P.s.hsel : Int) + 1 := wrap_in (by omega) (by omega)
  have c4 := hC.c4
  have c23 := hC.c23
  have f23 := hC.f 23
  have d1 : (P.s.hsel : Int) + 1 < P.s.ts.length := by omega
  have hx := hA.hT _ (List.getElem_mem hlen)
  have hold : P.s.newer = P.s.turned (P.s.hsel + 1) P.s.ts[P.s.hsel + 1] := by
    unfold PS.newer
    rw [if_neg (by omega), List.getD_eq_getElem?_getD, List.getElem?_eq_getElem hlen]
    rfl
  obtain ⟨O, hO⟩ : ∃ O, (P.opn || S.down) = O := ⟨_, rfl⟩
  have h0 := (h.fr0 ((Fr.refl 0 [] [] w).drew))
  have h1 := h0.put 23 (.bool O) (P' := ⟨P.s, P.over, O⟩) (V' := V) rfl rfl rfl rfl rfl ⟨rfl, rfl, rfl, rfl, rfl, rfl⟩ rfl rfl
  have hF1 : Fr base PT [] w (w.drew.setCell ⟨p, 23, none⟩ (.bool O)) := ((Fr.refl base PT [] w).drew).trans (h0.putF 23 (.bool O))
  have hTn := pTurn_c (S := S) (ov := ov) (hv := hv) h1 hnb 1 (P.s.hsel + 1) P.s.ts[P.s.hsel + 1] (by show (P.s.hsel : Int) + 1 = ((P.s.hsel + 1 : Nat) : Int); omega) (by show P.s.hsel + 1 ≠ P.s.hsel; omega) (by show P.s.ts.length ≤ 1001; omega) hsl hlen (List.getElem?_eq_getElem hlen) hx.1 (by have := hx.2; omega)
  have hTn : Calls Tryz.prog 97 #[.pointer (some ⟨p, 0, none⟩), .int .i64 1] (w.drew.setCell ⟨p, 23, none⟩ (.bool O)) (PlyPost nb base p S ov hv ⟨P.s.newer, P.over, O⟩ (.tuple #[]) (w.drew.setCell ⟨p, 23, none⟩ (.bool O))) := by
    rw [hold]; exact hTn
  rw [hO]
  have HF := Lib.hid (And.intro hF1 hO)
  clear hold hx hO h0 h1 hF1
  cases hop : P.opn with
  | true =>
    rw [hop] at c23
    obtain rfl : O = true := by have h8 := HF.out.2; rw [hop] at h8; simpa using h8.symm
    go_enter Tryz.func57, Tryz.ntmps57
    go_wp2_with (fail)
    have hS : (fun w' : World => w'.cell? ⟨p, 18, none⟩ = some (.int .i64 P.s.hsel) ∧ w'.cell? ⟨p, 17, none⟩ = some (.slice (some ⟨V.gk, 0, none⟩) P.s.ts.length kc)) w.drew := ⟨c18, c17⟩
    refine wp_region_plan [6, 11] [] (fun w' : World => w'.cell? ⟨p, 18, none⟩ = some (.int .i64 P.s.hsel) ∧ w'.cell? ⟨p, 17, none⟩ = some (.slice (some ⟨V.gk, 0, none⟩) P.s.ts.length kc)) (.pure 0 (.pure 1 (.pure 2 (.pure 3 (.pure 4 (.pure 5 (.take 6 (.pure 7 (.pure 8 (.pure 9 (.pure 10 (.take 11 (.pure 12 (.pure 13 (.pure 14 .done))))))))))))))) hmix (by kernel_rfl) ?_
    repeat (first | (refine plan_move rfl rfl rfl ?_; (try simp only [Act.put, zq1, zq2, zq3, zq4, zq5, zq6])) | (refine plan_skipP rfl rfl ?_; (try simp only [Act.put, zq1, zq2, zq3, zq4, zq5, zq6])) | (refine plan_skip rfl hS rfl ?_; (try simp only [Act.put, zq1, zq2, zq3, zq4, zq5, zq6])) | (refine plan_pure (v := ?_) rfl rfl ?_ ?_; rotate_left; (intro w'; go_simp <;> with_reducible rfl); (try simp only [Act.put, zq1, zq2, zq3, zq4, zq5, zq6])) | (refine plan_take (v := ?_) rfl hS rfl ?_ ?_; rotate_left; (intro w' hSw; (try dsimp only at hSw); go_simp <;> with_reducible rfl); (try simp only [Act.put, zq1, zq2, zq3, zq4, zq5, zq6])))
    refine plan_done ?_
    go_wp2_with (fail)
    refine hTn.mono ?_
    rintro e w1 ⟨rfl, hV, hF2⟩
    go_wp2_with (fail)
    go_ret
    exact ⟨rfl, hV, HF.out.1.trans hF2⟩
  | false =>
    rw [hop] at c23
    cases hdn : S.down with
    | true =>
      rw [hdn] at c4
      obtain rfl : O = true := by have h8 := HF.out.2; rw [hop, hdn] at h8; simpa using h8.symm
      go_enter Tryz.func57, Tryz.ntmps57
      go_wp2_with (fail)
      have hS : (fun w' : World => w'.cell? ⟨p, 18, none⟩ = some (.int .i64 P.s.hsel) ∧ w'.cell? ⟨p, 17, none⟩ = some (.slice (some ⟨V.gk, 0, none⟩) P.s.ts.length kc)) w.drew := ⟨c18, c17⟩
      refine wp_region_plan [6, 11] [] (fun w' : World => w'.cell? ⟨p, 18, none⟩ = some (.int .i64 P.s.hsel) ∧ w'.cell? ⟨p, 17, none⟩ = some (.slice (some ⟨V.gk, 0, none⟩) P.s.ts.length kc)) (.pure 0 (.pure 1 (.pure 2 (.pure 3 (.pure 4 (.pure 5 (.take 6 (.pure 7 (.pure 8 (.pure 9 (.pure 10 (.take 11 (.pure 12 (.pure 13 (.pure 14 .done))))))))))))))) hmix (by kernel_rfl) ?_
      repeat (first | (refine plan_move rfl rfl rfl ?_; (try simp only [Act.put, zq1, zq2, zq3, zq4, zq5, zq6])) | (refine plan_skipP rfl rfl ?_; (try simp only [Act.put, zq1, zq2, zq3, zq4, zq5, zq6])) | (refine plan_skip rfl hS rfl ?_; (try simp only [Act.put, zq1, zq2, zq3, zq4, zq5, zq6])) | (refine plan_pure (v := ?_) rfl rfl ?_ ?_; rotate_left; (intro w'; go_simp <;> with_reducible rfl); (try simp only [Act.put, zq1, zq2, zq3, zq4, zq5, zq6])) | (refine plan_take (v := ?_) rfl hS rfl ?_ ?_; rotate_left; (intro w' hSw; (try dsimp only at hSw); go_simp <;> with_reducible rfl); (try simp only [Act.put, zq1, zq2, zq3, zq4, zq5, zq6])))
      refine plan_done ?_
      go_wp2_with (fail)
      refine hTn.mono ?_
      rintro e w1 ⟨rfl, hV, hF2⟩
      go_wp2_with (fail)
      go_ret
      exact ⟨rfl, hV, HF.out.1.trans hF2⟩
    | false =>
      rw [hdn] at c4
      obtain rfl : O = false := by have h8 := HF.out.2; rw [hop, hdn] at h8; simpa using h8.symm
      go_enter Tryz.func57, Tryz.ntmps57
      go_wp2_with (fail)
      have hS : (fun w' : World => w'.cell? ⟨p, 18, none⟩ = some (.int .i64 P.s.hsel) ∧ w'.cell? ⟨p, 17, none⟩ = some (.slice (some ⟨V.gk, 0, none⟩) P.s.ts.length kc)) w.drew := ⟨c18, c17⟩
      refine wp_region_plan [6, 11] [] (fun w' : World => w'.cell? ⟨p, 18, none⟩ = some (.int .i64 P.s.hsel) ∧ w'.cell? ⟨p, 17, none⟩ = some (.slice (some ⟨V.gk, 0, none⟩) P.s.ts.length kc)) (.pure 0 (.pure 1 (.pure 2 (.pure 3 (.pure 4 (.pure 5 (.take 6 (.pure 7 (.pure 8 (.pure 9 (.pure 10 (.take 11 (.pure 12 (.pure 13 (.pure 14 .done))))))))))))))) hmix (by kernel_rfl) ?_
      repeat (first | (refine plan_move rfl rfl rfl ?_; (try simp only [Act.put, zq1, zq2, zq3, zq4, zq5, zq6])) | (refine plan_skipP rfl rfl ?_; (try simp only [Act.put, zq1, zq2, zq3, zq4, zq5, zq6])) | (refine plan_skip rfl hS rfl ?_; (try simp only [Act.put, zq1, zq2, zq3, zq4, zq5, zq6])) | (refine plan_pure (v := ?_) rfl rfl ?_ ?_; rotate_left; (intro w'; go_simp <;> with_reducible rfl); (try simp only [Act.put, zq1, zq2, zq3, zq4, zq5, zq6])) | (refine plan_take (v := ?_) rfl hS rfl ?_ ?_; rotate_left; (intro w' hSw; (try dsimp only at hSw); go_simp <;> with_reducible rfl); (try simp only [Act.put, zq1, zq2, zq3, zq4, zq5, zq6])))
      refine plan_done ?_
      go_wp2_with (fail)
      refine hTn.mono ?_
      rintro e w1 ⟨rfl, hV, hF2⟩
      go_wp2_with (fail)
      go_ret
      exact ⟨rfl, hV, HF.out.1.trans hF2⟩
theorem act_dn_no1 {c : ByteArray} (h : Ply base w p S ov hv P V) (hnb : V.bs.length ≤ nb) (hA : ActH P.s) (hc : c.toList = [14]) (cpl : Bool) (hno : cpl = true ∨ P.s.ts.length ≤ P.s.hsel + 1) :
    Calls Tryz.prog 57 #[.pointer (some ⟨p, 0, none⟩), .string c, .bool cpl] w (PlyPost nb base p S ov hv P (.bool true) w) := by
  have hC := plC h.blk
  have c18 := hC.c18
  have c17 := hC.c17
  have hlt := hC.lt
  obtain ⟨kc, hvk, hkc⟩ := h.kept.k.form
  rw [hvk] at c17
  have hTl := hA.hTl
  have hhl := hA.hhl
  have hsl := hA.hsl
  have hwr : IntKind.i64.wrap ((P.s.hsel : Int) + 1) = (P.s.hsel : Int) + 1 := wrap_in (by omega) (by omega)
  cases cpl with
  | true =>
    go_enter Tryz.func57, Tryz.ntmps57
    go_wp2_with (fail)
    have hS : (fun w' : World => w'.cell? ⟨p, 18, none⟩ = some (.int .i64 P.s.hsel) ∧ w'.cell? ⟨p, 17, none⟩ = some (.slice (some ⟨V.gk, 0, none⟩) P.s.ts.length kc)) w.drew := ⟨c18, c17⟩
    refine wp_region_plan [6, 11] [] (fun w' : World => w'.cell? ⟨p, 18, none⟩ = some (.int .i64 P.s.hsel) ∧ w'.cell? ⟨p, 17, none⟩ = some (.slice (some ⟨V.gk, 0, none⟩) P.s.ts.length kc)) (.pure 0 (.pure 1 (.pure 2 (.pure 3 (.pure 4 (.pure 5 (.take 6 (.pure 7 (.pure 8 (.pure 9 (.pure 10 (.take 11 (.pure 12 (.pure 13 (.pure 14 .done))))))))))))))) hmix (by kernel_rfl) ?_
    repeat (first | (refine plan_move rfl rfl rfl ?_; (try simp only [Act.put, zq1, zq2, zq3, zq4, zq5, zq6])) | (refine plan_skipP rfl rfl ?_; (try simp only [Act.put, zq1, zq2, zq3, zq4, zq5, zq6])) | (refine plan_skip rfl hS rfl ?_; (try simp only [Act.put, zq1, zq2, zq3, zq4, zq5, zq6])) | (refine plan_pure (v := ?_) rfl rfl ?_ ?_; rotate_left; (intro w'; go_simp <;> with_reducible rfl); (try simp only [Act.put, zq1, zq2, zq3, zq4, zq5, zq6])) | (refine plan_take (v := ?_) rfl hS rfl ?_ ?_; rotate_left; (intro w' hSw; (try dsimp only at hSw); go_simp <;> with_reducible rfl); (try simp only [Act.put, zq1, zq2, zq3, zq4, zq5, zq6])))
    refine plan_done ?_
    go_wp2_with (fail)
    go_ret
    exact ⟨rfl, ⟨V, h.fr0 ((Fr.refl 0 [] [] w).drew), hnb⟩, (Fr.refl _ _ _ _).drew⟩
  | false =>
    have h9 : P.s.ts.length ≤ P.s.hsel + 1 := by simpa using hno
    have d1 : ¬ (P.s.hsel : Int) + 1 < P.s.ts.length := by omega
    go_enter Tryz.func57, Tryz.ntmps57
    go_wp2_with (fail)
    have hS : (fun w' : World => w'.cell? ⟨p, 18, none⟩ = some (.int .i64 P.s.hsel) ∧ w'.cell? ⟨p, 17, none⟩ = some (.slice (some ⟨V.gk, 0, none⟩) P.s.ts.length kc)) w.drew := ⟨c18, c17⟩
    refine wp_region_plan [6, 11] [] (fun w' : World => w'.cell? ⟨p, 18, none⟩ = some (.int .i64 P.s.hsel) ∧ w'.cell? ⟨p, 17, none⟩ = some (.slice (some ⟨V.gk, 0, none⟩) P.s.ts.length kc)) (.pure 0 (.pure 1 (.pure 2 (.pure 3 (.pure 4 (.pure 5 (.take 6 (.pure 7 (.pure 8 (.pure 9 (.pure 10 (.take 11 (.pure 12 (.pure 13 (.pure 14 .done))))))))))))))) hmix (by kernel_rfl) ?_
    repeat (first | (refine plan_move rfl rfl rfl ?_; (try simp only [Act.put, zq1, zq2, zq3, zq4, zq5, zq6])) | (refine plan_skipP rfl rfl ?_; (try simp only [Act.put, zq1, zq2, zq3, zq4, zq5, zq6])) | (refine plan_skip rfl hS rfl ?_; (try simp only [Act.put, zq1, zq2, zq3, zq4, zq5, zq6])) | (refine plan_pure (v := ?_) rfl rfl ?_ ?_; rotate_left; (intro w'; go_simp <;> with_reducible rfl); (try simp only [Act.put, zq1, zq2, zq3, zq4, zq5, zq6])) | (refine plan_take (v := ?_) rfl hS rfl ?_ ?_; rotate_left; (intro w' hSw; (try dsimp only at hSw); go_simp <;> with_reducible rfl); (try simp only [Act.put, zq1, zq2, zq3, zq4, zq5, zq6])))
    refine plan_done ?_
    go_wp2_with (fail)
    go_ret
    exact ⟨rfl, ⟨V, h.fr0 ((Fr.refl 0 [] [] w).drew), hnb⟩, (Fr.refl _ _ _ _).drew⟩
theorem act_dn1 {c : ByteArray} (h : Ply base w p S ov hv P V) (hnb : V.bs.length ≤ nb) (hA : ActH P.s) (hc : c.toList = [14]) (hlen : P.s.hsel + 1 < P.s.ts.length) :
    Calls Tryz.prog 57 #[.pointer (some ⟨p, 0, none⟩), .string c, .bool false] w (PlyPost nb base p S ov hv { s := P.s.newer, over := P.over, opn := P.opn || false } (.bool true) w) := by
  have hC := plC h.blk
  have c18 := hC.c18
  have c17 := hC.c17
  have hlt := hC.lt
  obtain ⟨kc, hvk, hkc⟩ := h.kept.k.form
  rw [hvk] at c17
  have hTl := hA.hTl
  have hhl := hA.hhl
  have hsl := hA.hsl
  have hwr : IntKind.i64.wrap ((P.s.hsel : Int) + 1) = (P.s.hsel : Int) + 1 := wrap_in (by omega) (by omega)
  have c4 := hC.c4
  have c23 := hC.c23
  have f23 := hC.f 23
  have d1 : (P.s.hsel : Int) + 1 < P.s.ts.length := by omega
  have hx := hA.hT _ (List.getElem_mem hlen)
  have hold : P.s.newer = P.s.turned (P.s.hsel + 1) P.s.ts[P.s.hsel + 1] := by
    unfold PS.newer
    rw [if_neg (by omega), List.getD_eq_getElem?_getD, List.getElem?_eq_getElem hlen]
    rfl
  obtain ⟨O, hO⟩ : ∃ O, (P.opn || false) = O := ⟨_, rfl⟩
  have h0 := (h.fr0 ((Fr.refl 0 [] [] w).drew))
  have h1 := h0.put 23 (.bool O) (P' := ⟨P.s, P.over, O⟩) (V' := V) rfl rfl rfl rfl rfl ⟨rfl, rfl, rfl, rfl, rfl, rfl⟩ rfl rfl
  have hF1 : Fr base PT [] w (w.drew.setCell ⟨p, 23, none⟩ (.bool O)) := ((Fr.refl base PT [] w).drew).trans (h0.putF 23 (.bool O))
  have hTn := pTurn_c (S := S) (ov := ov) (hv := hv) h1 hnb 1 (P.s.hsel + 1) P.s.ts[P.s.hsel + 1] (by show (P.s.hsel : Int) + 1 = ((P.s.hsel + 1 : Nat) : Int); omega) (by show P.s.hsel + 1 ≠ P.s.hsel; omega) (by show P.s.ts.length ≤ 1001; omega) hsl hlen (List.getElem?_eq_getElem hlen) hx.1 (by have := hx.2; omega)
  have hTn : Calls Tryz.prog 97 #[.pointer (some ⟨p, 0, none⟩), .int .i64 1] (w.drew.setCell ⟨p, 23, none⟩ (.bool O)) (PlyPost nb base p S ov hv ⟨P.s.newer, P.over, O⟩ (.tuple #[]) (w.drew.setCell ⟨p, 23, none⟩ (.bool O))) := by
    rw [hold]; exact hTn
  rw [hO]
  have HF := Lib.hid (And.intro hF1 hO)
  clear hold hx hO h0 h1 hF1
  cases hop : P.opn with
  | true =>
    rw [hop] at c23
    obtain rfl : O = true := by have h8 := HF.out.2; rw [hop] at h8; simpa using h8.symm
    go_enter Tryz.func57, Tryz.ntmps57
    go_wp2_with (fail)
    have hS : (fun w' : World => w'.cell? ⟨p, 18, none⟩ = some (.int .i64 P.s.hsel) ∧ w'.cell? ⟨p, 17, none⟩ = some (.slice (some ⟨V.gk, 0, none⟩) P.s.ts.length kc)) w.drew := ⟨c18, c17⟩
    refine wp_region_plan [6, 11] [] (fun w' : World => w'.cell? ⟨p, 18, none⟩ = some (.int .i64 P.s.hsel) ∧ w'.cell? ⟨p, 17, none⟩ = some (.slice (some ⟨V.gk, 0, none⟩) P.s.ts.length kc)) (.pure 0 (.pure 1 (.pure 2 (.pure 3 (.pure 4 (.pure 5 (.take 6 (.pure 7 (.pure 8 (.pure 9 (.pure 10 (.take 11 (.pure 12 (.pure 13 (.pure 14 .done))))))))))))))) hmix (by kernel_rfl) ?_
    repeat (first | (refine plan_move rfl rfl rfl ?_; (try simp only [Act.put, zq1, zq2, zq3, zq4, zq5, zq6])) | (refine plan_skipP rfl rfl ?_; (try simp only [Act.put, zq1, zq2, zq3, zq4, zq5, zq6])) | (refine plan_skip rfl hS rfl ?_; (try simp only [Act.put, zq1, zq2, zq3, zq4, zq5, zq6])) | (refine plan_pure (v := ?_) rfl rfl ?_ ?_; rotate_left; (intro w'; go_simp <;> with_reducible rfl); (try simp only [Act.put, zq1, zq2, zq3, zq4, zq5, zq6])) | (refine plan_take (v := ?_) rfl hS rfl ?_ ?_; rotate_left; (intro w' hSw; (try dsimp only at hSw); go_simp <;> with_reducible rfl); (try simp only [Act.put, zq1, zq2, zq3, zq4, zq5, zq6])))
    refine plan_done ?_
    go_wp2_with (fail)
    refine hTn.mono ?_
    rintro e w1 ⟨rfl, hV, hF2⟩
    go_wp2_with (fail)
    go_ret
    exact ⟨rfl, hV, HF.out.1.trans hF2⟩
  | false =>
    rw [hop] at c23
    cases hdn : S.down with
    | true =>
      rw [hdn] at c4
      obtain rfl : O = false := by have h8 := HF.out.2; rw [hop] at h8; simpa using h8.symm
      go_enter Tryz.func57, Tryz.ntmps57
      go_wp2_with (fail)
      have hS : (fun w' : World => w'.cell? ⟨p, 18, none⟩ = some (.int .i64 P.s.hsel) ∧ w'.cell? ⟨p, 17, none⟩ = some (.slice (some ⟨V.gk, 0, none⟩) P.s.ts.length kc)) w.drew := ⟨c18, c17⟩
      refine wp_region_plan [6, 11] [] (fun w' : World => w'.cell? ⟨p, 18, none⟩ = some (.int .i64 P.s.hsel) ∧ w'.cell? ⟨p, 17, none⟩ = some (.slice (some ⟨V.gk, 0, none⟩) P.s.ts.length kc)) (.pure 0 (.pure 1 (.pure 2 (.pure 3 (.pure 4 (.pure 5 (.take 6 (.pure 7 (.pure 8 (.pure 9 (.pure 10 (.take 11 (.pure 12 (.pure 13 (.pure 14 .done))))))))))))))) hmix (by kernel_rfl) ?_
      repeat (first | (refine plan_move rfl rfl rfl ?_; (try simp only [Act.put, zq1, zq2, zq3, zq4, zq5, zq6])) | (refine plan_skipP rfl rfl ?_; (try simp only [Act.put, zq1, zq2, zq3, zq4, zq5, zq6])) | (refine plan_skip rfl hS rfl ?_; (try simp only [Act.put, zq1, zq2, zq3, zq4, zq5, zq6])) | (refine plan_pure (v := ?_) rfl rfl ?_ ?_; rotate_left; (intro w'; go_simp <;> with_reducible rfl); (try simp only [Act.put, zq1, zq2, zq3, zq4, zq5, zq6])) | (refine plan_take (v := ?_) rfl hS rfl ?_ ?_; rotate_left; (intro w' hSw; (try dsimp only at hSw); go_simp <;> with_reducible rfl); (try simp only [Act.put, zq1, zq2, zq3, zq4, zq5, zq6])))
      refine plan_done ?_
      go_wp2_with (fail)
      refine hTn.mono ?_
      rintro e w1 ⟨rfl, hV, hF2⟩
      go_wp2_with (fail)
      go_ret
      exact ⟨rfl, hV, HF.out.1.trans hF2⟩
    | false =>
      rw [hdn] at c4
      obtain rfl : O = false := by have h8 := HF.out.2; rw [hop] at h8; simpa using h8.symm
      go_enter Tryz.func57, Tryz.ntmps57
      go_wp2_with (fail)
      have hS : (fun w' : World => w'.cell? ⟨p, 18, none⟩ = some (.int .i64 P.s.hsel) ∧ w'.cell? ⟨p, 17, none⟩ = some (.slice (some ⟨V.gk, 0, none⟩) P.s.ts.length kc)) w.drew := ⟨c18, c17⟩
      refine wp_region_plan [6, 11] [] (fun w' : World => w'.cell? ⟨p, 18, none⟩ = some (.int .i64 P.s.hsel) ∧ w'.cell? ⟨p, 17, none⟩ = some (.slice (some ⟨V.gk, 0, none⟩) P.s.ts.length kc)) (.pure 0 (.pure 1 (.pure 2 (.pure 3 (.pure 4 (.pure 5 (.take 6 (.pure 7 (.pure 8 (.pure 9 (.pure 10 (.take 11 (.pure 12 (.pure 13 (.pure 14 .done))))))))))))))) hmix (by kernel_rfl) ?_
      repeat (first | (refine plan_move rfl rfl rfl ?_; (try simp only [Act.put, zq1, zq2, zq3, zq4, zq5, zq6])) | (refine plan_skipP rfl rfl ?_; (try simp only [Act.put, zq1, zq2, zq3, zq4, zq5, zq6])) | (refine plan_skip rfl hS rfl ?_; (try simp only [Act.put, zq1, zq2, zq3, zq4, zq5, zq6])) | (refine plan_pure (v := ?_) rfl rfl ?_ ?_; rotate_left; (intro w'; go_simp <;> with_reducible rfl); (try simp only [Act.put, zq1, zq2, zq3, zq4, zq5, zq6])) | (refine plan_take (v := ?_) rfl hS rfl ?_ ?_; rotate_left; (intro w' hSw; (try dsimp only at hSw); go_simp <;> with_reducible rfl); (try simp only [Act.put, zq1, zq2, zq3, zq4, zq5, zq6])))
      refine plan_done ?_
      go_wp2_with (fail)
      refine hTn.mono ?_
      rintro e w1 ⟨rfl, hV, hF2⟩
      go_wp2_with (fail)
      go_ret
      exact ⟨rfl, hV, HF.out.1.trans hF2⟩
end
end Go.Proofs.YtiepopbmbgfhkaaGreat
