/-
  The completion manager's selected suggestion; what is run; what ends a session.
  Where the cursor is shown; the line that is ended.
-/
import Derived.Test.YtiepopbmbgfhkaaGreatQ9
import Derived.Laws.ResultCell
import Derived.Laws.Rows
namespace Go.Proofs.YtiepopbmbgfhkaaGreat
open Go.RowKit
open List renaming setIfInBounds_toArray → zq1, set_cons_zero → zq2, set_cons_succ → zq3
open Int renaming toNat_natCast → zq4, toNat_sub → zq5, toNat_zero → zq6
set_option maxHeartbeats 1000000
set_option maxRecDepth 20000
set_option linter.unusedVariables false
set_option linter.unusedSimpArgs false

theorem res_cell73 {fn : Func} (h : fn.results = #[.cell 2 73, .tmp 3]) {tmps : Array Value} {w : World} {M : Nat} {cs : Array Value} (hp : tmps.getD 2 undef = .pointer (some ⟨M, 0, none⟩)) (hB : Blk w M cs 73) (hs : cs.size = 2) :
    (results fn tmps).run Tryz.prog w = .ok (.tuple #[.agg cs, tmps.getD 3 undef]) w := by
  rw [results_cell_tmp h, hp]
  have hr := run_loadVar_row (P := Tryz.prog) w M 73 73 cs (0, 0) _ hB Tryz.underlying73 rfl (by rw [hs]; kernel_rfl)
  simp [asAddr, hr]

theorem getSel_none {base : Nat} {w : World} {c : Nat} {q : Cp} {vs : Int} {tmp : List Pk} (h : Cm base w c q (-1) vs tmp) :
    Calls Tryz.prog 83 #[.pointer (some ⟨c, 0, none⟩)] w fun e w' => e = .returned (.tuple #[.agg #[.string .empty, .string .empty], .bool false]) ∧ Fr 0 [] [] w w' := by
  obtain ⟨p, kk, ⟨c0, c1, c2, c3, c4, c5, c6, f0, f1, f4, hlt⟩, hB, hP, hb⟩ := h.ren
  go_enter Tryz.func83, Tryz.ntmps83
  go_wp2_with (fail)
  refine bodyPost_ret (res_cell73 rfl rfl (Blk.new w _ _) rfl) rfl ?_
  exact ⟨rfl, (Fr.refl _ _ _ _).alloc _⟩

theorem getSel_some {base : Nat} {w : World} {c : Nat} {q : Cp} {sel : Nat} {vs : Int} {tmp : List Pk} (h : Cm base w c q sel vs tmp) (hs : sel < tmp.length) (ht : tmp.length ≤ 1000) :
    Calls Tryz.prog 83 #[.pointer (some ⟨c, 0, none⟩)] w fun e w' => e = .returned (.tuple #[.agg #[.string tmp[sel].1, .string tmp[sel].2], .bool true]) ∧ Fr 0 [] [] w w' := by
  obtain ⟨p, kk, ⟨c0, c1, c2, c3, c4, c5, c6, f0, f1, f4, hlt⟩, hB, hP, hb⟩ := h.ren
  obtain ⟨g, cg, eg, e1, e2, hbg, hgl⟩ := hP.get sel hs
  simp only [Value.slice.injEq] at eg
  obtain ⟨rfl, -, rfl⟩ := eg
  have d1 : (((sel : Nat) : Int) == -1) = false := (int_ne (by omega)).1
  have d2 : decide ((sel : Int) < -1) = false := by simp
  have d3 : (sel : Int) < tmp.length := by omega
  obtain ⟨M, hM⟩ : ∃ M, w.heap.size = M := ⟨_, rfl⟩
  rw [hM] at hlt hgl
  go_enter Tryz.func83, Tryz.ntmps83
  go_wp2_with (fail)
  have hBM := Blk.new' (w := w) hM.symm #[.string .empty, .string .empty] 73
  obtain ⟨m0, m1, mf0, mf1⟩ := hBM.c2
  have hx0 : (w.alloc (.cells #[.string .empty, .string .empty] 73)).cell? ⟨c, 1, none⟩ = some (.slice (some ⟨g, 0, none⟩) tmp.length kk) := ((Fr.refl 0 [] [] w).alloc _).cell0 c1
  have hx1 : (w.alloc (.cells #[.string .empty, .string .empty] 73)).cell? ⟨c, 0, none⟩ = some (.int .i64 sel) := ((Fr.refl 0 [] [] w).alloc _).cell0 c0
  have hx2 : (w.alloc (.cells #[.string .empty, .string .empty] 73)).cell? ⟨g, sel * 2, none⟩ = some (.string tmp[sel].1) := ((Fr.refl 0 [] [] w).alloc _).cell0 e1
  have hx3 : (w.alloc (.cells #[.string .empty, .string .empty] 73)).cell? ⟨g, sel * 2 + 1, none⟩ = some (.string tmp[sel].2) := ((Fr.refl 0 [] [] w).alloc _).cell0 e2
  have hS : (fun w' : World => w'.cell? ⟨c, 1, none⟩ = some (.slice (some ⟨g, 0, none⟩) tmp.length kk) ∧ w'.cell? ⟨c, 0, none⟩ = some (.int .i64 sel) ∧ w'.cell? ⟨g, sel * 2, none⟩ = some (.string tmp[sel].1) ∧ w'.cell? ⟨g, sel * 2 + 1, none⟩ = some (.string tmp[sel].2)) (w.alloc (.cells #[.string .empty, .string .empty] 73)).drew := ⟨hx0, hx1, hx2, hx3⟩
  refine wp_region_plan [3, 7, 9] [10] (fun w' : World => w'.cell? ⟨c, 1, none⟩ = some (.slice (some ⟨g, 0, none⟩) tmp.length kk) ∧ w'.cell? ⟨c, 0, none⟩ = some (.int .i64 sel) ∧ w'.cell? ⟨g, sel * 2, none⟩ = some (.string tmp[sel].1) ∧ w'.cell? ⟨g, sel * 2 + 1, none⟩ = some (.string tmp[sel].2)) (.pure 0 (.pure 1 (.pure 2 (.take 3 (.pure 4 (.pure 5 (.pure 6 (.take 7 (.pure 8 (.take 9 (.go 10 (.pure 11 .done)))))))))))) hmix (by kernel_rfl) ?_
  repeat (first | (refine plan_move rfl rfl rfl ?_; (try simp only [Act.put, zq1, zq2, zq3, zq4, zq5, zq6])) | (refine plan_pure (v := ?_) rfl rfl ?_ ?_; rotate_left; (intro w'; go_simp <;> with_reducible rfl); (try simp only [Act.put, zq1, zq2, zq3, zq4, zq5, zq6])) | (refine plan_take (v := ?_) rfl hS rfl ?_ ?_; rotate_left; (intro w' hSw; (try dsimp only at hSw); go_simp <;> with_reducible rfl); (try simp only [Act.put, zq1, zq2, zq3, zq4, zq5, zq6])))
  refine plan_go rfl (by kernel_rfl) rfl (fun K hK => ?_)
  go_simp; refine hK _ _ ?_; clear hK K; (try simp only [Act.put, zq1, zq2, zq3, zq4, zq5, zq6])
  refine plan_pure (v := ?_) rfl rfl ?_ ?_; rotate_left; (intro w'; go_simp <;> with_reducible rfl); (try simp only [Act.put, zq1, zq2, zq3, zq4, zq5, zq6])
  refine plan_done ?_
  go_wp2
  refine bodyPost_ret (res_cell73 rfl rfl (Blk.new' hM.symm _ _).drew rfl) rfl ?_
  exact ⟨rfl, ((Fr.refl _ _ _ _).alloc _).drew⟩

/-- A slice of texts that the call owns; nil without any. -/
def OS (base : Nat) (w : World) (v : Value) (xs : List ByteArray) : Prop := w.ownsRow base 9 1 v xs.length (xs.map Value.string)
theorem OS.form {base : Nat} {w : World} {v : Value} {xs : List ByteArray} (h : OS base w v xs) : ∃ p c, v = .slice p xs.length c := by
  obtain ⟨h1, ⟨rfl, h2⟩ | ⟨g, cap, cur, rfl, hb, hg, hn, hcap, hsz, ht⟩⟩ := h
  · exact ⟨none, 0, by rw [h2]⟩
  · exact ⟨_, _, rfl⟩
theorem OS.fr {base base' : Nat} {w w1 : World} {v : Value} {xs : List ByteArray} {ts bs : List Nat} (h : OS base w v xs) (hF : Fr base' ts bs w w1) (hb : ∀ g, v.ownBlock = some g → g ∉ bs) (h9 : 9 ∉ ts) : OS base w1 v xs :=
  hF.row h fun g hg => .inr ⟨hb g hg, h9⟩
theorem OS.fr0 {base base' : Nat} {w w1 : World} {v : Value} {xs : List ByteArray} (h : OS base w v xs) (hF : Fr base' [] [] w w1) : OS base w1 v xs := h.fr hF (by simp) (by simp)

theorem wp_appo {o : Oper} {a : Act} {w : World} {K : Act → World → Prop} {Q : Exit → Act → World → Prop} {base : Nat} {v : Value} {xs : List ByteArray} {t : ByteArray} {b c : Nat} (s x : Operand) (ho : o.op = .call { callee := .builtin .append, args := #[s, x], argTypes := #[23, 23] })
    (hs : a.eval s = v) (hx : a.eval x = .slice (some ⟨b, 0, none⟩) 1 c) (hr : OS base w v xs) (hd : Blk w b #[.string t] 9) (hlen : xs.length ≤ 1000000) (hb : base ≤ w.heap.size)
    (h : ∀ p n c w', OS base w' (.slice p n c) (xs ++ [t]) → ((Value.slice p n c).ownBlock = v.ownBlock ∨ (Value.slice p n c).ownBlock = some w.heap.size) → Fr base [] v.ownBlock.toList w w' → K (a.put o.dst (.slice p n c)) w') : o.wp Tryz.prog a w K Q := by
  obtain ⟨i, h1, h2, h3, h4⟩ := info9
  obtain ⟨v', w', hrun, hown', hgr, hnil, hat⟩ := run_append_own_at (P := Tryz.prog) w base 23 o.type 9 i (.string .empty) 1 16 (by kernel_rfl) h1 h2 h3 h4 rfl (by decide) v xs.length _ hr
    ⟨b, 0, none⟩ 1 c [.string t] (by simp) (fun j u hj => by
      rw [add_at, hd.cell]
      rw [← hj]
      rcases j with _ | j <;> rfl)
    (fun u hu => by simp only [List.mem_singleton] at hu; subst hu; rfl) (by simp only [maxLen]; omega) (by omega) hb
  have hP : OS base w' v' (xs ++ [t]) := by unfold OS; rw [List.length_append]; simpa using hown'
  obtain ⟨p, c', rfl⟩ := hP.form
  unfold Oper.wp execOp
  simp only [ho, resolve, invoke, builtin, Sem.run_bind, Sem.run_pure, Result.andThen_ok, List.map_toArray, List.map_cons, List.map_nil, hs, hx, hrun]
  exact h p _ c' w' hP hat ((Fr.refl base [] _ w).grown hgr fun k hk => by
    obtain ⟨e1, -⟩ := row_blk hr k hk
    exact ⟨e1, .inl (by rw [hk]; simp)⟩)

/-- Where lines go that are executed: a pointer to a session's standing, whose first cell is the slice of the lines. -/
def Ln (base : Nat) (w : World) (lb x : Nat) (vl : Value) (ls : List ByteArray) (v1 v2 v3 : Value) : Prop :=
  base ≤ x ∧ Blk w lb #[.pointer (some ⟨x, 0, none⟩)] 51 ∧ Blk w x #[vl, v1, v2, v3] 31 ∧ OS base w vl ls

theorem run_c {base : Nat} {w : World} {lb x : Nat} {vl v1 v2 v3 : Value} {ls : List ByteArray} (h : Ln base w lb x vl ls v1 v2 v3) (t : ByteArray) (hl : ls.length ≤ 1000) :
    Calls Tryz.prog 41 #[.string t, .pointer (some ⟨lb, 0, none⟩)] w fun e w' => e = .returned (.tuple #[]) ∧ (∃ vl', Ln base w' lb x vl' (ls ++ [t]) v1 v2 v3 ∧ (vl'.ownBlock = vl.ownBlock ∨ ∃ g, vl'.ownBlock = some g ∧ w.heap.size ≤ g)) ∧ Fr base [] (x :: vl.ownBlock.toList) w w' := by
  obtain ⟨hbx, hLB, hX, hO⟩ := h
  obtain ⟨l0, -⟩ := hLB.c1
  have x0 := hX.cell 0
  have xf := hX.frozen 0
  obtain ⟨p, c, rfl⟩ := hO.form
  have hxl := hX.lt
  have hll := hLB.lt
  go_enter Tryz.func41, Tryz.ntmps41
  go_wp2_with (fail)
  have hS : (fun w' : World => w'.cell? ⟨lb, 0, none⟩ = some (.pointer (some ⟨x, 0, none⟩)) ∧ w'.cell? ⟨x, 0, none⟩ = some (.slice p ls.length c)) w.drew := ⟨l0, x0⟩
  have hnot : ∀ (y : Nat) (cs : Array Value) (ty : TypeId), Blk w y cs ty → ty ≠ 9 → y ∉ (Value.slice p ls.length c).ownBlock.toList := fun y cs ty hy hne hm => by
    simp only [Option.mem_toList, Option.mem_def] at hm
    obtain ⟨-, ds, e⟩ := row_blk hO y hm
    exact hne (hy.inj e).2
  have n1 := hnot lb _ _ hLB (by decide)
  have n2 := hnot x _ _ hX (by decide)
  refine wp_region_plan [0, 1, 3] [5, 6, 8] (fun w' : World => w'.cell? ⟨lb, 0, none⟩ = some (.pointer (some ⟨x, 0, none⟩)) ∧ w'.cell? ⟨x, 0, none⟩ = some (.slice p ls.length c)) (.take 0 (.take 1 (.pure 2 (.take 3 (.pure 4 (.go 5 (.go 6 (.pure 7 (.go 8 .done))))))))) hmix (by kernel_rfl) ?_
  repeat (first | (refine plan_move rfl rfl rfl ?_; (try simp only [Act.put, zq1, zq2, zq3, zq4, zq5, zq6])) | (refine plan_pure (v := ?_) rfl rfl ?_ ?_; rotate_left; (intro w'; go_simp <;> with_reducible rfl); (try simp only [Act.put, zq1, zq2, zq3, zq4, zq5, zq6])) | (refine plan_take (v := ?_) rfl hS rfl ?_ ?_; rotate_left; (intro w' hSw; (try dsimp only at hSw); go_simp <;> with_reducible rfl); (try simp only [Act.put, zq1, zq2, zq3, zq4, zq5, zq6])))
  refine plan_goS rfl rfl (fun K hK => ?_)
  go_simp; refine hK _ _ ⟨((Fr.refl 0 [] [] w.drew).alloc _).cell0 hS.1, ((Fr.refl 0 [] [] w.drew).alloc _).cell0 hS.2⟩ ?_; clear hK K; (try simp only [Act.put, zq1, zq2, zq3, zq4, zq5, zq6])
  refine plan_goS rfl rfl (fun K hK => ?_)
  refine wp_appo (t := t) (base := base) (v := .slice p ls.length c) _ _ rfl rfl rfl (hO.fr0 (((Fr.refl 0 [] [] w).drew).alloc _)) (Blk.new' rfl _ _) (by omega) (by simp; omega) ?_; intro p' n' c' w1 hO1 hat hF1; have hX1 := hF1.blk (hX.drew.alloc (.cells #[.string t] 9)) (.inr ⟨n2, by simp⟩); have hLB1 := hF1.blk (hLB.drew.alloc (.cells #[.string t] 9)) (.inr ⟨n1, by simp⟩); refine hK _ _ ⟨hLB1.cell 0, hX1.cell 0⟩ ?_; clear hK K; have y0 := hX1.cell 0; have yf := hX1.frozen 0; have yl := hX1.lt; (try simp only [Act.put, zq1, zq2, zq3, zq4, zq5, zq6])
  refine plan_pure (v := ?_) rfl rfl ?_ ?_; rotate_left; (intro w'; go_simp <;> with_reducible rfl); (try simp only [Act.put, zq1, zq2, zq3, zq4, zq5, zq6])
  refine plan_go rfl (by kernel_rfl) rfl (fun K hK => ?_)
  go_simp; refine hK _ _ ?_; clear hK K; (try simp only [Act.put, zq1, zq2, zq3, zq4, zq5, zq6])
  refine plan_done ?_
  go_wp2
  go_end0
  have hFw : Fr base [] (x :: (Value.slice p ls.length c).ownBlock.toList) w w1 := (((Fr.refl _ _ _ _).drew).alloc _).into hF1 (by simp) (by intro y hy; simp [hy])
  have hfx : Fr base [] [x] w1 (w1.setCell ⟨x, 0, none⟩ (.slice p' n' c')) := (Fr.refl _ _ _ _).setCell (a := ⟨x, 0, none⟩) hbx (.inl (by simp)) _
  refine ⟨rfl, ⟨_, ⟨hbx, hfx.blk hLB1 (.inr ⟨?_, by simp⟩), hX1.set 0 _, hO1.fr hfx (fun g hg hm => ?_) (by simp)⟩, ?_⟩, hFw.into hfx (by simp) (by simp)⟩
  · simp only [List.mem_singleton]
    exact hLB1.ne hX1 (by decide)
  · simp only [List.mem_singleton] at hm
    subst hm
    obtain ⟨-, ds, e⟩ := row_blk hO1 _ hg
    exact absurd (hX1.inj e).2 (by decide)
  · rcases hat with e | e
    · exact .inl e
    · exact .inr ⟨_, e, by simp⟩

theorem exit_c {w : World} {sb : Nat} {cs : Array Value} {ex : ByteArray} (hB : Blk w sb cs 25) (h10 : cs[10]? = some (.string ex)) (line : ByteArray) (bl : Bool) :
    Calls Tryz.prog 42 #[.string line, .bool bl, .pointer (some ⟨sb, 0, none⟩)] w fun e w' => e = .returned (.bool (bl && decide (line = ex))) ∧ Fr 0 [] [] w w' := by
  have c10 := hB.cell 10
  rw [h10] at c10
  have hlt := hB.lt
  cases bl with
  | false =>
    go_enter Tryz.func42, Tryz.ntmps42
    go_wp2
    go_ret
    exact ⟨rfl, Fr.refl _ _ _ _⟩
  | true =>
    by_cases he : line = ex
    · subst he
      go_enter Tryz.func42, Tryz.ntmps42
      go_wp2
      go_ret
      exact ⟨by simp, Fr.refl _ _ _ _⟩
    · have hs := str_ne he
      have HE := Lib.hid he
      clear he
      go_enter Tryz.func42, Tryz.ntmps42
      go_wp2
      go_ret
      exact ⟨by simp [HE.out], Fr.refl _ _ _ _⟩
end Go.Proofs.YtiepopbmbgfhkaaGreat

namespace Go.Proofs.YtiepopbmbgfhkaaGreat
open Go.RowKit
open List renaming setIfInBounds_toArray → zq1, set_cons_zero → zq2, set_cons_succ → zq3
open Int renaming toNat_natCast → zq4, toNat_sub → zq5, toNat_zero → zq6
set_option maxHeartbeats 1000000
set_option maxRecDepth 20000
set_option linter.unusedVariables false
set_option linter.unusedSimpArgs false

theorem displayPos_c {d : Nat} {t : ByteArray} {k : Nat} {w : World} (hd : Blk w d #[.string t, .int .i64 k] 75) (hp : Prn t) (hs : t.size ≤ 1000000) (hk : k ≤ t.size) :
    Calls Tryz.prog 112 #[.pointer (some ⟨d, 0, none⟩)] w fun e w' => e = .returned (.int .i64 k) ∧ Fr 0 [] [] w w' := by
  have ha := hp.asc
  have hs' : t.size ≤ 70368744177664 := by omega
  obtain ⟨h0, h1, -, -⟩ := hd.c2
  have hlt := hd.lt
  go_enter Tryz.func112, Tryz.ntmps112
  go_wp2_with (fail)
  have hS : (fun w' : World => w'.cell? ⟨d, 0, none⟩ = some (.string t) ∧ w'.cell? ⟨d, 1, none⟩ = some (.int .i64 k)) w.drew := ⟨h0, h1⟩
  refine wp_region_plan [3, 8] [4] (fun w' => w'.cell? ⟨d, 0, none⟩ = some (.string t) ∧ w'.cell? ⟨d, 1, none⟩ = some (.int .i64 k)) (.pure 0 (.pure 1 (.pure 2 (.take 3 (.pure 5 (.pure 6 (.pure 7 (.take 8 (.go 4 (.pure 9 (.pure 10 .done))))))))))) hmix (by kernel_rfl) ?_
  repeat (first | (refine plan_move rfl rfl rfl ?_; (try simp only [Act.put, zq1, zq2, zq3, zq4, zq5, zq6])) | (refine plan_pure rfl rfl (fun w' => ex_runesTo rfl rfl rfl ?_ ?_) ?_; omega; omega; (try simp only [Act.put, zq1, zq2, zq3, zq4, zq5, zq6])) | (refine plan_pure rfl rfl (fun w' => ex_runesFrom rfl rfl rfl ?_ ?_) ?_; omega; omega; (try simp only [Act.put, zq1, zq2, zq3, zq4, zq5, zq6])) | (refine plan_take rfl hS rfl (fun w' hSw => ex_textOf rfl rfl hSw.1 ha ?_ ?_ hcap) ?_; omega; omega; (try simp only [Act.put, zq1, zq2, zq3, zq4, zq5, zq6])) | (refine plan_pure rfl rfl (fun w' => ex_add rfl rfl rfl ?_) ?_; ((try simp only [ByteArray.size_append, Int.toNat_natCast]) <;> omega); (try simp only [Act.put, zq1, zq2, zq3, zq4, zq5, zq6])) | (refine plan_pure (v := ?_) rfl rfl ?_ ?_; rotate_left; (intro w'; go_simp <;> with_reducible rfl); (try simp only [Act.put, zq1, zq2, zq3, zq4, zq5, zq6])) | (refine plan_take (v := ?_) rfl hS rfl ?_ ?_; rotate_left; (intro w' hSw; (try dsimp only at hSw); go_simp <;> with_reducible rfl); (try simp only [Act.put, zq1, zq2, zq3, zq4, zq5, zq6])))
  refine plan_goS rfl rfl (fun K hK => ?_)
  refine wp_runes _ _ rfl rfl ha hs' ?_; intro rb rc w1 hcap hB hF; refine hK _ _ ⟨hF.cell0 hS.1, hF.cell0 hS.2⟩ ?_; clear hK K; (try simp only [Act.put, zq1, zq2, zq3, zq4, zq5, zq6])
  repeat (first | (refine plan_pure rfl rfl (fun w' => ex_runesTo rfl rfl rfl ?_ ?_) ?_; omega; omega; (try simp only [Act.put, zq1, zq2, zq3, zq4, zq5, zq6])) | (refine plan_pure rfl rfl (fun w' => ex_runesFrom rfl rfl rfl ?_ ?_) ?_; omega; omega; (try simp only [Act.put, zq1, zq2, zq3, zq4, zq5, zq6])) | (refine plan_take rfl hS rfl (fun w' hSw => ex_textOf rfl rfl hSw.1 ha ?_ ?_ hcap) ?_; omega; omega; (try simp only [Act.put, zq1, zq2, zq3, zq4, zq5, zq6])) | (refine plan_pure rfl rfl (fun w' => ex_add rfl rfl rfl ?_) ?_; ((try simp only [ByteArray.size_append, Int.toNat_natCast]) <;> omega); (try simp only [Act.put, zq1, zq2, zq3, zq4, zq5, zq6])) | (refine plan_pure (v := ?_) rfl rfl ?_ ?_; rotate_left; (intro w'; go_simp <;> with_reducible rfl); (try simp only [Act.put, zq1, zq2, zq3, zq4, zq5, zq6])))
  refine plan_done ?_
  have hrs : runeSl rb 0 k rc = .slice (some ⟨rb, 0, none⟩) k rc := by unfold runeSl; simp
  rw [hrs]
  have hbl := hB.lt
  go_wp2_with (fail)
  go_loop [3, 18] (fun v3 v18 => ∃ i : Nat, i ≤ k ∧ v18 = .int .i64 i ∧ v3 = .int .i64 i) (fun _ v18 => k - (intOf v18).toNat)
  case atStart => exact ⟨0, by omega, rfl, rfl⟩
  case round =>
    obtain ⟨i, hi, rfl, rfl⟩ := hrel
    by_cases hlt2 : i < k
    · have d1 : decide ((i : Int) < k) = true := by simpa using hlt2
      have d2 : (i : Int) < k := by omega
      have hit : i < t.size := by omega
      have hc := hB.cell i
      rw [runeRow_at t rc i hit] at hc
      have hp1 := hp i hit
      go_wp2_with (fail)
      refine (runeWidth_c _ (by omega) (by omega) _).mono ?_
      rintro e w2 ⟨rfl, rfl⟩
      go_wp2
      go_round
      case rel => exact ⟨i + 1, by omega, by simp, by simp⟩
      case measure => simp [intOf]; omega
    · have d1 : decide ((i : Int) < k) = false := by simpa using hlt2
      have e : i = k := by omega
      have E := Lib.hid e
      clear e
      go_wp2
      go_ret
      exact ⟨by rw [← E.out]; rfl, (Fr.refl _ _ _ _).drew.ext hF⟩

theorem bufPos_c {base : Nat} {w : World} {b L : Nat} {t : ByteArray} {k : Nat} (h : Buf base w b L t k) (hp : Prn t) (hs : t.size ≤ 1000000) (hk : k ≤ t.size) :
    Calls Tryz.prog 81 #[.pointer (some ⟨b, 0, none⟩)] w fun e w' => e = .returned (.int .i64 k) ∧ Buf base w' b L t k ∧ Fr base [] [b] w w' := by
  go_enter Tryz.func81, Tryz.ntmps81
  go_wp2_with (fail)
  refine (doc_c h).mono ?_
  rintro e w1 ⟨d, rfl, hd, hB, hF⟩
  go_wp2_with (fail)
  refine (displayPos_c hd hp hs hk).mono ?_
  rintro e w2 ⟨rfl, hF2⟩
  go_wp2
  go_ret
  exact ⟨rfl, hF2.buf0 hB, hF.ext hF2⟩

theorem Rn.fr {base : Nat} {w w1 : World} {r o n : Nat} {pre : ByteArray} {cols : Nat} {ts bs : List Nat} (h : Rn base w r o pre cols n) (hF : Fr base ts bs w w1) (h1 : 5 ∉ ts ∧ 143 ∉ ts ∧ 128 ∉ ts) (hb : ∀ b ∈ bs, ∃ cs t, Blk w b cs t ∧ t ≠ 5 ∧ t ≠ 143 ∧ t ≠ 128) : Rn base w1 r o pre cols n := by
  obtain ⟨e1, ⟨pc, e2, e3, hB⟩, hW⟩ := h
  refine ⟨e1, ⟨pc, e2, e3, hF.blk hB (.inr ⟨fun hm => ?_, h1.2.2⟩)⟩, hF.wr hW h1.1 h1.2.1 fun b hm => ?_⟩
  · obtain ⟨cs, t, g1, g2, g3, g4⟩ := hb r hm
    exact g4 (g1.inj hB).2
  · obtain ⟨cs, t, g1, g2, g3, g4⟩ := hb b hm
    exact ⟨cs, t, g1, g2, g3⟩
theorem Buf.blk {base : Nat} {w : World} {b L : Nat} {t : ByteArray} {k : Nat} (h : Buf base w b L t k) : (∃ cs, Blk w b cs 121) ∧ ∃ cs, Blk w L cs 9 := by
  obtain ⟨hbb, hbL, cd, pc, hb, hL, hcd⟩ := h
  exact ⟨⟨_, hb⟩, ⟨_, hL⟩⟩
/-- A buffer behind calls that write. -/
theorem Buf.after {base : Nat} {w w1 : World} {b L : Nat} {t : ByteArray} {k : Nat} (h : Buf base w b L t k) {ts : List Nat} (hF : Fr base ts [] w w1) (h1 : 121 ∉ ts ∧ 9 ∉ ts ∧ 75 ∉ ts) : Buf base w1 b L t k := by
  obtain ⟨hbb, hbL, cd, pc, hb, hL, hcd⟩ := h
  exact ⟨hbb, hbL, cd, pc, hF.blk hb (.inr ⟨by simp, h1.1⟩), hF.blk hL (.inr ⟨by simp, h1.2.1⟩), hcd.imp id fun ⟨d, u, j, e1, e2⟩ => ⟨d, u, j, e1, hF.blk e2 (.inr ⟨by simp, h1.2.2⟩)⟩⟩
end Go.Proofs.YtiepopbmbgfhkaaGreat
