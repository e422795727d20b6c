/-
  Keys that are bound to nothing.
  A prompt whole, in memory.
-/
import Derived.Test.YtiepopbmbgfhkaaGreatQ13
namespace Go.Proofs.YtiepopbmbgfhkaaGreat
open Go.RowKit
open List renaming setIfInBounds_toArray → zq1, set_cons_zero → zq2, set_cons_succ → zq3
open Int renaming toNat_natCast → zq4, toNat_sub → zq5, toNat_zero → zq6
set_option maxHeartbeats 2000000
set_option maxRecDepth 20000
set_option linter.unusedVariables false
set_option linter.unusedSimpArgs false

/-- A table of n bindings of which none is of this key. -/
def NoKey (w : World) (T n : Nat) (key : Int) : Prop := ∀ i, i < n → ∃ a f cs, w.cell? ⟨T, i * 2, none⟩ = some (.int .i64 a) ∧ w.cell? ⟨T, i * 2 + 1, none⟩ = some (.func (.func f) #[] cs) ∧ a ≠ key
theorem NoKey.fr {w w1 : World} {T n : Nat} {key : Int} {base : Nat} (h : NoKey w T n key) (hF : Fr base [] [] w w1) : NoKey w1 T n key := fun i hi => by
  obtain ⟨a, f, cs, h1, h2, h3⟩ := h i hi
  exact ⟨a, f, cs, hF.cell0 h1, hF.cell0 h2, h3⟩
def commonKeys : List Int := [45, 44, 46, 53, 38, 39]
def emacsKeys : List Int := [5, 1, 11, 21, 4, 8, 6, 2, 23, 12]
theorem common_noKey {w : World} {T : Nat} {key : Int} (h : Blk w T commonCells 183) (hk : key ∉ commonKeys) : NoKey w T 6 key := by
  intro i hi
  simp only [commonKeys, List.mem_cons, List.not_mem_nil, or_false, not_or] at hk
  rcases i with _ | _ | _ | _ | _ | _ | i
  · exact ⟨45, 147, #[], h.cell 0, h.cell 1, fun e => hk.1 e.symm⟩
  · exact ⟨44, 148, #[], h.cell 2, h.cell 3, fun e => hk.2.1 e.symm⟩
  · exact ⟨46, 149, #[], h.cell 4, h.cell 5, fun e => hk.2.2.1 e.symm⟩
  · exact ⟨53, 150, #[], h.cell 6, h.cell 7, fun e => hk.2.2.2.1 e.symm⟩
  · exact ⟨38, 151, #[], h.cell 8, h.cell 9, fun e => hk.2.2.2.2.1 e.symm⟩
  · exact ⟨39, 152, #[], h.cell 10, h.cell 11, fun e => hk.2.2.2.2.2 e.symm⟩
  · omega
theorem emacs_noKey {w : World} {T x : Nat} {key : Int} (h : Blk w T (emacsCells x) 183) (hk : key ∉ emacsKeys) : NoKey w T 10 key := by
  intro i hi
  simp only [emacsKeys, List.mem_cons, List.not_mem_nil, or_false, not_or] at hk
  obtain ⟨k0, k1, k2, k3, k4, k5, k6, k7, k8, k9⟩ := hk
  rcases i with _ | _ | _ | _ | _ | _ | _ | _ | _ | _ | i
  · exact ⟨5, 153, #[], h.cell 0, h.cell 1, fun e => k0 e.symm⟩
  · exact ⟨1, 155, #[], h.cell 2, h.cell 3, fun e => k1 e.symm⟩
  · exact ⟨11, 157, #[], h.cell 4, h.cell 5, fun e => k2 e.symm⟩
  · exact ⟨21, 159, #[], h.cell 6, h.cell 7, fun e => k3 e.symm⟩
  · exact ⟨4, 160, #[], h.cell 8, h.cell 9, fun e => k4 e.symm⟩
  · exact ⟨8, 161, #[], h.cell 10, h.cell 11, fun e => k5 e.symm⟩
  · exact ⟨6, 162, #[], h.cell 12, h.cell 13, fun e => k6 e.symm⟩
  · exact ⟨2, 163, #[], h.cell 14, h.cell 15, fun e => k7 e.symm⟩
  · exact ⟨23, 164, #[], h.cell 16, h.cell 17, fun e => k8 e.symm⟩
  · exact ⟨12, 166, _, h.cell 18, h.cell 19, fun e => k9 e.symm⟩
  · omega

/-- What ends a session: nothing, or a line. -/
def Exi (w : World) (ex : Value) (text : ByteArray) : Prop := (ex = .nilFunc ∧ text = .empty) ∨ ∃ sb cs, ex = .func (.func 42) #[] #[.pointer (some ⟨sb, 0, none⟩)] ∧ Blk w sb cs 25 ∧ cs[10]? = some (.string text) ∧ text ≠ .empty
theorem Exi.fr0 {w w1 : World} {base : Nat} {ex : Value} {text : ByteArray} (h : Exi w ex text) (hF : Fr base [] [] w w1) : Exi w1 ex text := by
  rcases h with h | ⟨sb, cs, h1, h2, h3, h4⟩
  · exact .inl h
  · exact .inr ⟨sb, cs, h1, hF.blk0 h2, h3, h4⟩

theorem keyNone_c {base : Nat} {w : World} {p b r lb h c o n L k cols : Nat} {pre t et : ByteArray} {mode : ByteArray} {down : Bool} {ex : Value} {key : Int} (H : Blk w p (prCells b r lb h c mode down ex) 96) (hR : Rn base w r o pre cols n) (hB : Buf base w b L t k) (hE : Exi w ex et)
    (hk1 : key ∉ commonKeys) (hk2 : key ∉ emacsKeys) :
    Calls Tryz.prog 92 #[.pointer (some ⟨p, 0, none⟩), .int .i64 key] w fun e w' => e = .returned (.bool false) ∧ Fr 0 [] [] w w' := by
  obtain ⟨pc, hpc, ⟨r0, -⟩, -⟩ := hR.ren
  obtain ⟨c0, c1, c2, c3, c4, c5, c6, c7, c8, c9, f0, hlt⟩ := prC H
  have q1 : ∀ w, (binOp .neq 81 .nilFunc .nilFunc).run Tryz.prog w = .ok (.bool false) w := fun w => by kernel_rfl
  have q2 : ∀ (f : Fn) (x y : Array Value) w, (binOp .neq 81 (.func f x y) .nilFunc).run Tryz.prog w = .ok (.bool true) w := fun f x y w => by kernel_rfl
  go_enter Tryz.func92, Tryz.ntmps92
  go_wp2_with (fail)
  have hS : (fun w' : World => w'.cell? ⟨p, 1, none⟩ = some (.pointer (some ⟨r, 0, none⟩)) ∧ w'.cell? ⟨r, 0, none⟩ = some (.iface 144 (.pointer (some ⟨o, 0, none⟩)))) w.drew := ⟨c1, r0⟩
  refine wp_region_plan [4, 7] [0, 8] (fun w' : World => w'.cell? ⟨p, 1, none⟩ = some (.pointer (some ⟨r, 0, none⟩)) ∧ w'.cell? ⟨r, 0, none⟩ = some (.iface 144 (.pointer (some ⟨o, 0, none⟩)))) (.pure 1 (.pure 2 (.pure 3 (.take 4 (.pure 5 (.pure 6 (.take 7 (.go 0 (.go 8 (.pure 9 (.pure 10 .done))))))))))) hmix (by kernel_rfl) ?_
  repeat (first | (refine plan_move rfl rfl rfl ?_; (try simp only [Act.put, zq1, zq2, zq3, zq4, zq5, zq6])) | (refine plan_pure (v := ?_) rfl rfl ?_ ?_; rotate_left; (intro w'; go_simp <;> with_reducible rfl); (try simp only [Act.put, zq1, zq2, zq3, zq4, zq5, zq6])) | (refine plan_take (v := ?_) rfl hS rfl ?_ ?_; rotate_left; (intro w' hSw; (try dsimp only at hSw); go_simp <;> with_reducible rfl); (try simp only [Act.put, zq1, zq2, zq3, zq4, zq5, zq6])))
  refine plan_goS rfl rfl (fun K hK => ?_)
  go_simp; refine (common_c _).mono ?_; rintro e w1 ⟨⟨T1, rfl, hT1⟩, hF1⟩; refine hK _ _ ⟨hF1.cell0 hS.1, hF1.cell0 hS.2⟩ ?_; clear hK K; (try simp only [Act.put, zq1, zq2, zq3, zq4, zq5, zq6])
  refine plan_go rfl (by kernel_rfl) rfl (fun K hK => ?_)
  go_simp; refine (emacs_c _ o).mono ?_; rintro e w2 ⟨⟨T2, x2, rfl, hT2⟩, hF2⟩; refine hK _ _ ?_; clear hK K; (try simp only [Act.put, zq1, zq2, zq3, zq4, zq5, zq6])
  repeat (first | (refine plan_pure (v := ?_) rfl rfl ?_ ?_; rotate_left; (intro w'; go_simp <;> with_reducible rfl); (try simp only [Act.put, zq1, zq2, zq3, zq4, zq5, zq6])))
  refine plan_done ?_
  have hN1 := (common_noKey hT1 hk1).fr hF2
  have hN2 := emacs_noKey hT2 hk2
  have hFw : Fr 0 [] [] w w2 := ((Fr.refl 0 [] [] w).drew.ext hF1).ext hF2
  go_wp2_with (fail)
  go_loopw [25] (fun v25 w' => ∃ i : Nat, i ≤ 6 ∧ v25 = .int .i64 i ∧ Fr 0 [] [] w2 w') (fun v25 _ => 6 - (intOf v25).toNat)
  case atStart => exact ⟨0, by omega, rfl, Fr.refl _ _ _ _⟩
  case round =>
    obtain ⟨i, hi, rfl, hFi⟩ := hrel
    by_cases hl6 : i < 6
    · obtain ⟨ka, kf, kcs, n1, n2, n3⟩ := (hN1.fr hFi) i hl6
      obtain ⟨n4, -⟩ := int_ne n3
      have d1 : decide ((i : Int) < 6) = true := by simp; omega
      have d2 : (i : Int) < 6 := by omega
      have tl : T1 < wr.heap.size := World.block_lt_of_cell? wr _ n1
      go_wp2
      go_roundw
      case rel => exact ⟨i + 1, by omega, by simp, hFi.alloc _⟩
      case measure => simp [intOf]; omega
    · have d1 : decide ((i : Int) < 6) = false := by simp; omega
      have hFi2 := hFw.ext hFi
      obtain ⟨c0, c1, c2, c3, c4, c5, c6, c7, c8, c9, f0, hlt⟩ := prC (hFi2.blk0 H)
      cases hmd : (mode.toList == [101, 109, 97, 99, 115]) with
      | false =>
        have hF3 := hFi2
        have hH3 := hF3.blk0 H
        obtain ⟨c0, c1, c2, c3, c4, c5, c6, c7, c8, c9, f0, hlt⟩ := prC hH3
        go_wp2_with (fail)
        go_loopw [75] (fun v75 w' => v75 = .int .i64 0 ∧ w' = wr) (fun _ _ => 0)
        case atStart => exact ⟨rfl, rfl⟩
        case round =>
          obtain ⟨rfl, rfl⟩ := hrel
          rcases hE with ⟨rfl, -⟩ | ⟨sb, cs, rfl, hSB, h10, hne⟩
          · go_wp2_with (fail)
            have hS : (fun w' : World => w'.cell? ⟨p, 9, none⟩ = some (.nilFunc) ∧ w'.cell? ⟨p, 0, none⟩ = some (.pointer (some ⟨b, 0, none⟩))) wr.drew := ⟨c9, c0⟩
            refine wp_region_plan [3, 9, 13] [14, 15] (fun w' : World => w'.cell? ⟨p, 9, none⟩ = some (.nilFunc) ∧ w'.cell? ⟨p, 0, none⟩ = some (.pointer (some ⟨b, 0, none⟩))) (.pure 0 (.pure 1 (.pure 2 (.take 3 (.pure 4 (.pure 5 (.pure 6 (.pure 7 (.pure 8 (.take 9 (.pure 10 (.pure 11 (.pure 12 (.take 13 (.go 14 (.go 15 (.pure 16 .done))))))))))))))))) hmix (by kernel_rfl) ?_
            repeat (first | (refine plan_move rfl rfl rfl ?_; (try simp only [Act.put, zq1, zq2, zq3, zq4, zq5, zq6])) | (refine plan_skipP rfl rfl ?_; (try simp only [Act.put, zq1, zq2, zq3, zq4, zq5, zq6])) | (refine plan_skip rfl hS rfl ?_; (try simp only [Act.put, zq1, zq2, zq3, zq4, zq5, zq6])) | (refine plan_pure (v := ?_) rfl rfl ?_ ?_; rotate_left; (intro w'; go_simp <;> with_reducible rfl); (try simp only [Act.put, zq1, zq2, zq3, zq4, zq5, zq6])) | (refine plan_take (v := ?_) rfl hS rfl ?_ ?_; rotate_left; (intro w' hSw; (try dsimp only at hSw); go_simp <;> with_reducible rfl); (try simp only [Act.put, zq1, zq2, zq3, zq4, zq5, zq6])))
            refine plan_goSkip rfl rfl (fun _ => hS) ?_; (try simp only [Act.put, zq1, zq2, zq3, zq4, zq5, zq6])
            refine plan_goSkip rfl rfl (fun _ => hS) ?_; (try simp only [Act.put, zq1, zq2, zq3, zq4, zq5, zq6])
            refine plan_pure (v := ?_) rfl rfl ?_ ?_; rotate_left; (intro w'; go_simp <;> with_reducible rfl); (try simp only [Act.put, zq1, zq2, zq3, zq4, zq5, zq6])
            refine plan_done ?_
            go_wp2
            go_ret
            exact ⟨rfl, hF3.drew⟩
          · go_wp2_with (fail)
            have hS : (fun w' : World => w'.cell? ⟨p, 9, none⟩ = some (.func (.func 42) #[] #[.pointer (some ⟨sb, 0, none⟩)]) ∧ w'.cell? ⟨p, 0, none⟩ = some (.pointer (some ⟨b, 0, none⟩))) wr.drew := ⟨c9, c0⟩
            refine wp_region_plan [3, 9, 13] [14, 15] (fun w' : World => w'.cell? ⟨p, 9, none⟩ = some (.func (.func 42) #[] #[.pointer (some ⟨sb, 0, none⟩)]) ∧ w'.cell? ⟨p, 0, none⟩ = some (.pointer (some ⟨b, 0, none⟩))) (.pure 0 (.pure 1 (.pure 2 (.take 3 (.pure 4 (.pure 5 (.pure 6 (.pure 7 (.pure 8 (.take 9 (.pure 10 (.pure 11 (.pure 12 (.take 13 (.go 14 (.go 15 (.pure 16 .done))))))))))))))))) hmix (by kernel_rfl) ?_
            repeat (first | (refine plan_move rfl rfl rfl ?_; (try simp only [Act.put, zq1, zq2, zq3, zq4, zq5, zq6])) | (refine plan_skipP rfl rfl ?_; (try simp only [Act.put, zq1, zq2, zq3, zq4, zq5, zq6])) | (refine plan_skip rfl hS rfl ?_; (try simp only [Act.put, zq1, zq2, zq3, zq4, zq5, zq6])) | (refine plan_pure (v := ?_) rfl rfl ?_ ?_; rotate_left; (intro w'; go_simp <;> with_reducible rfl); (try simp only [Act.put, zq1, zq2, zq3, zq4, zq5, zq6])) | (refine plan_take (v := ?_) rfl hS rfl ?_ ?_; rotate_left; (intro w' hSw; (try dsimp only at hSw); go_simp <;> with_reducible rfl); (try simp only [Act.put, zq1, zq2, zq3, zq4, zq5, zq6])))
            refine plan_goS rfl rfl (fun K hK => ?_)
            go_simp; refine (text_c ((hF3.buf0 hB).drewN _)).mono ?_; rintro e w8 ⟨rfl, j8, rfl⟩; refine hK _ _ ⟨hS.1, hS.2⟩ ?_; clear hK K; (try simp only [Act.put, zq1, zq2, zq3, zq4, zq5, zq6])
            refine plan_go rfl (by kernel_rfl) rfl (fun K hK => ?_)
            go_simp; refine (exit_c ((hF3.blk0 hSB).drewN _) h10 t false).mono ?_; rintro e w9 ⟨rfl, hF9⟩; refine hK _ _ ?_; clear hK K; (try simp only [Act.put, zq1, zq2, zq3, zq4, zq5, zq6])
            refine plan_pure (v := ?_) rfl rfl ?_ ?_; rotate_left; (intro w'; go_simp <;> with_reducible rfl); (try simp only [Act.put, zq1, zq2, zq3, zq4, zq5, zq6])
            refine plan_done ?_
            go_wp2
            go_ret
            exact ⟨rfl, (hF3.drewN _).ext hF9⟩
      | true =>
        go_wp2_with (fail)
        go_loopw [51] (fun v51 w' => ∃ j : Nat, j ≤ 10 ∧ v51 = .int .i64 j ∧ Fr 0 [] [] w2 w') (fun v51 _ => 10 - (intOf v51).toNat)
        case atStart => exact ⟨0, by omega, rfl, hFi⟩
        case round =>
          obtain ⟨j, hj, rfl, hFj⟩ := hrel
          by_cases hl10 : j < 10
          · obtain ⟨ka, kf, kcs, n1, n2, n3⟩ := (hN2.fr hFj) j hl10
            obtain ⟨n4, -⟩ := int_ne n3
            have d3 : decide ((j : Int) < 10) = true := by simp; omega
            have d4 : (j : Int) < 10 := by omega
            go_wp2
            go_roundw
            case rel => exact ⟨j + 1, by omega, by simp, hFj.alloc _⟩
            case measure => simp [intOf]; omega
          · have d3 : decide ((j : Int) < 10) = false := by simp; omega
            have hF3 := hFw.ext hFj
            have hH3 := hF3.blk0 H
            obtain ⟨c0, c1, c2, c3, c4, c5, c6, c7, c8, c9, f0, hlt⟩ := prC hH3
            go_wp2_with (fail)
            go_loopw [75] (fun v75 w' => v75 = .int .i64 0 ∧ w' = wr) (fun _ _ => 0)
            case atStart => exact ⟨rfl, rfl⟩
            case round =>
              obtain ⟨rfl, rfl⟩ := hrel
              rcases hE with ⟨rfl, -⟩ | ⟨sb, cs, rfl, hSB, h10, hne⟩
              · go_wp2_with (fail)
                have hS : (fun w' : World => w'.cell? ⟨p, 9, none⟩ = some (.nilFunc) ∧ w'.cell? ⟨p, 0, none⟩ = some (.pointer (some ⟨b, 0, none⟩))) wr.drew := ⟨c9, c0⟩
                refine wp_region_plan [3, 9, 13] [14, 15] (fun w' : World => w'.cell? ⟨p, 9, none⟩ = some (.nilFunc) ∧ w'.cell? ⟨p, 0, none⟩ = some (.pointer (some ⟨b, 0, none⟩))) (.pure 0 (.pure 1 (.pure 2 (.take 3 (.pure 4 (.pure 5 (.pure 6 (.pure 7 (.pure 8 (.take 9 (.pure 10 (.pure 11 (.pure 12 (.take 13 (.go 14 (.go 15 (.pure 16 .done))))))))))))))))) hmix (by kernel_rfl) ?_
                repeat (first | (refine plan_move rfl rfl rfl ?_; (try simp only [Act.put, zq1, zq2, zq3, zq4, zq5, zq6])) | (refine plan_skipP rfl rfl ?_; (try simp only [Act.put, zq1, zq2, zq3, zq4, zq5, zq6])) | (refine plan_skip rfl hS rfl ?_; (try simp only [Act.put, zq1, zq2, zq3, zq4, zq5, zq6])) | (refine plan_pure (v := ?_) rfl rfl ?_ ?_; rotate_left; (intro w'; go_simp <;> with_reducible rfl); (try simp only [Act.put, zq1, zq2, zq3, zq4, zq5, zq6])) | (refine plan_take (v := ?_) rfl hS rfl ?_ ?_; rotate_left; (intro w' hSw; (try dsimp only at hSw); go_simp <;> with_reducible rfl); (try simp only [Act.put, zq1, zq2, zq3, zq4, zq5, zq6])))
                refine plan_goSkip rfl rfl (fun _ => hS) ?_; (try simp only [Act.put, zq1, zq2, zq3, zq4, zq5, zq6])
                refine plan_goSkip rfl rfl (fun _ => hS) ?_; (try simp only [Act.put, zq1, zq2, zq3, zq4, zq5, zq6])
                refine plan_pure (v := ?_) rfl rfl ?_ ?_; rotate_left; (intro w'; go_simp <;> with_reducible rfl); (try simp only [Act.put, zq1, zq2, zq3, zq4, zq5, zq6])
                refine plan_done ?_
                go_wp2
                go_ret
                exact ⟨rfl, hF3.drew⟩
              · go_wp2_with (fail)
                have hS : (fun w' : World => w'.cell? ⟨p, 9, none⟩ = some (.func (.func 42) #[] #[.pointer (some ⟨sb, 0, none⟩)]) ∧ w'.cell? ⟨p, 0, none⟩ = some (.pointer (some ⟨b, 0, none⟩))) wr.drew := ⟨c9, c0⟩
                refine wp_region_plan [3, 9, 13] [14, 15] (fun w' : World => w'.cell? ⟨p, 9, none⟩ = some (.func (.func 42) #[] #[.pointer (some ⟨sb, 0, none⟩)]) ∧ w'.cell? ⟨p, 0, none⟩ = some (.pointer (some ⟨b, 0, none⟩))) (.pure 0 (.pure 1 (.pure 2 (.take 3 (.pure 4 (.pure 5 (.pure 6 (.pure 7 (.pure 8 (.take 9 (.pure 10 (.pure 11 (.pure 12 (.take 13 (.go 14 (.go 15 (.pure 16 .done))))))))))))))))) hmix (by kernel_rfl) ?_
                repeat (first | (refine plan_move rfl rfl rfl ?_; (try simp only [Act.put, zq1, zq2, zq3, zq4, zq5, zq6])) | (refine plan_skipP rfl rfl ?_; (try simp only [Act.put, zq1, zq2, zq3, zq4, zq5, zq6])) | (refine plan_skip rfl hS rfl ?_; (try simp only [Act.put, zq1, zq2, zq3, zq4, zq5, zq6])) | (refine plan_pure (v := ?_) rfl rfl ?_ ?_; rotate_left; (intro w'; go_simp <;> with_reducible rfl); (try simp only [Act.put, zq1, zq2, zq3, zq4, zq5, zq6])) | (refine plan_take (v := ?_) rfl hS rfl ?_ ?_; rotate_left; (intro w' hSw; (try dsimp only at hSw); go_simp <;> with_reducible rfl); (try simp only [Act.put, zq1, zq2, zq3, zq4, zq5, zq6])))
                refine plan_goS rfl rfl (fun K hK => ?_)
                go_simp; refine (text_c ((hF3.buf0 hB).drewN _)).mono ?_; rintro e w8 ⟨rfl, j8, rfl⟩; refine hK _ _ ⟨hS.1, hS.2⟩ ?_; clear hK K; (try simp only [Act.put, zq1, zq2, zq3, zq4, zq5, zq6])
                refine plan_go rfl (by kernel_rfl) rfl (fun K hK => ?_)
                go_simp; refine (exit_c ((hF3.blk0 hSB).drewN _) h10 t false).mono ?_; rintro e w9 ⟨rfl, hF9⟩; refine hK _ _ ?_; clear hK K; (try simp only [Act.put, zq1, zq2, zq3, zq4, zq5, zq6])
                refine plan_pure (v := ?_) rfl rfl ?_ ?_; rotate_left; (intro w'; go_simp <;> with_reducible rfl); (try simp only [Act.put, zq1, zq2, zq3, zq4, zq5, zq6])
                refine plan_done ?_
                go_wp2
                go_ret
                exact ⟨rfl, (hF3.drewN _).ext hF9⟩
end Go.Proofs.YtiepopbmbgfhkaaGreat

namespace Go.Proofs.YtiepopbmbgfhkaaGreat
open Go.RowKit
set_option maxHeartbeats 2000000
set_option maxRecDepth 20000
set_option linter.unusedVariables false
set_option linter.unusedSimpArgs false

/-- What does not change of a prompt: its blocks, its settings. -/
structure Pid where
  p : Nat
  r : Nat
  o : Nat
  c : Nat
  h : Nat
  lb : Nat
  x : Nat
  pre : ByteArray
  cols : Nat
  q : Cp
  mode : ByteArray
  down : Bool
  ex : Value
  et : ByteArray
  v1 : Value
  v2 : Value
  v3 : Value

/-- How a prompt stands: blocks that change, and what they hold. -/
structure Dyn where
  b : Nat
  L : Nat
  gh : Nat
  gt : Nat
  vl : Value
  n : Nat
  sel : Int
  vs : Int
  tmp : List Pk
  t : ByteArray
  k : Nat
  hs : List ByteArray
  ts : List ByteArray
  hsel : Nat
  lines : List ByteArray

structure St (base : Nat) (w : World) (I : Pid) (D : Dyn) : Prop where
  pr : Blk w I.p (prCells D.b I.r I.lb I.h I.c I.mode I.down I.ex) 96
  bp : base ≤ I.p
  scr : Scr base w I.r I.o D.b D.L I.c I.pre I.cols D.n D.t D.k I.q D.sel D.vs D.tmp
  hist : Hist base w I.h D.gh D.gt D.hs D.ts D.hsel
  ln : Ln base w I.lb I.x D.vl D.lines I.v1 I.v2 I.v3
  exi : Exi w I.ex I.et
  a1 : D.L ≠ D.gh
  a2 : D.L ≠ D.gt
  a3 : ∀ g, D.vl.ownBlock = some g → g ≠ D.gh ∧ g ≠ D.gt ∧ g ≠ D.L

theorem Ln.fr {base base' : Nat} {w w1 : World} {lb x : Nat} {vl v1 v2 v3 : Value} {ls : List ByteArray} {ts bs : List Nat} (h : Ln base w lb x vl ls v1 v2 v3) (hF : Fr base' ts bs w w1) (h1 : 51 ∉ ts ∧ 31 ∉ ts ∧ 9 ∉ ts) (hb : ∀ y ∈ bs, (∃ cs t, Blk w y cs t ∧ t ≠ 51 ∧ t ≠ 31) ∧ vl.ownBlock ≠ some y) : Ln base w1 lb x vl ls v1 v2 v3 := by
  obtain ⟨e1, hL, hX, hO⟩ := h
  refine ⟨e1, hF.blk hL (.inr ⟨fun hm => ?_, h1.1⟩), hF.blk hX (.inr ⟨fun hm => ?_, h1.2.1⟩), hO.fr hF (fun g hg hm => (hb g hm).2 hg) h1.2.2⟩
  · obtain ⟨⟨cs, t, g1, g2, g3⟩, -⟩ := hb _ hm
    exact g2 (g1.inj hL).2
  · obtain ⟨⟨cs, t, g1, g2, g3⟩, -⟩ := hb _ hm
    exact g3 (g1.inj hX).2
theorem Exi.fr {w w1 : World} {base : Nat} {ex : Value} {text : ByteArray} {ts bs : List Nat} (h : Exi w ex text) (hF : Fr base ts bs w w1) (h1 : 25 ∉ ts) (hb : ∀ y ∈ bs, ∃ cs t, Blk w y cs t ∧ t ≠ 25) : Exi w1 ex text := by
  rcases h with h | ⟨sb, cs, h2, h3, h4, h5⟩
  · exact .inl h
  · refine .inr ⟨sb, cs, h2, hF.blk h3 (.inr ⟨fun hm => ?_, h1⟩), h4, h5⟩
    obtain ⟨ds, t, g1, g2⟩ := hb _ hm
    exact g2 (g1.inj h3).2

section
variable {base : Nat} {w w1 : World} {I : Pid} {D : Dyn}
theorem St.fr0 {base' : Nat} (h : St base w I D) (hF : Fr base' [] [] w w1) : St base w1 I D :=
  ⟨hF.blk0 h.pr, h.bp, h.scr.fr0 hF, h.hist.fr0 hF, h.ln.fr hF (by simp) (by simp), h.exi.fr0 hF, h.a1, h.a2, h.a3⟩
theorem St.drewN (h : St base w I D) (j : Nat) : St base (w.drewN j) I D := h.fr0 ((Fr.refl 0 [] [] w).drewN j)
theorem St.drew (h : St base w I D) : St base w.drew I D := h.fr0 ((Fr.refl 0 [] [] w).drew)

/-- What a prompt's blocks are. -/
theorem St.blks (h : St base w I D) : (∃ cs, Blk w D.b cs 121) ∧ (∃ cs, Blk w D.L cs 9) ∧ (∃ cs, Blk w I.c cs 87) ∧ (∃ cs, Blk w I.r cs 128) ∧ (∃ cs, Blk w I.h cs 118) ∧ (∃ cs, Blk w D.gh cs 9) ∧ (∃ cs, Blk w D.gt cs 9) := by
  obtain ⟨pc, hpc, -, hB, hbr⟩ := h.scr.rn.ren
  obtain ⟨e1, e2, e3, e4, vh, vt, hHb, hH, hT⟩ := h.hist
  exact ⟨h.scr.buf.blk.1, h.scr.buf.blk.2, h.scr.cm.blk, ⟨_, hB⟩, ⟨_, hHb⟩, hH.blk, hT.blk⟩

/-- Behind a call that changes the renderer, the buffer or the completion manager. -/
theorem St.upd {n k : Nat} {t : ByteArray} {sel vs : Int} {tmp : List Pk} (h : St base w I D) (hF : Fr base [5, 143] [D.b, D.L, I.r, I.c] w w1) (hs : Scr base w1 I.r I.o D.b D.L I.c I.pre I.cols n t k I.q sel vs tmp) :
    St base w1 I { D with n := n, t := t, k := k, sel := sel, vs := vs, tmp := tmp } := by
  obtain ⟨⟨csb, hb⟩, ⟨csL, hL⟩, ⟨csc, hc⟩, ⟨csr, hr⟩, ⟨csh, hh⟩, ⟨csg, hg⟩, ⟨cst, ht⟩⟩ := h.blks
  have key : ∀ y ∈ [D.b, D.L, I.r, I.c], ∃ cs t, Blk w y cs t ∧ (t = 121 ∨ t = 9 ∨ t = 128 ∨ t = 87) := by
    intro y hy
    simp only [List.mem_cons, List.not_mem_nil, or_false] at hy
    rcases hy with rfl | rfl | rfl | rfl
    · exact ⟨_, _, hb, by simp⟩
    · exact ⟨_, _, hL, by simp⟩
    · exact ⟨_, _, hr, by simp⟩
    · exact ⟨_, _, hc, by simp⟩
  have far : ∀ (y : Nat) (ds : Array Value) (ty : TypeId), Blk w y ds ty → ty ≠ 121 → ty ≠ 9 → ty ≠ 128 → ty ≠ 87 → y ∉ [D.b, D.L, I.r, I.c] := by
    intro y ds ty hy g1 g2 g3 g4 hm
    obtain ⟨cs, tz, e1, e2⟩ := key y hm
    have := (hy.inj e1).2
    subst this
    rcases e2 with e | e | e | e
    · exact g1 e
    · exact g2 e
    · exact g3 e
    · exact g4 e
  have row : ∀ (y : Nat) (ds : Array Value), Blk w y ds 9 → y ≠ D.L → y ∉ [D.b, D.L, I.r, I.c] := by
    intro y ds hy hne hm
    simp only [List.mem_cons, List.not_mem_nil, or_false] at hm
    rcases hm with rfl | rfl | rfl | rfl
    · exact absurd (hy.inj hb).2 (by decide)
    · exact hne rfl
    · exact absurd (hy.inj hr).2 (by decide)
    · exact absurd (hy.inj hc).2 (by decide)
  refine ⟨hF.blk h.pr (.inr ⟨far _ _ _ h.pr (by decide) (by decide) (by decide) (by decide), by simp⟩), h.bp, hs, h.hist.fr hF (far _ _ _ hh (by decide) (by decide) (by decide) (by decide)) (row _ _ hg h.a1.symm) (row _ _ ht h.a2.symm) (by simp) (by simp), h.ln.fr hF (by simp) (fun y hy => ⟨?_, fun e => ?_⟩), h.exi.fr hF (by simp) (fun y hy => ?_), h.a1, h.a2, h.a3⟩
  · obtain ⟨cs, tz, e1, e2⟩ := key y hy
    refine ⟨cs, tz, e1, ?_, ?_⟩ <;> (rintro rfl; simp at e2)
  · obtain ⟨-, ds, e1⟩ := row_blk h.ln.2.2.2 y e
    exact row y ds e1 (h.a3 y e).2.2 hy
  · obtain ⟨cs, tz, e1, e2⟩ := key y hy
    refine ⟨cs, tz, e1, ?_⟩
    rintro rfl
    simp at e2
end
end Go.Proofs.YtiepopbmbgfhkaaGreat
