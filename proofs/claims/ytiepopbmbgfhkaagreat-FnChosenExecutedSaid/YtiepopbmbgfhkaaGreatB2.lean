/-
  The renderer: prefix, line ends, room.
-/
import Derived.Test.YtiepopbmbgfhkaaGreatB1
namespace Go.Proofs.YtiepopbmbgfhkaaGreat
open Go.RowKit
set_option maxHeartbeats 1000000
set_option maxRecDepth 20000
set_option linter.unusedVariables false
set_option linter.unusedSimpArgs false

theorem live_c (w : World) : Calls Tryz.prog 107 #[] w fun e w' => e = .returned (.tuple #[.string .empty, .bool false]) ∧ Fr 0 [] [] w w' := by
  go_enter Tryz.func107, Tryz.ntmps107
  go_wp2_with (fail)
  go_ret2
  exact ⟨rfl, (Fr.refl _ _ _ _)⟩

theorem prefix_c {base : Nat} {w : World} {r o n : Nat} {pre : ByteArray} {cols : Nat} (h : Rn base w r o pre cols n) :
    Calls Tryz.prog 74 #[.pointer (some ⟨r, 0, none⟩)] w fun e w' => e = .returned (.string pre) ∧ Fr 0 [] [] w w' := by
  obtain ⟨pc, hpc, ⟨c0, c1, c2, c3, c5, c6, c7, f7, hlt⟩, hB, hbr⟩ := h.ren
  go_enter Tryz.func74, Tryz.ntmps74
  go_wp2_with (fail)
  refine (live_c w).mono ?_
  rintro e w1 ⟨rfl, hF⟩
  have h1 := hF.rn0 h
  obtain ⟨pc, hpc, ⟨c0, c1, c2, c3, c5, c6, c7, f7, hlt⟩, hB, hbr⟩ := h1.ren
  go_wp2
  go_ret
  exact ⟨rfl, hF⟩

/-- The colours of a renderer, as its region reads them. -/
theorem Rn.col {base : Nat} {w : World} {r o n : Nat} {pre : ByteArray} {cols : Nat} (h : Rn base w r o pre cols n) :
    w.cell? ⟨r, 8, none⟩ = some (.int .i64 13) ∧ w.cell? ⟨r, 9, none⟩ = some (.int .i64 0) ∧ w.cell? ⟨r, 10, none⟩ = some (.int .i64 0) ∧ w.cell? ⟨r, 11, none⟩ = some (.int .i64 0) ∧ w.cell? ⟨r, 12, none⟩ = some (.int .i64 11) ∧ w.cell? ⟨r, 13, none⟩ = some (.int .i64 0) := by
  obtain ⟨pc, hpc, -, hB, hbr⟩ := h.ren
  exact ⟨hB.cell 8, hB.cell 9, hB.cell 10, hB.cell 11, hB.cell 12, hB.cell 13⟩

theorem renderPrefix_c {base : Nat} {w : World} {r o n : Nat} {pre : ByteArray} {cols : Nat} (h : Rn base w r o pre cols n) (hp : Prn pre) (hs : pre.size ≤ 100) (hn : n + 200 ≤ 1000000000) :
    Calls Tryz.prog 78 #[.pointer (some ⟨r, 0, none⟩)] w fun e w' => e = .returned (.tuple #[]) ∧ Rn base w' r o pre cols (n + 200) ∧ Fr base [5, 143] [] w w' := by
  have m1 := md_SetColor
  have m2 := na_SetColor
  have m3 := md_WriteStr
  have m4 := na_WriteStr
  go_enter Tryz.func78, Tryz.ntmps78
  go_wp2_with (fail)
  have hS : (fun w' : World => w'.cell? ⟨r, 0, none⟩ = some (.iface 144 (.pointer (some ⟨o, 0, none⟩))) ∧ w'.cell? ⟨r, 8, none⟩ = some (.int .i64 13) ∧ w'.cell? ⟨r, 9, none⟩ = some (.int .i64 0)) w.drew := by
    obtain ⟨pc, hpc, ⟨c0, c1, c2, c3, c5, c6, c7, f7, hlt⟩, hB, hbr⟩ := h.ren
    exact ⟨c0, h.col.1, h.col.2.1⟩
  refine wp_region_plan [3, 7, 11] [14] (fun w' => w'.cell? ⟨r, 0, none⟩ = some (.iface 144 (.pointer (some ⟨o, 0, none⟩))) ∧ w'.cell? ⟨r, 8, none⟩ = some (.int .i64 13) ∧ w'.cell? ⟨r, 9, none⟩ = some (.int .i64 0)) (.pure 0 (.pure 1 (.pure 2 (.take 3 (.pure 4 (.pure 5 (.pure 6 (.take 7 (.pure 8 (.pure 9 (.pure 10 (.take 11 (.pure 12 (.pure 13 (.go 14 .done))))))))))))))) hmix (by kernel_rfl) ?_
  refine plan_move rfl rfl rfl ?_; (try simp only [Act.put, List.setIfInBounds_toArray, List.set_cons_zero, List.set_cons_succ, Int.toNat_natCast, Int.toNat_sub, Int.toNat_zero])
  first | (refine plan_pure (v := ?_) rfl rfl ?_ ?_; rotate_left; (intro w'; go_simp <;> with_reducible rfl); (try simp only [Act.put, List.setIfInBounds_toArray, List.set_cons_zero, List.set_cons_succ, Int.toNat_natCast, Int.toNat_sub, Int.toNat_zero]))
  first | (refine plan_pure (v := ?_) rfl rfl ?_ ?_; rotate_left; (intro w'; go_simp <;> with_reducible rfl); (try simp only [Act.put, List.setIfInBounds_toArray, List.set_cons_zero, List.set_cons_succ, Int.toNat_natCast, Int.toNat_sub, Int.toNat_zero]))
  first | (refine plan_take (v := ?_) rfl hS rfl ?_ ?_; rotate_left; (intro w' hSw; (try dsimp only at hSw); go_simp <;> with_reducible rfl); (try simp only [Act.put, List.setIfInBounds_toArray, List.set_cons_zero, List.set_cons_succ, Int.toNat_natCast, Int.toNat_sub, Int.toNat_zero]))
  refine plan_move rfl rfl rfl ?_; (try simp only [Act.put, List.setIfInBounds_toArray, List.set_cons_zero, List.set_cons_succ, Int.toNat_natCast, Int.toNat_sub, Int.toNat_zero])
  first | (refine plan_pure (v := ?_) rfl rfl ?_ ?_; rotate_left; (intro w'; go_simp <;> with_reducible rfl); (try simp only [Act.put, List.setIfInBounds_toArray, List.set_cons_zero, List.set_cons_succ, Int.toNat_natCast, Int.toNat_sub, Int.toNat_zero]))
  first | (refine plan_pure (v := ?_) rfl rfl ?_ ?_; rotate_left; (intro w'; go_simp <;> with_reducible rfl); (try simp only [Act.put, List.setIfInBounds_toArray, List.set_cons_zero, List.set_cons_succ, Int.toNat_natCast, Int.toNat_sub, Int.toNat_zero]))
  first | (refine plan_take (v := ?_) rfl hS rfl ?_ ?_; rotate_left; (intro w' hSw; (try dsimp only at hSw); go_simp <;> with_reducible rfl); (try simp only [Act.put, List.setIfInBounds_toArray, List.set_cons_zero, List.set_cons_succ, Int.toNat_natCast, Int.toNat_sub, Int.toNat_zero]))
  refine plan_move rfl rfl rfl ?_; (try simp only [Act.put, List.setIfInBounds_toArray, List.set_cons_zero, List.set_cons_succ, Int.toNat_natCast, Int.toNat_sub, Int.toNat_zero])
  first | (refine plan_pure (v := ?_) rfl rfl ?_ ?_; rotate_left; (intro w'; go_simp <;> with_reducible rfl); (try simp only [Act.put, List.setIfInBounds_toArray, List.set_cons_zero, List.set_cons_succ, Int.toNat_natCast, Int.toNat_sub, Int.toNat_zero]))
  first | (refine plan_pure (v := ?_) rfl rfl ?_ ?_; rotate_left; (intro w'; go_simp <;> with_reducible rfl); (try simp only [Act.put, List.setIfInBounds_toArray, List.set_cons_zero, List.set_cons_succ, Int.toNat_natCast, Int.toNat_sub, Int.toNat_zero]))
  first | (refine plan_take (v := ?_) rfl hS rfl ?_ ?_; rotate_left; (intro w' hSw; (try dsimp only at hSw); go_simp <;> with_reducible rfl); (try simp only [Act.put, List.setIfInBounds_toArray, List.set_cons_zero, List.set_cons_succ, Int.toNat_natCast, Int.toNat_sub, Int.toNat_zero]))
  first | (refine plan_pure (v := ?_) rfl rfl ?_ ?_; rotate_left; (intro w'; go_simp <;> with_reducible rfl); (try simp only [Act.put, List.setIfInBounds_toArray, List.set_cons_zero, List.set_cons_succ, Int.toNat_natCast, Int.toNat_sub, Int.toNat_zero]))
  refine plan_move rfl rfl rfl ?_; (try simp only [Act.put, List.setIfInBounds_toArray, List.set_cons_zero, List.set_cons_succ, Int.toNat_natCast, Int.toNat_sub, Int.toNat_zero])
  refine plan_go rfl (by kernel_rfl) rfl (fun K hK => ?_)
  go_simp; refine (setColor_c (f := 13) (b := 0) h.wr.drew (by omega) (by omega) (by omega)).mono ?_; rintro e w1 ⟨rfl, hW1, hF1⟩; refine hK _ _ ?_; clear hK K; (try simp only [Act.put, List.setIfInBounds_toArray, List.set_cons_zero, List.set_cons_succ, Int.toNat_natCast, Int.toNat_sub, Int.toNat_zero])
  refine plan_done ?_
  have h1 := h.drew.after hF1 hW1
  go_wp2_with (fail)
  have hS : (fun w' : World => w'.cell? ⟨r, 0, none⟩ = some (.iface 144 (.pointer (some ⟨o, 0, none⟩)))) w1.drew := by
    obtain ⟨pc, hpc, ⟨c0, c1, c2, c3, c5, c6, c7, f7, hlt⟩, hB, hbr⟩ := h1.ren
    exact c0
  refine wp_region_plan [3] [5, 8] (fun w' => w'.cell? ⟨r, 0, none⟩ = some (.iface 144 (.pointer (some ⟨o, 0, none⟩)))) (.pure 0 (.pure 1 (.pure 2 (.take 3 (.pure 4 (.pure 6 (.pure 7 (.go 5 (.go 8 .done))))))))) hmix (by kernel_rfl) ?_
  refine plan_move rfl rfl rfl ?_; (try simp only [Act.put, List.setIfInBounds_toArray, List.set_cons_zero, List.set_cons_succ, Int.toNat_natCast, Int.toNat_sub, Int.toNat_zero])
  first | (refine plan_pure (v := ?_) rfl rfl ?_ ?_; rotate_left; (intro w'; go_simp <;> with_reducible rfl); (try simp only [Act.put, List.setIfInBounds_toArray, List.set_cons_zero, List.set_cons_succ, Int.toNat_natCast, Int.toNat_sub, Int.toNat_zero]))
  first | (refine plan_pure (v := ?_) rfl rfl ?_ ?_; rotate_left; (intro w'; go_simp <;> with_reducible rfl); (try simp only [Act.put, List.setIfInBounds_toArray, List.set_cons_zero, List.set_cons_succ, Int.toNat_natCast, Int.toNat_sub, Int.toNat_zero]))
  first | (refine plan_take (v := ?_) rfl hS rfl ?_ ?_; rotate_left; (intro w' hSw; (try dsimp only at hSw); go_simp <;> with_reducible rfl); (try simp only [Act.put, List.setIfInBounds_toArray, List.set_cons_zero, List.set_cons_succ, Int.toNat_natCast, Int.toNat_sub, Int.toNat_zero]))
  refine plan_move rfl rfl rfl ?_; (try simp only [Act.put, List.setIfInBounds_toArray, List.set_cons_zero, List.set_cons_succ, Int.toNat_natCast, Int.toNat_sub, Int.toNat_zero])
  first | (refine plan_pure (v := ?_) rfl rfl ?_ ?_; rotate_left; (intro w'; go_simp <;> with_reducible rfl); (try simp only [Act.put, List.setIfInBounds_toArray, List.set_cons_zero, List.set_cons_succ, Int.toNat_natCast, Int.toNat_sub, Int.toNat_zero]))
  refine plan_move rfl rfl rfl ?_; (try simp only [Act.put, List.setIfInBounds_toArray, List.set_cons_zero, List.set_cons_succ, Int.toNat_natCast, Int.toNat_sub, Int.toNat_zero])
  refine plan_goS rfl rfl (fun K hK => ?_)
  go_simp; refine (prefix_c h1.drew).mono ?_; rintro e w2 ⟨rfl, hF2⟩; refine hK _ _ (hF2.cell0 hS) ?_; clear hK K; (try simp only [Act.put, List.setIfInBounds_toArray, List.set_cons_zero, List.set_cons_succ, Int.toNat_natCast, Int.toNat_sub, Int.toNat_zero])
  refine plan_go rfl (by kernel_rfl) rfl (fun K hK => ?_)
  go_simp; refine (writeStr_c (hF2.wr0 h1.wr.drew) hp.noEsc (by omega)).mono ?_; rintro e w3 ⟨rfl, hW3, hF3⟩; refine hK _ _ ?_; clear hK K; (try simp only [Act.put, List.setIfInBounds_toArray, List.set_cons_zero, List.set_cons_succ, Int.toNat_natCast, Int.toNat_sub, Int.toNat_zero])
  refine plan_done ?_
  have h3 := (hF2.rn0 h1.drew).after hF3 hW3
  obtain ⟨pc, hpc, ⟨c0, c1, c2, c3, c5, c6, c7, f7, hlt⟩, hB, hbr⟩ := h3.ren
  go_wp2_with (fail)
  refine (setColor_c (f := 0) (b := 0) h3.wr (by omega) (by omega) (by omega)).mono ?_
  rintro e w4 ⟨rfl, hW4, hF4⟩
  go_wp2
  go_end0
  exact ⟨rfl, h3.after hF4 (hW4.le (by omega)), ((((Fr.refl _ _ _ _).drew.into hF1 (by simp) (by simp)).drew.ext hF2).into hF3 (by simp) (by simp)).into hF4 (by simp) (by simp)⟩

theorem lineWrap_c {base : Nat} {w : World} {r o n : Nat} {pre : ByteArray} {cols : Nat} (h : Rn base w r o pre cols n) (hc : 13 ≤ cols) (hc2 : cols ≤ 120) (cur : Nat) (hcur : cur ≤ 1400) (hn : n + 1 ≤ 1000000000) :
    Calls Tryz.prog 79 #[.pointer (some ⟨r, 0, none⟩), .int .i64 cur] w fun e w' => e = .returned (.tuple #[]) ∧ Rn base w' r o pre cols (n + 1) ∧ Fr base [5, 143] [] w w' := by
  have m1 := md_WriteRaw
  have m2 := na_WriteRaw
  obtain ⟨pc, hpc, ⟨c0, c1, c2, c3, c5, c6, c7, f7, hlt⟩, hB, hbr⟩ := h.ren
  obtain ⟨e1, e2⟩ := int_ne (a := (cols : Int)) (b := 0) (by omega)
  have e3 : ¬ cols = 0 := by omega
  have hw : IntKind.i64.wrap (cols : Int) = cols := wrap_in (by omega) (by omega)
  have hr : (cur : Int) % cols = (cur % cols : Nat) := (Int.natCast_emod _ _).symm
  by_cases h0 : 0 < cur
  · have d0 : decide (0 < (cur : Int)) = true := by simpa using h0
    by_cases hm : cur % cols = 0
    · have d1 : ((cur : Int) % cols == 0) = true := by rw [hr, hm]; rfl
      have HR := Lib.hid hr
      have HM := Lib.hid hm
      clear hr hm
      go_enter Tryz.func79, Tryz.ntmps79
      go_wp2_with (fail)
      refine (writeRaw_c (h.wr.alloc _) (Dat.of_blk [10] _ (Blk.new' rfl _ _)) (by simp; omega)).mono ?_
      rintro e w1 ⟨rfl, hW1, hF1⟩
      go_wp2
      go_end0
      have hF : Fr base [5, 143] [] w w1 := ((Fr.refl _ _ _ _).alloc _).into hF1 (by simp) (by simp)
      exact ⟨rfl, h.after hF hW1, hF⟩
    · have d1 : ((cur : Int) % cols == 0) = false := (int_ne (by rw [hr]; omega)).1
      have HR := Lib.hid hr
      have HM := Lib.hid hm
      clear hr hm
      go_enter Tryz.func79, Tryz.ntmps79
      go_wp2_with (fail)
      go_end0
      exact ⟨rfl, ⟨h.1, h.2.1, h.wr.le (by omega)⟩, Fr.refl _ _ _ _⟩
  · have d0 : decide (0 < (cur : Int)) = false := by simpa using h0
    clear hr
    go_enter Tryz.func79, Tryz.ntmps79
    go_wp2_with (fail)
    go_end0
    exact ⟨rfl, ⟨h.1, h.2.1, h.wr.le (by omega)⟩, Fr.refl _ _ _ _⟩

theorem prepareArea_c {base : Nat} {w : World} {r o n : Nat} {pre : ByteArray} {cols : Nat} (h : Rn base w r o pre cols n) (k : Nat) (hk : k ≤ 100) (hn : n + 2400 ≤ 1000000000) :
    Calls Tryz.prog 115 #[.pointer (some ⟨r, 0, none⟩), .int .i64 k] w fun e w' => e = .returned (.tuple #[]) ∧ Rn base w' r o pre cols (n + 2400) ∧ Fr base [5, 143] [] w w' := by
  have m1 := md_ScrollDown
  have m2 := na_ScrollDown
  have m3 := md_ScrollUp
  have m4 := na_ScrollUp
  go_enter Tryz.func115, Tryz.ntmps115
  go_wp2_with (fail)
  go_loopw [4] (fun v4 w' => ∃ i : Nat, i ≤ k ∧ v4 = .int .i64 i ∧ Rn base w' r o pre cols (n + 12 * i) ∧ Fr base [5, 143] [] w w') (fun v4 _ => k - (intOf v4).toNat)
  case atStart => exact ⟨0, by omega, rfl, h, Fr.refl _ _ _ _⟩
  case round =>
    obtain ⟨i, hi, rfl, h1, hF1⟩ := hrel
    by_cases hlt : i < k
    · have d1 : decide ((i : Int) < k) = true := by simpa using hlt
      obtain ⟨pc, hpc, ⟨c0, c1, c2, c3, c5, c6, c7, f7, hlt⟩, hB, hbr⟩ := h1.ren
      go_wp2_with (fail)
      refine (scrollDown_c h1.wr (by omega)).mono ?_
      rintro e w2 ⟨rfl, hW2, hF2⟩
      go_wp2
      go_roundw
      case rel => exact ⟨i + 1, by omega, by simp, h1.after hF2 (hW2.le (by omega)), hF1.into hF2 (by simp) (by simp)⟩
      case measure => simp [intOf]; omega
    · have d1 : decide ((i : Int) < k) = false := by simpa using hlt
      have e : i = k := by omega
      subst e
      go_wp2_with (fail)
      go_loopw [5] (fun v5 w' => ∃ j : Nat, j ≤ i ∧ v5 = .int .i64 j ∧ Rn base w' r o pre cols (n + 12 * i + 12 * j) ∧ Fr base [5, 143] [] w w') (fun v5 _ => i - (intOf v5).toNat)
      case atStart => exact ⟨0, by omega, rfl, h1, hF1⟩
      case round =>
        obtain ⟨j, hj, rfl, h2, hF2⟩ := hrel
        by_cases hlt : j < i
        · have d1 : decide ((j : Int) < i) = true := by simpa using hlt
          obtain ⟨pc, hpc, ⟨c0, c1, c2, c3, c5, c6, c7, f7, hlt⟩, hB, hbr⟩ := h2.ren
          go_wp2_with (fail)
          refine (scrollUp_c h2.wr (by omega)).mono ?_
          rintro e w3 ⟨rfl, hW3, hF3⟩
          go_wp2
          go_roundw
          case rel => exact ⟨j + 1, by omega, by simp, h2.after hF3 (hW3.le (by omega)), hF2.into hF3 (by simp) (by simp)⟩
          case measure => simp [intOf]; omega
        · have d1 : decide ((j : Int) < i) = false := by simpa using hlt
          go_wp2_with (fail)
          go_end0
          exact ⟨rfl, ⟨h2.1, h2.2.1, h2.wr.le (by omega)⟩, hF2⟩
end Go.Proofs.YtiepopbmbgfhkaaGreat
