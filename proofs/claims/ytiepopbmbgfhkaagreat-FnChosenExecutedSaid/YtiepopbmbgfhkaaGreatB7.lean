/-
  Where the cursor is shown; the line that is ended.
-/
import Derived.Test.YtiepopbmbgfhkaaGreatB6
namespace Go.Proofs.YtiepopbmbgfhkaaGreat
open Go.RowKit
set_option maxHeartbeats 1000000
set_option maxRecDepth 20000
set_option linter.unusedVariables false
set_option linter.unusedSimpArgs false

theorem displayPos_c {d : Nat} {t : ByteArray} {k : Nat} {w : World} (hd : Blk w d #[.string t, .int .i64 k] 75) (hp : Prn t) (hs : t.size ≤ 1000000) (hk : k ≤ t.size) :
    Calls Tryz.prog 112 #[.pointer (some ⟨d, 0, none⟩)] w fun e w' => e = .returned (.int .i64 k) ∧ Fr 0 [] [] w w' := by
  have ha := hp.asc
  have hs' : t.size ≤ 70368744177664 := by omega
  obtain ⟨h0, h1, -, -⟩ := hd.c2
  have hlt := hd.lt
  go_enter Tryz.func112, Tryz.ntmps112
  go_wp2_with (fail)
  have hS : (fun w' : World => w'.cell? ⟨d, 0, none⟩ = some (.string t) ∧ w'.cell? ⟨d, 1, none⟩ = some (.int .i64 k)) w.drew := ⟨h0, h1⟩
  refine wp_region_plan [3, 8] [4] (fun w' => w'.cell? ⟨d, 0, none⟩ = some (.string t) ∧ w'.cell? ⟨d, 1, none⟩ = some (.int .i64 k)) (.pure 0 (.pure 1 (.pure 2 (.take 3 (.pure 5 (.pure 6 (.pure 7 (.take 8 (.go 4 (.pure 9 (.pure 10 .done))))))))))) hmix (by kernel_rfl) ?_
  refine plan_move rfl rfl rfl ?_; (try simp only [Act.put, List.setIfInBounds_toArray, List.set_cons_zero, List.set_cons_succ, Int.toNat_natCast, Int.toNat_sub, Int.toNat_zero])
  first | (refine plan_pure rfl rfl (fun w' => ex_runesTo rfl rfl rfl ?_ ?_) ?_; omega; omega; (try simp only [Act.put, List.setIfInBounds_toArray, List.set_cons_zero, List.set_cons_succ, Int.toNat_natCast, Int.toNat_sub, Int.toNat_zero])) | (refine plan_pure rfl rfl (fun w' => ex_runesFrom rfl rfl rfl ?_ ?_) ?_; omega; omega; (try simp only [Act.put, List.setIfInBounds_toArray, List.set_cons_zero, List.set_cons_succ, Int.toNat_natCast, Int.toNat_sub, Int.toNat_zero])) | (refine plan_take rfl hS rfl (fun w' hSw => ex_textOf rfl rfl hSw.1 ha ?_ ?_ hcap) ?_; omega; omega; (try simp only [Act.put, List.setIfInBounds_toArray, List.set_cons_zero, List.set_cons_succ, Int.toNat_natCast, Int.toNat_sub, Int.toNat_zero])) | (refine plan_pure rfl rfl (fun w' => ex_add rfl rfl rfl ?_) ?_; ((try simp only [ByteArray.size_append, Int.toNat_natCast]) <;> omega); (try simp only [Act.put, List.setIfInBounds_toArray, List.set_cons_zero, List.set_cons_succ, Int.toNat_natCast, Int.toNat_sub, Int.toNat_zero])) | (refine plan_pure (v := ?_) rfl rfl ?_ ?_; rotate_left; (intro w'; go_simp <;> with_reducible rfl); (try simp only [Act.put, List.setIfInBounds_toArray, List.set_cons_zero, List.set_cons_succ, Int.toNat_natCast, Int.toNat_sub, Int.toNat_zero]))
  first | (refine plan_pure rfl rfl (fun w' => ex_runesTo rfl rfl rfl ?_ ?_) ?_; omega; omega; (try simp only [Act.put, List.setIfInBounds_toArray, List.set_cons_zero, List.set_cons_succ, Int.toNat_natCast, Int.toNat_sub, Int.toNat_zero])) | (refine plan_pure rfl rfl (fun w' => ex_runesFrom rfl rfl rfl ?_ ?_) ?_; omega; omega; (try simp only [Act.put, List.setIfInBounds_toArray, List.set_cons_zero, List.set_cons_succ, Int.toNat_natCast, Int.toNat_sub, Int.toNat_zero])) | (refine plan_take rfl hS rfl (fun w' hSw => ex_textOf rfl rfl hSw.1 ha ?_ ?_ hcap) ?_; omega; omega; (try simp only [Act.put, List.setIfInBounds_toArray, List.set_cons_zero, List.set_cons_succ, Int.toNat_natCast, Int.toNat_sub, Int.toNat_zero])) | (refine plan_pure rfl rfl (fun w' => ex_add rfl rfl rfl ?_) ?_; ((try simp only [ByteArray.size_append, Int.toNat_natCast]) <;> omega); (try simp only [Act.put, List.setIfInBounds_toArray, List.set_cons_zero, List.set_cons_succ, Int.toNat_natCast, Int.toNat_sub, Int.toNat_zero])) | (refine plan_pure (v := ?_) rfl rfl ?_ ?_; rotate_left; (intro w'; go_simp <;> with_reducible rfl); (try simp only [Act.put, List.setIfInBounds_toArray, List.set_cons_zero, List.set_cons_succ, Int.toNat_natCast, Int.toNat_sub, Int.toNat_zero]))
  first | (refine plan_pure rfl rfl (fun w' => ex_runesTo rfl rfl rfl ?_ ?_) ?_; omega; omega; (try simp only [Act.put, List.setIfInBounds_toArray, List.set_cons_zero, List.set_cons_succ, Int.toNat_natCast, Int.toNat_sub, Int.toNat_zero])) | (refine plan_pure rfl rfl (fun w' => ex_runesFrom rfl rfl rfl ?_ ?_) ?_; omega; omega; (try simp only [Act.put, List.setIfInBounds_toArray, List.set_cons_zero, List.set_cons_succ, Int.toNat_natCast, Int.toNat_sub, Int.toNat_zero])) | (refine plan_take rfl hS rfl (fun w' hSw => ex_textOf rfl rfl hSw.1 ha ?_ ?_ hcap) ?_; omega; omega; (try simp only [Act.put, List.setIfInBounds_toArray, List.set_cons_zero, List.set_cons_succ, Int.toNat_natCast, Int.toNat_sub, Int.toNat_zero])) | (refine plan_pure rfl rfl (fun w' => ex_add rfl rfl rfl ?_) ?_; ((try simp only [ByteArray.size_append, Int.toNat_natCast]) <;> omega); (try simp only [Act.put, List.setIfInBounds_toArray, List.set_cons_zero, List.set_cons_succ, Int.toNat_natCast, Int.toNat_sub, Int.toNat_zero])) | (refine plan_take (v := ?_) rfl hS rfl ?_ ?_; rotate_left; (intro w' hSw; (try dsimp only at hSw); go_simp <;> with_reducible rfl); (try simp only [Act.put, List.setIfInBounds_toArray, List.set_cons_zero, List.set_cons_succ, Int.toNat_natCast, Int.toNat_sub, Int.toNat_zero]))
  refine plan_move rfl rfl rfl ?_; (try simp only [Act.put, List.setIfInBounds_toArray, List.set_cons_zero, List.set_cons_succ, Int.toNat_natCast, Int.toNat_sub, Int.toNat_zero])
  first | (refine plan_pure rfl rfl (fun w' => ex_runesTo rfl rfl rfl ?_ ?_) ?_; omega; omega; (try simp only [Act.put, List.setIfInBounds_toArray, List.set_cons_zero, List.set_cons_succ, Int.toNat_natCast, Int.toNat_sub, Int.toNat_zero])) | (refine plan_pure rfl rfl (fun w' => ex_runesFrom rfl rfl rfl ?_ ?_) ?_; omega; omega; (try simp only [Act.put, List.setIfInBounds_toArray, List.set_cons_zero, List.set_cons_succ, Int.toNat_natCast, Int.toNat_sub, Int.toNat_zero])) | (refine plan_take rfl hS rfl (fun w' hSw => ex_textOf rfl rfl hSw.1 ha ?_ ?_ hcap) ?_; omega; omega; (try simp only [Act.put, List.setIfInBounds_toArray, List.set_cons_zero, List.set_cons_succ, Int.toNat_natCast, Int.toNat_sub, Int.toNat_zero])) | (refine plan_pure rfl rfl (fun w' => ex_add rfl rfl rfl ?_) ?_; ((try simp only [ByteArray.size_append, Int.toNat_natCast]) <;> omega); (try simp only [Act.put, List.setIfInBounds_toArray, List.set_cons_zero, List.set_cons_succ, Int.toNat_natCast, Int.toNat_sub, Int.toNat_zero])) | (refine plan_pure (v := ?_) rfl rfl ?_ ?_; rotate_left; (intro w'; go_simp <;> with_reducible rfl); (try simp only [Act.put, List.setIfInBounds_toArray, List.set_cons_zero, List.set_cons_succ, Int.toNat_natCast, Int.toNat_sub, Int.toNat_zero]))
  first | (refine plan_pure rfl rfl (fun w' => ex_runesTo rfl rfl rfl ?_ ?_) ?_; omega; omega; (try simp only [Act.put, List.setIfInBounds_toArray, List.set_cons_zero, List.set_cons_succ, Int.toNat_natCast, Int.toNat_sub, Int.toNat_zero])) | (refine plan_pure rfl rfl (fun w' => ex_runesFrom rfl rfl rfl ?_ ?_) ?_; omega; omega; (try simp only [Act.put, List.setIfInBounds_toArray, List.set_cons_zero, List.set_cons_succ, Int.toNat_natCast, Int.toNat_sub, Int.toNat_zero])) | (refine plan_take rfl hS rfl (fun w' hSw => ex_textOf rfl rfl hSw.1 ha ?_ ?_ hcap) ?_; omega; omega; (try simp only [Act.put, List.setIfInBounds_toArray, List.set_cons_zero, List.set_cons_succ, Int.toNat_natCast, Int.toNat_sub, Int.toNat_zero])) | (refine plan_pure rfl rfl (fun w' => ex_add rfl rfl rfl ?_) ?_; ((try simp only [ByteArray.size_append, Int.toNat_natCast]) <;> omega); (try simp only [Act.put, List.setIfInBounds_toArray, List.set_cons_zero, List.set_cons_succ, Int.toNat_natCast, Int.toNat_sub, Int.toNat_zero])) | (refine plan_pure (v := ?_) rfl rfl ?_ ?_; rotate_left; (intro w'; go_simp <;> with_reducible rfl); (try simp only [Act.put, List.setIfInBounds_toArray, List.set_cons_zero, List.set_cons_succ, Int.toNat_natCast, Int.toNat_sub, Int.toNat_zero]))
  first | (refine plan_pure rfl rfl (fun w' => ex_runesTo rfl rfl rfl ?_ ?_) ?_; omega; omega; (try simp only [Act.put, List.setIfInBounds_toArray, List.set_cons_zero, List.set_cons_succ, Int.toNat_natCast, Int.toNat_sub, Int.toNat_zero])) | (refine plan_pure rfl rfl (fun w' => ex_runesFrom rfl rfl rfl ?_ ?_) ?_; omega; omega; (try simp only [Act.put, List.setIfInBounds_toArray, List.set_cons_zero, List.set_cons_succ, Int.toNat_natCast, Int.toNat_sub, Int.toNat_zero])) | (refine plan_take rfl hS rfl (fun w' hSw => ex_textOf rfl rfl hSw.1 ha ?_ ?_ hcap) ?_; omega; omega; (try simp only [Act.put, List.setIfInBounds_toArray, List.set_cons_zero, List.set_cons_succ, Int.toNat_natCast, Int.toNat_sub, Int.toNat_zero])) | (refine plan_pure rfl rfl (fun w' => ex_add rfl rfl rfl ?_) ?_; ((try simp only [ByteArray.size_append, Int.toNat_natCast]) <;> omega); (try simp only [Act.put, List.setIfInBounds_toArray, List.set_cons_zero, List.set_cons_succ, Int.toNat_natCast, Int.toNat_sub, Int.toNat_zero])) | (refine plan_take (v := ?_) rfl hS rfl ?_ ?_; rotate_left; (intro w' hSw; (try dsimp only at hSw); go_simp <;> with_reducible rfl); (try simp only [Act.put, List.setIfInBounds_toArray, List.set_cons_zero, List.set_cons_succ, Int.toNat_natCast, Int.toNat_sub, Int.toNat_zero]))
  refine plan_goS rfl rfl (fun K hK => ?_)
  refine wp_runes _ _ rfl rfl ha hs' ?_; intro rb rc w1 hcap hB hF; refine hK _ _ ⟨hF.cell0 hS.1, hF.cell0 hS.2⟩ ?_; clear hK K; (try simp only [Act.put, List.setIfInBounds_toArray, List.set_cons_zero, List.set_cons_succ, Int.toNat_natCast, Int.toNat_sub, Int.toNat_zero])
  first | (refine plan_pure rfl rfl (fun w' => ex_runesTo rfl rfl rfl ?_ ?_) ?_; omega; omega; (try simp only [Act.put, List.setIfInBounds_toArray, List.set_cons_zero, List.set_cons_succ, Int.toNat_natCast, Int.toNat_sub, Int.toNat_zero])) | (refine plan_pure rfl rfl (fun w' => ex_runesFrom rfl rfl rfl ?_ ?_) ?_; omega; omega; (try simp only [Act.put, List.setIfInBounds_toArray, List.set_cons_zero, List.set_cons_succ, Int.toNat_natCast, Int.toNat_sub, Int.toNat_zero])) | (refine plan_take rfl hS rfl (fun w' hSw => ex_textOf rfl rfl hSw.1 ha ?_ ?_ hcap) ?_; omega; omega; (try simp only [Act.put, List.setIfInBounds_toArray, List.set_cons_zero, List.set_cons_succ, Int.toNat_natCast, Int.toNat_sub, Int.toNat_zero])) | (refine plan_pure rfl rfl (fun w' => ex_add rfl rfl rfl ?_) ?_; ((try simp only [ByteArray.size_append, Int.toNat_natCast]) <;> omega); (try simp only [Act.put, List.setIfInBounds_toArray, List.set_cons_zero, List.set_cons_succ, Int.toNat_natCast, Int.toNat_sub, Int.toNat_zero])) | (refine plan_pure (v := ?_) rfl rfl ?_ ?_; rotate_left; (intro w'; go_simp <;> with_reducible rfl); (try simp only [Act.put, List.setIfInBounds_toArray, List.set_cons_zero, List.set_cons_succ, Int.toNat_natCast, Int.toNat_sub, Int.toNat_zero]))
  first | (refine plan_pure rfl rfl (fun w' => ex_runesTo rfl rfl rfl ?_ ?_) ?_; omega; omega; (try simp only [Act.put, List.setIfInBounds_toArray, List.set_cons_zero, List.set_cons_succ, Int.toNat_natCast, Int.toNat_sub, Int.toNat_zero])) | (refine plan_pure rfl rfl (fun w' => ex_runesFrom rfl rfl rfl ?_ ?_) ?_; omega; omega; (try simp only [Act.put, List.setIfInBounds_toArray, List.set_cons_zero, List.set_cons_succ, Int.toNat_natCast, Int.toNat_sub, Int.toNat_zero])) | (refine plan_take rfl hS rfl (fun w' hSw => ex_textOf rfl rfl hSw.1 ha ?_ ?_ hcap) ?_; omega; omega; (try simp only [Act.put, List.setIfInBounds_toArray, List.set_cons_zero, List.set_cons_succ, Int.toNat_natCast, Int.toNat_sub, Int.toNat_zero])) | (refine plan_pure rfl rfl (fun w' => ex_add rfl rfl rfl ?_) ?_; ((try simp only [ByteArray.size_append, Int.toNat_natCast]) <;> omega); (try simp only [Act.put, List.setIfInBounds_toArray, List.set_cons_zero, List.set_cons_succ, Int.toNat_natCast, Int.toNat_sub, Int.toNat_zero])) | (refine plan_pure (v := ?_) rfl rfl ?_ ?_; rotate_left; (intro w'; go_simp <;> with_reducible rfl); (try simp only [Act.put, List.setIfInBounds_toArray, List.set_cons_zero, List.set_cons_succ, Int.toNat_natCast, Int.toNat_sub, Int.toNat_zero]))
  refine plan_done ?_
  have hrs : runeSl rb 0 k rc = .slice (some ⟨rb, 0, none⟩) k rc := by unfold runeSl; simp
  rw [hrs]
  have hbl := hB.lt
  go_wp2_with (fail)
  go_loop [3, 18] (fun v3 v18 => ∃ i : Nat, i ≤ k ∧ v18 = .int .i64 i ∧ v3 = .int .i64 i) (fun _ v18 => k - (intOf v18).toNat)
  case atStart => exact ⟨0, by omega, rfl, rfl⟩
  case round =>
    obtain ⟨i, hi, rfl, rfl⟩ := hrel
    by_cases hlt2 : i < k
    · have d1 : decide ((i : Int) < k) = true := by simpa using hlt2
      have d2 : (i : Int) < k := by omega
      have hit : i < t.size := by omega
      have hc := hB.cell i
      rw [runeRow_at t rc i hit] at hc
      have hp1 := hp i hit
      go_wp2_with (fail)
      refine (runeWidth_c _ (by omega) (by omega) _).mono ?_
      rintro e w2 ⟨rfl, rfl⟩
      go_wp2
      go_round
      case rel => exact ⟨i + 1, by omega, by simp, by simp⟩
      case measure => simp [intOf]; omega
    · have d1 : decide ((i : Int) < k) = false := by simpa using hlt2
      have e : i = k := by omega
      have E := Lib.hid e
      clear e
      go_wp2
      go_ret
      exact ⟨by rw [← E.out]; rfl, (Fr.refl _ _ _ _).drew.ext hF⟩

theorem bufPos_c {base : Nat} {w : World} {b L : Nat} {t : ByteArray} {k : Nat} (h : Buf base w b L t k) (hp : Prn t) (hs : t.size ≤ 1000000) (hk : k ≤ t.size) :
    Calls Tryz.prog 81 #[.pointer (some ⟨b, 0, none⟩)] w fun e w' => e = .returned (.int .i64 k) ∧ Buf base w' b L t k ∧ Fr base [] [b] w w' := by
  go_enter Tryz.func81, Tryz.ntmps81
  go_wp2_with (fail)
  refine (doc_c h).mono ?_
  rintro e w1 ⟨d, rfl, hd, hB, hF⟩
  go_wp2_with (fail)
  refine (displayPos_c hd hp hs hk).mono ?_
  rintro e w2 ⟨rfl, hF2⟩
  go_wp2
  go_ret
  exact ⟨rfl, hF2.buf0 hB, hF.ext hF2⟩

theorem Rn.fr {base : Nat} {w w1 : World} {r o n : Nat} {pre : ByteArray} {cols : Nat} {ts bs : List Nat} (h : Rn base w r o pre cols n) (hF : Fr base ts bs w w1) (h1 : 5 ∉ ts ∧ 143 ∉ ts ∧ 128 ∉ ts) (hb : ∀ b ∈ bs, ∃ cs t, Blk w b cs t ∧ t ≠ 5 ∧ t ≠ 143 ∧ t ≠ 128) : Rn base w1 r o pre cols n := by
  obtain ⟨e1, ⟨pc, e2, e3, hB⟩, hW⟩ := h
  refine ⟨e1, ⟨pc, e2, e3, hF.blk hB (.inr ⟨fun hm => ?_, h1.2.2⟩)⟩, hF.wr hW h1.1 h1.2.1 fun b hm => ?_⟩
  · obtain ⟨cs, t, g1, g2, g3, g4⟩ := hb r hm
    exact g4 (g1.inj hB).2
  · obtain ⟨cs, t, g1, g2, g3, g4⟩ := hb b hm
    exact ⟨cs, t, g1, g2, g3⟩
theorem Buf.blk {base : Nat} {w : World} {b L : Nat} {t : ByteArray} {k : Nat} (h : Buf base w b L t k) : (∃ cs, Blk w b cs 121) ∧ ∃ cs, Blk w L cs 9 := by
  obtain ⟨hbb, hbL, cd, pc, hb, hL, hcd⟩ := h
  exact ⟨⟨_, hb⟩, ⟨_, hL⟩⟩
/-- A buffer behind calls that write. -/
theorem Buf.after {base : Nat} {w w1 : World} {b L : Nat} {t : ByteArray} {k : Nat} (h : Buf base w b L t k) {ts : List Nat} (hF : Fr base ts [] w w1) (h1 : 121 ∉ ts ∧ 9 ∉ ts ∧ 75 ∉ ts) : Buf base w1 b L t k := by
  obtain ⟨hbb, hbL, cd, pc, hb, hL, hcd⟩ := h
  exact ⟨hbb, hbL, cd, pc, hF.blk hb (.inr ⟨by simp, h1.1⟩), hF.blk hL (.inr ⟨by simp, h1.2.1⟩), hcd.imp id fun ⟨d, u, j, e1, e2⟩ => ⟨d, u, j, e1, hF.blk e2 (.inr ⟨by simp, h1.2.2⟩)⟩⟩
end Go.Proofs.YtiepopbmbgfhkaaGreat
