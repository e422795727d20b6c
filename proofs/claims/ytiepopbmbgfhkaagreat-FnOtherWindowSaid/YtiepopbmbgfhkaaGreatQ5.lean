/-
  Numbers of the terminal's sequences: how many signs they have at most.
-/
import Derived.Test.YtiepopbmbgfhkaaGreatQ4
namespace Go.Proofs.YtiepopbmbgfhkaaGreat
open Go.RowKit
open List renaming setIfInBounds_toArray → zq1, set_cons_zero → zq2, set_cons_succ → zq3
open Int renaming toNat_natCast → zq4, toNat_sub → zq5, toNat_zero → zq6
set_option maxHeartbeats 1000000
set_option maxRecDepth 20000
set_option linter.unusedVariables false
set_option linter.unusedSimpArgs false

/-- A short text that is returned. -/
def Short (w : World) (e : Ending) (w' : World) : Prop := ∃ r : ByteArray, e = .returned (.string r) ∧ r.size ≤ 3 ∧ Fr 0 [] [] w w'

theorem small_c (n : Nat) (hn : n < 100) (w : World) : Calls Tryz.prog 264 #[.int .i64 n] w (Short w) := by
  by_cases h10 : n < 10
  · have d1 : decide ((n : Int) < 10) = true := by simp; omega
    go_enter Tryz.func264, Tryz.ntmps264
    go_wp2
    go_ret
    refine ⟨_, rfl, ?_, Fr.refl _ _ _ _⟩
    simp only [ByteArray.size_extract]; omega
  · have d1 : decide ((n : Int) < 10) = false := by simp; omega
    go_enter Tryz.func264, Tryz.ntmps264
    go_wp2
    go_ret
    refine ⟨_, rfl, ?_, Fr.refl _ _ _ _⟩
    simp only [ByteArray.size_extract]; omega

theorem bool2_c (b : Bool) (w : World) : Calls Tryz.prog 270 #[.bool b] w fun e w' => e = .returned (.int .i64 (if b then 1 else 0)) ∧ w = w' := by
  cases b
  · go_enter Tryz.func270, Tryz.ntmps270
    go_wp2
    go_ret
    exact ⟨rfl, rfl⟩
  · go_enter Tryz.func270, Tryz.ntmps270
    go_wp2
    go_ret
    exact ⟨rfl, rfl⟩

theorem log10_c (w : World) : Calls Tryz.prog 268 #[.int .i64 7] w fun e w' => e = .returned (.int .i64 2) ∧ w = w' := by
  go_enter Tryz.func268, Tryz.ntmps268
  go_wp2
  go_ret
  exact ⟨rfl, rfl⟩

theorem len64_c (n : Nat) (h0 : 100 ≤ n) (hn : n < 120) (w : World) : Calls Tryz.prog 269 #[.int .u64 n] w fun e w' => e = .returned (.int .i64 7) ∧ w = w' := by
  obtain ⟨k, rfl⟩ : ∃ k, n = 100 + k := ⟨n - 100, by omega⟩
  have hk : k < 20 := by omega
  clear h0 hn
  rcases k with _ | _ | _ | _ | _ | _ | _ | _ | _ | _ | _ | _ | _ | _ | _ | _ | _ | _ | _ | _ | k
  all_goals first
    | omega
    | (go_enter Tryz.func269, Tryz.ntmps269
       go_wp2
       go_ret
       exact ⟨by kernel_rfl, rfl⟩)

theorem numDigits_c (n : Nat) (h0 : 100 ≤ n) (hn : n < 120) (w : World) (ht : Tab w) : Calls Tryz.prog 265 #[.int .u64 n] w fun e w' => (e = .returned (.int .i64 2) ∨ e = .returned (.int .i64 3)) ∧ w = w' := by
  obtain ⟨c, ht⟩ := ht
  by_cases hc : c ≤ n
  · have d1 : decide (c ≤ (n : Int)) = true := by simp; omega
    go_enter Tryz.func265, Tryz.ntmps265
    go_wp2_with (fail)
    refine (len64_c n h0 hn w).mono ?_
    rintro e w1 ⟨rfl, rfl⟩
    go_wp2_with (fail)
    refine (log10_c w).mono ?_
    rintro e w1 ⟨rfl, rfl⟩
    go_wp2_with (fail)
    refine (bool2_c true w).mono ?_
    rintro e w1 ⟨rfl, rfl⟩
    go_wp2
    go_ret
    exact ⟨.inr rfl, rfl⟩
  · have d1 : decide (c ≤ (n : Int)) = false := by simp; omega
    go_enter Tryz.func265, Tryz.ntmps265
    go_wp2_with (fail)
    refine (len64_c n h0 hn w).mono ?_
    rintro e w1 ⟨rfl, rfl⟩
    go_wp2_with (fail)
    refine (log10_c w).mono ?_
    rintro e w1 ⟨rfl, rfl⟩
    go_wp2_with (fail)
    refine (bool2_c false w).mono ?_
    rintro e w1 ⟨rfl, rfl⟩
    go_wp2
    go_ret
    exact ⟨.inl rfl, rfl⟩

/-- All cells are bytes. -/
def AllU8 (cs : Array Value) : Prop := ∀ j, j < cs.size → ∃ b : UInt8, cs[j]? = some (.int .u8 (b.toNat : Int))
theorem AllU8.set {cs : Array Value} (h : AllU8 cs) (i : Nat) (b : UInt8) : AllU8 (cs.setIfInBounds i (.int .u8 (b.toNat : Int))) := by
  intro j hj
  have hj' : j < cs.size := by simpa using hj
  by_cases hij : i = j
  · subst hij; exact ⟨b, by simp [hj']⟩
  · obtain ⟨c, hc⟩ := h j hj'
    exact ⟨c, by rw [Array.getElem?_setIfInBounds_ne hij]; exact hc⟩

theorem fmt_c (n nd : Nat) (h0 : 100 ≤ n) (hn : n < 120) (hnd : nd = 2 ∨ nd = 3) {w : World} {B t c : Nat} {cs : Array Value} (hB : Blk w B cs t) (hU : AllU8 cs) (hs : 10 ≤ cs.size) :
    Calls Tryz.prog 266 #[.slice (some ⟨B, 1, none⟩) nd c, .int .u64 n] w fun e w' => e = .returned (.tuple #[]) ∧ (∃ cs', Blk w' B cs' t ∧ AllU8 cs' ∧ cs'.size = cs.size) ∧ Fr 0 [] [B] w w' := by
  have hlt := hB.lt
  obtain ⟨x1, hx1⟩ := hU 1 (by omega)
  obtain ⟨x2, hx2⟩ := hU 2 (by omega)
  obtain ⟨x3, hx3⟩ := hU 3 (by omega)
  have c1 := hB.cell 1
  have c2 := hB.cell 2
  have c3 := hB.cell 3
  rw [hx1] at c1
  rw [hx2] at c2
  rw [hx3] at c3
  have f1 := hB.frozen 1
  have f2 := hB.frozen 2
  have f3 := hB.frozen 3
  have hm : ((n : Int) % 4294967296) = n := by omega
  clear hm
  obtain ⟨q, rfl⟩ : ∃ q, n = 100 + q := ⟨n - 100, by omega⟩
  have hq : q < 20 := by omega
  go_enter Tryz.func266, Tryz.ntmps266
  go_wp2_with (fail)
  go_loopw [1, 4] (fun v1 v4 w' => v1 = .int .u64 (100 + q : Nat) ∧ v4 = .int .i64 nd ∧ w' = w) (fun _ _ _ => 0)
  case atStart => exact ⟨rfl, rfl, rfl⟩
  case round =>
    obtain ⟨rfl, rfl, rfl⟩ := hrel
    have d1 : decide (8 ≤ (nd : Int)) = false := by simp; omega
    go_wp2_with (fail)
    have d3 : decide (4 ≤ (nd : Int)) = false := by simp; omega
    have d4 : decide (2 ≤ (nd : Int)) = true := by simp; omega
    have g1 : ((100 : Int) + q) % 100 = q := by omega
    have g2 : (q : Int) % 100 = q := by omega
    have g3 : ((100 : Int) + q) / 100 = 1 := by omega
    have g4 : IntKind.u32.wrap ((q : Int) * 2 + 1) = (q : Int) * 2 + 1 := IntWalk.u32_in _ (by omega)
    have w1 : IntKind.i64.wrap 1 = 1 := rfl
    have w2 : IntKind.i64.wrap 2 = 2 := rfl
    have w0 : IntKind.i64.wrap 0 = 0 := rfl
    have g7 : 0 ≤ (q : Int) * 2 + 1 := by omega
    have g8 : 0 ≤ (q : Int) * 2 := by omega
    have g5 : (q : Int) * 2 + 1 < 200 := by omega
    have g6 : (q : Int) * 2 < 200 := by omega
    rcases hnd with rfl | rfl
    · have hS : (fun w' : World => True) wr.drew := trivial
      refine wp_region_plan [8, 10] [12, 14] (fun _ => True) (.pure 0 (.pure 1 (.pure 2 (.pure 3 (.pure 4 (.pure 5 (.pure 6 (.pure 7 (.take 8 (.pure 9 (.take 10 (.pure 11 (.go 12 (.pure 13 (.go 14 .done))))))))))))))) hmix (by kernel_rfl) ?_
      repeat (first | (refine plan_move rfl rfl rfl ?_; (try simp only [Act.put, zq1, zq2, zq3, zq4, zq5, zq6])) | (refine plan_pure (v := ?_) rfl rfl ?_ ?_; rotate_left; (intro w'; go_simp <;> with_reducible rfl); (try simp only [Act.put, zq1, zq2, zq3, zq4, zq5, zq6])) | (refine plan_take (v := ?_) rfl hS rfl ?_ ?_; rotate_left; (intro w' hSw; (try dsimp only at hSw); go_simp <;> with_reducible rfl); (try simp only [Act.put, zq1, zq2, zq3, zq4, zq5, zq6])))
      refine plan_goS rfl rfl (fun K hK => ?_)
      go_simp; refine hK _ _ trivial ?_; clear hK K; (try simp only [Act.put, zq1, zq2, zq3, zq4, zq5, zq6])
      refine plan_pure (v := ?_) rfl rfl ?_ ?_; rotate_left; (intro w'; go_simp <;> with_reducible rfl); (try simp only [Act.put, zq1, zq2, zq3, zq4, zq5, zq6])
      refine plan_go rfl (by kernel_rfl) rfl (fun K hK => ?_)
      go_simp; refine hK _ _ ?_; clear hK K; (try simp only [Act.put, zq1, zq2, zq3, zq4, zq5, zq6])
      refine plan_done ?_
      go_wp2
      go_end0
      exact ⟨rfl, ⟨_, (hB.set 2 _).set 1 _, (hU.set 2 _).set 1 _, by simp⟩, (((Fr.refl 0 [] [B] _).setCell (a := ⟨B, 2, none⟩) (Nat.zero_le _) (.inl (by simp)) _).setCell (a := ⟨B, 1, none⟩) (Nat.zero_le _) (.inl (by simp)) _).drew⟩
    · have hS : (fun w' : World => True) wr.drew := trivial
      refine wp_region_plan [8, 10] [12, 14] (fun _ => True) (.pure 0 (.pure 1 (.pure 2 (.pure 3 (.pure 4 (.pure 5 (.pure 6 (.pure 7 (.take 8 (.pure 9 (.take 10 (.pure 11 (.go 12 (.pure 13 (.go 14 .done))))))))))))))) hmix (by kernel_rfl) ?_
      repeat (first | (refine plan_move rfl rfl rfl ?_; (try simp only [Act.put, zq1, zq2, zq3, zq4, zq5, zq6])) | (refine plan_pure (v := ?_) rfl rfl ?_ ?_; rotate_left; (intro w'; go_simp <;> with_reducible rfl); (try simp only [Act.put, zq1, zq2, zq3, zq4, zq5, zq6])) | (refine plan_take (v := ?_) rfl hS rfl ?_ ?_; rotate_left; (intro w' hSw; (try dsimp only at hSw); go_simp <;> with_reducible rfl); (try simp only [Act.put, zq1, zq2, zq3, zq4, zq5, zq6])))
      refine plan_goS rfl rfl (fun K hK => ?_)
      go_simp; refine hK _ _ trivial ?_; clear hK K; (try simp only [Act.put, zq1, zq2, zq3, zq4, zq5, zq6])
      refine plan_pure (v := ?_) rfl rfl ?_ ?_; rotate_left; (intro w'; go_simp <;> with_reducible rfl); (try simp only [Act.put, zq1, zq2, zq3, zq4, zq5, zq6])
      refine plan_go rfl (by kernel_rfl) rfl (fun K hK => ?_)
      go_simp; refine hK _ _ ?_; clear hK K; (try simp only [Act.put, zq1, zq2, zq3, zq4, zq5, zq6])
      refine plan_done ?_
      go_wp2_with (fail)
      go_end0
      exact ⟨rfl, ⟨_, ((hB.set 3 _).set 2 _).set 1 _, ((hU.set 3 _).set 2 _).set 1 49, by simp⟩, ((((Fr.refl 0 [] [B] _).setCell (a := ⟨B, 3, none⟩) (Nat.zero_le _) (.inl (by simp)) _).setCell (a := ⟨B, 2, none⟩) (Nat.zero_le _) (.inl (by simp)) _).drew).setCell (a := ⟨B, 1, none⟩) (Nat.zero_le _) (.inl (by simp)) _⟩

/-- Bytes of a block, read from a place on. -/
theorem dat_all {w : World} {B t i n c : Nat} {cs : Array Value} (hB : Blk w B cs t) (hU : AllU8 cs) (h : i + n ≤ cs.size) : ∃ l : List UInt8, l.length = n ∧ Dat w (.slice (some ⟨B, i, none⟩) n c) l := by
  have : ∀ n, i + n ≤ cs.size → ∃ l : List UInt8, l.length = n ∧ ∀ j b, l[j]? = some b → cs[i + j]? = some (.int .u8 (b.toNat : Int)) := by
    intro n
    induction n with
    | zero => intro _; exact ⟨[], rfl, by simp⟩
    | succ n ih =>
      intro hn
      obtain ⟨l, h1, h2⟩ := ih (by omega)
      obtain ⟨b, hb⟩ := hU (i + n) (by omega)
      refine ⟨l ++ [b], by simp [h1], fun j x hj => ?_⟩
      by_cases hjn : j < n
      · rw [List.getElem?_append_left (by omega)] at hj; exact h2 j x hj
      · have : j = n := by
          have := (List.getElem?_eq_some_iff.1 hj).1
          simp [h1] at this; omega
        subst this
        rw [List.getElem?_append_right (by omega)] at hj
        simp [h1] at hj
        rw [← hj]; exact hb
  obtain ⟨l, h1, h2⟩ := this n h
  refine ⟨l, h1, _, c, by rw [h1], fun j b hj => ?_⟩
  have hadd : (⟨B, i, none⟩ : Addr).add j = ⟨B, i + j, none⟩ := by unfold Addr.add; split <;> simp_all
  rw [hadd, hB.cell]
  exact h2 j b hj

theorem allU8_zeros : AllU8 (Array.replicate 24 (.int .u8 0)) := by
  intro j hj
  exact ⟨0, by rw [Array.getElem?_replicate, if_pos (by simpa using hj)]; rfl⟩

theorem Fr.tab0 {base : Nat} {w w1 : World} (hF : Fr base [] [] w w1) (h : Tab w) : Tab w1 := hF.tab (.inr ⟨rfl, rfl⟩) h

theorem formatInt_c (n : Nat) (hn : n < 120) (w : World) (ht : Tab w) : Calls Tryz.prog 263 #[.int .i64 n, .int .i64 10] w (Short w) := by
  by_cases h100 : n < 100
  · have d1 : decide ((n : Int) < 100) = true := by simp; omega
    go_enter Tryz.func263, Tryz.ntmps263
    go_wp2_with (fail)
    refine (small_c n h100 w).mono ?_
    rintro e w1 ⟨r, rfl, hr, hF⟩
    go_wp2
    go_ret
    exact ⟨r, rfl, hr, hF⟩
  · have d1 : decide ((n : Int) < 100) = false := by simp; omega
    have d2 : decide ((n : Int) < 0) = false := by simp
    have hw : IntKind.u64.wrap (n : Int) = n := IntWalk.u64_in _ (by omega)
    have ht1 : ∀ x, Tab (w.alloc x) := fun x => ((Fr.refl 0 [] [] w).alloc x).tab0 ht
    go_enter Tryz.func263, Tryz.ntmps263
    go_wp2_with (fail)
    refine (numDigits_c n (by omega) hn _ (ht1 _)).mono ?_
    have fin : ∀ (nd : Nat), nd = 2 ∨ nd = 3 → ∀ (w2 : World) (cs' : Array Value), Blk w2 w.heap.size cs' 249 → AllU8 cs' → cs'.size = 24 → ∃ l : List UInt8, l.length = nd ∧ (convert 53 9 (.slice (some ⟨w.heap.size, 1, none⟩) nd 23)).run Tryz.prog w2 = .ok (.string ⟨l.toArray⟩) w2 := by
      intro nd hnd w2 cs' hB hU hsz
      obtain ⟨l, hl, hd⟩ := dat_all (i := 1) (n := nd) (c := 23) hB hU (by omega)
      exact ⟨l, hl, by have := run_string hd; exact this⟩
    rintro e w1 ⟨rfl | rfl, rfl⟩
    · go_wp2_with (fail)
      refine (fmt_c n 2 (by omega) hn (.inl rfl) (Blk.new w (Array.replicate 24 (.int .u8 0)) 249) allU8_zeros (by simp)).mono ?_
      rintro e w2 ⟨rfl, ⟨cs', hB, hU, hsz⟩, hF⟩
      obtain ⟨l, hl, hr⟩ := fin 2 (.inl rfl) w2 cs' hB hU (by simpa using hsz)
      have hlt := hB.lt
      go_wp2_with (fail)
      go_ret
      exact ⟨_, rfl, by show l.toArray.size ≤ 3; simp [hl], ((Fr.refl 0 [] [] w).alloc _).step hF (by simp) (fun b hb => .inr (.inl (by simp at hb; omega)))⟩
    · go_wp2_with (fail)
      refine (fmt_c n 3 (by omega) hn (.inr rfl) (Blk.new w (Array.replicate 24 (.int .u8 0)) 249) allU8_zeros (by simp)).mono ?_
      rintro e w2 ⟨rfl, ⟨cs', hB, hU, hsz⟩, hF⟩
      obtain ⟨l, hl, hr⟩ := fin 3 (.inr rfl) w2 cs' hB hU (by simpa using hsz)
      have hlt := hB.lt
      go_wp2_with (fail)
      go_ret
      exact ⟨_, rfl, by show l.toArray.size ≤ 3; simp [hl], ((Fr.refl 0 [] [] w).alloc _).step hF (by simp) (fun b hb => .inr (.inl (by simp at hb; omega)))⟩

theorem itoa_c (n : Nat) (hn : n < 120) (w : World) (ht : Tab w) : Calls Tryz.prog 257 #[.int .i64 n] w (Short w) := by
  have inner : Calls Tryz.prog 259 #[.int .i64 n] w (Short w) := by
    go_enter Tryz.func259, Tryz.ntmps259
    go_wp2_with (fail)
    refine (formatInt_c n hn w ht).mono ?_
    rintro e w1 ⟨r, rfl, hr, hF⟩
    go_wp2
    go_ret
    exact ⟨r, rfl, hr, hF⟩
  go_enter Tryz.func257, Tryz.ntmps257
  go_wp2_with (fail)
  refine inner.mono ?_
  rintro e w1 ⟨r, rfl, hr, hF⟩
  go_wp2
  go_ret
  exact ⟨r, rfl, hr, hF⟩

theorem back0_c {base : Nat} {w : World} {o k : Nat} (h : Wr base w o k) (n : Nat) (hn : n < 120) (hk : k + 10 ≤ 1000000000) :
    Calls Tryz.prog 234 #[.pointer (some ⟨o, 0, none⟩), .int .i64 n] w (Wrote base o (k + 10) w) := by
  by_cases h0 : n = 0
  · subst h0
    go_enter Tryz.func234, Tryz.ntmps234
    go_wp2
    go_end0
    exact ⟨rfl, h.le (by omega), Fr.refl _ _ _ _⟩
  · obtain ⟨e1, e2⟩ := int_ne (a := (n : Int)) (b := 0) (by omega)
    have d2 : decide ((n : Int) < 0) = false := by simp
    have ht : Tab w := h.2.2.1
    go_enter Tryz.func234, Tryz.ntmps234
    go_wp2_with (fail)
    refine (itoa_c n hn w ht).mono ?_
    rintro e w1 ⟨r, rfl, hr, hF⟩
    have h1 := hF.wr0 h
    go_wp2_with (fail)
    refine (writeRaw_c (h1.alloc _) (Dat.of_blk [27, 91] _ (Blk.new' rfl _ _)) (by simp; omega)).mono ?_
    rintro e w2 ⟨rfl, h2, hF2⟩
    simp only [List.length_cons, List.length_nil] at h2
    go_wp2_with (first | (refine wpList_plain rfl (fun K hK => ?_); refine wp_bytes _ r rfl rfl ?_; intro u2 w3 hD3 hF3; refine hK _ _ ?_; clear hK K))
    have h3 := hF3.wr0 h2
    refine (writeRaw_c h3 hD3 (by simp; omega)).mono ?_
    rintro e w4 ⟨rfl, h4, hF4⟩
    go_wp2_with (fail)
    refine (writeRaw_c (h4.alloc _) (Dat.of_blk [68] _ (Blk.new' rfl _ _)) (by simp; omega)).mono ?_
    rintro e w5 ⟨rfl, h5, hF5⟩
    go_wp2
    go_end0
    refine ⟨rfl, h5.le (by simp; omega), ?_⟩
    exact ((((((Fr.refl _ _ _ _).ext hF).alloc _).into hF2 (by simp) (by simp)).ext hF3).into hF4 (by simp) (by simp)).alloc _ |>.into hF5 (by simp) (by simp)

theorem down0_c {base : Nat} {w : World} {o k : Nat} (h : Wr base w o k) (n : Nat) (hn : n < 120) (hk : k + 10 ≤ 1000000000) :
    Calls Tryz.prog 235 #[.pointer (some ⟨o, 0, none⟩), .int .i64 n] w (Wrote base o (k + 10) w) := by
  by_cases h0 : n = 0
  · subst h0
    go_enter Tryz.func235, Tryz.ntmps235
    go_wp2
    go_end0
    exact ⟨rfl, h.le (by omega), Fr.refl _ _ _ _⟩
  · obtain ⟨e1, e2⟩ := int_ne (a := (n : Int)) (b := 0) (by omega)
    have d2 : decide ((n : Int) < 0) = false := by simp
    have ht : Tab w := h.2.2.1
    go_enter Tryz.func235, Tryz.ntmps235
    go_wp2_with (fail)
    refine (itoa_c n hn w ht).mono ?_
    rintro e w1 ⟨r, rfl, hr, hF⟩
    have h1 := hF.wr0 h
    go_wp2_with (fail)
    refine (writeRaw_c (h1.alloc _) (Dat.of_blk [27, 91] _ (Blk.new' rfl _ _)) (by simp; omega)).mono ?_
    rintro e w2 ⟨rfl, h2, hF2⟩
    simp only [List.length_cons, List.length_nil] at h2
    go_wp2_with (first | (refine wpList_plain rfl (fun K hK => ?_); refine wp_bytes _ r rfl rfl ?_; intro u2 w3 hD3 hF3; refine hK _ _ ?_; clear hK K))
    have h3 := hF3.wr0 h2
    refine (writeRaw_c h3 hD3 (by simp; omega)).mono ?_
    rintro e w4 ⟨rfl, h4, hF4⟩
    go_wp2_with (fail)
    refine (writeRaw_c (h4.alloc _) (Dat.of_blk [66] _ (Blk.new' rfl _ _)) (by simp; omega)).mono ?_
    rintro e w5 ⟨rfl, h5, hF5⟩
    go_wp2
    go_end0
    refine ⟨rfl, h5.le (by simp; omega), ?_⟩
    exact ((((((Fr.refl _ _ _ _).ext hF).alloc _).into hF2 (by simp) (by simp)).ext hF3).into hF4 (by simp) (by simp)).alloc _ |>.into hF5 (by simp) (by simp)

theorem fwd0_c {base : Nat} {w : World} {o k : Nat} (h : Wr base w o k) (n : Nat) (hn : n < 120) (hk : k + 10 ≤ 1000000000) :
    Calls Tryz.prog 236 #[.pointer (some ⟨o, 0, none⟩), .int .i64 n] w (Wrote base o (k + 10) w) := by
  by_cases h0 : n = 0
  · subst h0
    go_enter Tryz.func236, Tryz.ntmps236
    go_wp2
    go_end0
    exact ⟨rfl, h.le (by omega), Fr.refl _ _ _ _⟩
  · obtain ⟨e1, e2⟩ := int_ne (a := (n : Int)) (b := 0) (by omega)
    have d2 : decide ((n : Int) < 0) = false := by simp
    have ht : Tab w := h.2.2.1
    go_enter Tryz.func236, Tryz.ntmps236
    go_wp2_with (fail)
    refine (itoa_c n hn w ht).mono ?_
    rintro e w1 ⟨r, rfl, hr, hF⟩
    have h1 := hF.wr0 h
    go_wp2_with (fail)
    refine (writeRaw_c (h1.alloc _) (Dat.of_blk [27, 91] _ (Blk.new' rfl _ _)) (by simp; omega)).mono ?_
    rintro e w2 ⟨rfl, h2, hF2⟩
    simp only [List.length_cons, List.length_nil] at h2
    go_wp2_with (first | (refine wpList_plain rfl (fun K hK => ?_); refine wp_bytes _ r rfl rfl ?_; intro u2 w3 hD3 hF3; refine hK _ _ ?_; clear hK K))
    have h3 := hF3.wr0 h2
    refine (writeRaw_c h3 hD3 (by simp; omega)).mono ?_
    rintro e w4 ⟨rfl, h4, hF4⟩
    go_wp2_with (fail)
    refine (writeRaw_c (h4.alloc _) (Dat.of_blk [67] _ (Blk.new' rfl _ _)) (by simp; omega)).mono ?_
    rintro e w5 ⟨rfl, h5, hF5⟩
    go_wp2
    go_end0
    refine ⟨rfl, h5.le (by simp; omega), ?_⟩
    exact ((((((Fr.refl _ _ _ _).ext hF).alloc _).into hF2 (by simp) (by simp)).ext hF3).into hF4 (by simp) (by simp)).alloc _ |>.into hF5 (by simp) (by simp)

theorem up0_c {base : Nat} {w : World} {o k : Nat} (h : Wr base w o k) (n : Nat) (hn : n < 120) (hk : k + 10 ≤ 1000000000) :
    Calls Tryz.prog 238 #[.pointer (some ⟨o, 0, none⟩), .int .i64 n] w (Wrote base o (k + 10) w) := by
  by_cases h0 : n = 0
  · subst h0
    go_enter Tryz.func238, Tryz.ntmps238
    go_wp2
    go_end0
    exact ⟨rfl, h.le (by omega), Fr.refl _ _ _ _⟩
  · obtain ⟨e1, e2⟩ := int_ne (a := (n : Int)) (b := 0) (by omega)
    have d2 : decide ((n : Int) < 0) = false := by simp
    have ht : Tab w := h.2.2.1
    go_enter Tryz.func238, Tryz.ntmps238
    go_wp2_with (fail)
    refine (itoa_c n hn w ht).mono ?_
    rintro e w1 ⟨r, rfl, hr, hF⟩
    have h1 := hF.wr0 h
    go_wp2_with (fail)
    refine (writeRaw_c (h1.alloc _) (Dat.of_blk [27, 91] _ (Blk.new' rfl _ _)) (by simp; omega)).mono ?_
    rintro e w2 ⟨rfl, h2, hF2⟩
    simp only [List.length_cons, List.length_nil] at h2
    go_wp2_with (first | (refine wpList_plain rfl (fun K hK => ?_); refine wp_bytes _ r rfl rfl ?_; intro u2 w3 hD3 hF3; refine hK _ _ ?_; clear hK K))
    have h3 := hF3.wr0 h2
    refine (writeRaw_c h3 hD3 (by simp; omega)).mono ?_
    rintro e w4 ⟨rfl, h4, hF4⟩
    go_wp2_with (fail)
    refine (writeRaw_c (h4.alloc _) (Dat.of_blk [65] _ (Blk.new' rfl _ _)) (by simp; omega)).mono ?_
    rintro e w5 ⟨rfl, h5, hF5⟩
    go_wp2
    go_end0
    refine ⟨rfl, h5.le (by simp; omega), ?_⟩
    exact ((((((Fr.refl _ _ _ _).ext hF).alloc _).into hF2 (by simp) (by simp)).ext hF3).into hF4 (by simp) (by simp)).alloc _ |>.into hF5 (by simp) (by simp)

theorem back_c {base : Nat} {w : World} {o k : Nat} (h : Wr base w o k) (n : Int) (h0 : -120 < n) (hn : n < 120) (hk : k + 10 ≤ 1000000000) :
    Calls Tryz.prog 234 #[.pointer (some ⟨o, 0, none⟩), .int .i64 n] w (Wrote base o (k + 10) w) := by
  by_cases hneg : n < 0
  · obtain ⟨e1, e2⟩ := int_ne (a := n) (b := 0) (by omega)
    obtain ⟨m, hm⟩ : ∃ m : Nat, -n = m := ⟨(-n).toNat, by omega⟩
    have d2 : decide (n < 0) = true := by simpa using hneg
    have hw : IntKind.i64.wrap (m : Int) = m := wrap_in (by omega) (by omega)
    go_enter Tryz.func234, Tryz.ntmps234
    go_wp2_with (fail)
    refine (fwd0_c h m (by omega) hk).mono ?_
    rintro e w1 ⟨rfl, h1, hF⟩
    go_wp2
    go_end0
    exact ⟨rfl, h1, hF⟩
  · obtain ⟨m, rfl⟩ : ∃ m : Nat, n = m := ⟨n.toNat, by omega⟩
    exact back0_c h m (by omega) hk

theorem down_c {base : Nat} {w : World} {o k : Nat} (h : Wr base w o k) (n : Int) (h0 : -120 < n) (hn : n < 120) (hk : k + 10 ≤ 1000000000) :
    Calls Tryz.prog 235 #[.pointer (some ⟨o, 0, none⟩), .int .i64 n] w (Wrote base o (k + 10) w) := by
  by_cases hneg : n < 0
  · obtain ⟨e1, e2⟩ := int_ne (a := n) (b := 0) (by omega)
    obtain ⟨m, hm⟩ : ∃ m : Nat, -n = m := ⟨(-n).toNat, by omega⟩
    have d2 : decide (n < 0) = true := by simpa using hneg
    have hw : IntKind.i64.wrap (m : Int) = m := wrap_in (by omega) (by omega)
    go_enter Tryz.func235, Tryz.ntmps235
    go_wp2_with (fail)
    refine (up0_c h m (by omega) hk).mono ?_
    rintro e w1 ⟨rfl, h1, hF⟩
    go_wp2
    go_end0
    exact ⟨rfl, h1, hF⟩
  · obtain ⟨m, rfl⟩ : ∃ m : Nat, n = m := ⟨n.toNat, by omega⟩
    exact down0_c h m (by omega) hk

theorem fwd_c {base : Nat} {w : World} {o k : Nat} (h : Wr base w o k) (n : Int) (h0 : -120 < n) (hn : n < 120) (hk : k + 10 ≤ 1000000000) :
    Calls Tryz.prog 236 #[.pointer (some ⟨o, 0, none⟩), .int .i64 n] w (Wrote base o (k + 10) w) := by
  by_cases hneg : n < 0
  · obtain ⟨e1, e2⟩ := int_ne (a := n) (b := 0) (by omega)
    obtain ⟨m, hm⟩ : ∃ m : Nat, -n = m := ⟨(-n).toNat, by omega⟩
    have d2 : decide (n < 0) = true := by simpa using hneg
    have hw : IntKind.i64.wrap (m : Int) = m := wrap_in (by omega) (by omega)
    go_enter Tryz.func236, Tryz.ntmps236
    go_wp2_with (fail)
    refine (back0_c h m (by omega) hk).mono ?_
    rintro e w1 ⟨rfl, h1, hF⟩
    go_wp2
    go_end0
    exact ⟨rfl, h1, hF⟩
  · obtain ⟨m, rfl⟩ : ∃ m : Nat, n = m := ⟨n.toNat, by omega⟩
    exact fwd0_c h m (by omega) hk

theorem up_c {base : Nat} {w : World} {o k : Nat} (h : Wr base w o k) (n : Int) (h0 : -120 < n) (hn : n < 120) (hk : k + 10 ≤ 1000000000) :
    Calls Tryz.prog 238 #[.pointer (some ⟨o, 0, none⟩), .int .i64 n] w (Wrote base o (k + 10) w) := by
  by_cases hneg : n < 0
  · obtain ⟨e1, e2⟩ := int_ne (a := n) (b := 0) (by omega)
    obtain ⟨m, hm⟩ : ∃ m : Nat, -n = m := ⟨(-n).toNat, by omega⟩
    have d2 : decide (n < 0) = true := by simpa using hneg
    have hw : IntKind.i64.wrap (m : Int) = m := wrap_in (by omega) (by omega)
    go_enter Tryz.func238, Tryz.ntmps238
    go_wp2_with (fail)
    refine (down0_c h m (by omega) hk).mono ?_
    rintro e w1 ⟨rfl, h1, hF⟩
    go_wp2
    go_end0
    exact ⟨rfl, h1, hF⟩
  · obtain ⟨m, rfl⟩ : ∃ m : Nat, n = m := ⟨n.toNat, by omega⟩
    exact up0_c h m (by omega) hk
end Go.Proofs.YtiepopbmbgfhkaaGreat
