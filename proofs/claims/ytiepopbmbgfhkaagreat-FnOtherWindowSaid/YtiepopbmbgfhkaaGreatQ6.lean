/-
  Colours.
  SetDisplayAttributes, SetColor.
-/
import Derived.Test.YtiepopbmbgfhkaaGreatQ5
import Derived.Defers
namespace Go.Proofs.YtiepopbmbgfhkaaGreat
open Go.RowKit
set_option maxHeartbeats 1000000
set_option maxRecDepth 20000
set_option linter.unusedVariables false
set_option linter.unusedSimpArgs false

def u8b : Value → Bool
  | .int .u8 n => decide (0 ≤ n) && decide (n < 256)
  | _ => false
theorem u8b_of {v : Value} (h : u8b v = true) : ∃ b : UInt8, v = .int .u8 (b.toNat : Int) := by
  cases v with
  | int k n =>
    cases k <;> simp [u8b] at h
    refine ⟨UInt8.ofNat n.toNat, ?_⟩
    congr 1
    have : (UInt8.ofNat n.toNat).toNat = n.toNat := by rw [UInt8.toNat_ofNat']; omega
    omega
  | _ => simp [u8b] at h
theorem allU8_of {cs : Array Value} (h : cs.all u8b = true) : AllU8 cs := by
  intro j hj
  rw [Array.all_eq_true] at h
  obtain ⟨b, hb⟩ := u8b_of (h j hj)
  exact ⟨b, by rw [Array.getElem?_eq_getElem hj, hb]⟩

/-- New bytes that are returned, and true. -/
def Coded (w : World) (e : Ending) (w' : World) : Prop := ∃ u l, e = .returned (.tuple #[u, .bool true]) ∧ Dat w' u l ∧ l.length ≤ 3 ∧ Fr 0 [] [] w w' ∧ ∃ a n c, u = .slice a n c
theorem coded_of {w : World} {cs : Array Value} {n c : Nat} (hn : n = cs.size) (h3 : n ≤ 3) (hU : cs.all u8b = true) :
    Coded w (.returned (.tuple #[.slice (some ⟨w.heap.size, 0, none⟩) n c, .bool true])) (w.alloc (.cells cs 5)) := by
  obtain ⟨l, hl, hd⟩ := dat_all (i := 0) (n := n) (c := c) (Blk.new w cs 5) (allU8_of hU) (by omega)
  exact ⟨_, l, rfl, hd, by omega, (Fr.refl _ _ _ _).alloc _, _, _, _, rfl⟩

theorem fore_c (x : Nat) (hx : x < 17) (w : World) : Calls Tryz.prog 261 #[.int .i64 x] w (Coded w) := by
  rcases x with _ | _ | _ | _ | _ | _ | _ | _ | _ | _ | _ | _ | _ | _ | _ | _ | _ | x
  all_goals first
    | omega
    | (go_enter Tryz.func261, Tryz.ntmps261
       go_wp2
       go_ret2
       exact coded_of rfl (by decide) (by kernel_rfl))
theorem bgnd_c (x : Nat) (hx : x < 17) (w : World) : Calls Tryz.prog 262 #[.int .i64 x] w (Coded w) := by
  rcases x with _ | _ | _ | _ | _ | _ | _ | _ | _ | _ | _ | _ | _ | _ | _ | _ | _ | x
  all_goals first
    | omega
    | (go_enter Tryz.func262, Tryz.ntmps262
       go_wp2
       go_ret2
       exact coded_of rfl (by decide) (by kernel_rfl))
theorem attr_c (x : Nat) (hx : x < 2) (w : World) : Calls Tryz.prog 260 #[.int .i64 x] w (Coded w) := by
  rcases x with _ | _ | x
  all_goals first
    | omega
    | (go_enter Tryz.func260, Tryz.ntmps260
       go_wp2
       go_ret2
       exact coded_of rfl (by decide) (by kernel_rfl))
end Go.Proofs.YtiepopbmbgfhkaaGreat

namespace Go.Proofs.YtiepopbmbgfhkaaGreat
open Go.RowKit
set_option maxHeartbeats 1000000
set_option maxRecDepth 20000
set_option linter.unusedVariables false
set_option linter.unusedSimpArgs false

/-- WriteRaw as it is deferred. -/
theorem writeRaw_d {base : Nat} {w : World} {o n : Nat} {u : Value} {m : List UInt8} {md : FrameMode} (h : Wr base w o n) (hd : Dat w u m) (hn : n + m.length ≤ 10000000000) :
    CallsD Tryz.prog 254 #[.pointer (some ⟨o, 0, none⟩), u] md w fun e u' w' => u' = md ∧ Wrote base o (n + m.length) w e w' := by
  obtain ⟨h0, h1, ht, v, l, h2, h3, h4⟩ := h
  obtain ⟨c0, -⟩ := h2.c1
  have hlt := h2.lt
  go_enter_d Tryz.func254, Tryz.ntmps254
  go_wp2_with (first | (refine wpList_plain rfl (fun K hK => ?_); refine wp_app _ _ rfl rfl rfl h3 hd (by omega) (by omega) ?_; intro pp pk pc w1 hB hF hG; refine hK _ _ ?_; clear hK K; have g2 := hF.blk h2 (.inr ⟨by simp, by simp⟩); obtain ⟨d0, df⟩ := g2.c1; have glt := g2.lt))
  go_end0
  have hF' : Fr base [5, 143] [] w w1 := hF.mono (by simp) (by simp)
  have hF2 := hF'.setCell (a := ⟨o, 0, none⟩) h1 (.inr (.inr ⟨_, _, g2, by simp⟩)) (.slice pp pk pc)
  refine ⟨rfl, ⟨h0, h1, hF2.tab (.inl h0) ht, _, l ++ m, g2.set 0 _, ?_, by simp; omega⟩, hF2⟩
  exact ((Fr.refl 0 [] [o] w1).setCell (a := ⟨o, 0, none⟩) (Nat.zero_le _) (.inl (by simp)) _).bys hB (by simp) fun b hb => by
      simp only [List.mem_singleton] at hb; subst hb; exact ⟨_, _, g2, by decide⟩

theorem Wr.notRow {base : Nat} {w : World} {o n : Nat} (h : Wr base w o n) (x : Obj) : ¬ RowOf (w.alloc x) o w.heap.size := by
  obtain ⟨h0, h1, ht, v, l, h2, h3, h4⟩ := h
  rintro ⟨v', hc, hv⟩
  have := (h2.alloc x).cell 0
  rw [hc] at this
  simp at this
  subst this
  obtain ⟨-, cs, hB⟩ := row_blk h3 _ hv
  have := hB.lt
  omega

theorem setAttrs_c {base : Nat} {w : World} {o n A : Nat} {f b x : Nat} (h : Wr base w o n) (hA : Blk w A #[.int .i64 x] 243) (hf : f < 17) (hb : b < 17) (hx : x < 2) (hn : n + 30 ≤ 1000000000) :
    Calls Tryz.prog 258 #[.pointer (some ⟨o, 0, none⟩), .int .i64 f, .int .i64 b, .slice (some ⟨A, 0, none⟩) 1 1] w (Wrote base o (n + 30) w) := by
  obtain ⟨hlt, hbo, hb1⟩ := h.lt
  have hAo : A ≠ o := by
    obtain ⟨h0, h1, ht, v, l, h2, h3, h4⟩ := h
    exact hA.ne h2 (by decide)
  go_enter_defers Tryz.func258, Tryz.ntmps258
  go_wp2_with (fail)
  refine (writeRaw_c (h.alloc _) (Dat.of_blk [27, 91] _ (Blk.new' rfl _ _)) (by simp; omega)).mono ?_
  rintro e w1 ⟨rfl, h1, hF1⟩
  replace hF1 := ((Fr.refl base [5, 143] [] w).alloc _).into hF1 (by simp) (by simp)
  replace h1 : Wr base w1 o (n + 2) := h1
  have hM : Dat (w1.alloc (.cells #[.int .u8 109] 5)) (.slice (some ⟨w1.heap.size, 0, none⟩) 1 1) [109] := Dat.of_blk [109] 1 (Blk.new w1 _ 5)
  have hMr := h1.notRow (.cells #[.int .u8 109] 5)
  have h2 := h1.alloc (.cells #[.int .u8 109] 5)
  have hF2 := hF1.alloc (.cells #[.int .u8 109] 5)
  have hMlt : w1.heap.size < (w1.alloc (.cells #[.int .u8 109] 5)).heap.size := by simp
  have hMo : w1.heap.size ≠ o := by have := h1.lt.1; omega
  obtain ⟨M, hMM⟩ : ∃ M, w1.heap.size = M := ⟨_, rfl⟩
  go_wp2_with (fail)
  obtain ⟨W, hW⟩ : ∃ W, w1.alloc (.cells #[.int .u8 109] 5) = W := ⟨_, rfl⟩
  rw [hW] at hM hMr h2 hF2 hMlt ⊢
  rw [hMM] at hM hMr hMlt hMo
  go_loopw [22] (fun v22 w' => ∃ i : Nat, i ≤ 1 ∧ v22 = .int .i64 i ∧ Wr base w' o (n + 2 + 4 * i) ∧ Fr base [5, 143] [] w w' ∧ Keeps o W w') (fun v22 _ => 1 - (intOf v22).toNat)
  case atStart => exact ⟨0, by omega, rfl, h2, hF2, Nat.le_refl _, fun k hk _ hr => ⟨rfl, hr⟩⟩
  case round =>
    obtain ⟨i, hi, rfl, h3, hF3, hK3⟩ := hrel
    have hA3 := hF3.blk hA (.inr ⟨by simp, by simp⟩)
    rcases i with _ | _ | i
    · obtain ⟨a0, -⟩ := hA3.c1
      have alt := hA3.lt
      go_wp2_with (fail)
      refine (attr_c x hx wr).mono ?_
      rintro e w4 ⟨u, l, rfl, hD4, hl4, hF4, ua, un, uc, rfl⟩
      have h4 := hF4.wr0 h3
      have hK4 := hK3.trans (Keeps.fr hF4 h3.lt.1)
      go_wp2_with (fail)
      refine (writeRaw_k h4 hD4 (by omega)).mono ?_
      rintro e w5 ⟨⟨rfl, h5, hF5⟩, hK5⟩
      go_wp2_with (fail)
      refine (writeRaw_k (h5.alloc _) (Dat.of_blk [59] _ (Blk.new' rfl _ _)) (by simp; omega)).mono ?_
      rintro e w6 ⟨⟨rfl, h6, hF6⟩, hK6⟩
      go_wp2
      go_roundw
      case rel =>
        refine ⟨1, by omega, rfl, h6.le (by simp; omega), (((hF3.ext hF4).into hF5 (by simp) (by simp)).alloc _).into hF6 (by simp) (by simp), ((hK4.trans hK5).trans (Keeps.fr ((Fr.refl 0 [] [] _).alloc _) h5.lt.1)).trans hK6⟩
      case measure => simp [intOf]
    · go_wp2_with (fail)
      refine (fore_c f hf wr).mono ?_
      rintro e w4 ⟨u, l, rfl, hD4, hl4, hF4, ua, un, uc, rfl⟩
      have h4 := hF4.wr0 h3
      have hK4 := hK3.trans (Keeps.fr hF4 h3.lt.1)
      go_wp2_with (fail)
      refine (writeRaw_k h4 hD4 (by omega)).mono ?_
      rintro e w5 ⟨⟨rfl, h5, hF5⟩, hK5⟩
      go_wp2_with (fail)
      refine (writeRaw_k (h5.alloc _) (Dat.of_blk [59] _ (Blk.new' rfl _ _)) (by simp; omega)).mono ?_
      rintro e w6 ⟨⟨rfl, h6, hF6⟩, hK6⟩
      have hF6' := (((hF3.ext hF4).into hF5 (by simp) (by simp)).alloc _).into hF6 (by simp) (by simp)
      have hK6' := ((hK4.trans hK5).trans (Keeps.fr ((Fr.refl 0 [] [] _).alloc _) h5.lt.1)).trans hK6
      go_wp2_with (fail)
      refine (bgnd_c b hb w6).mono ?_
      rintro e w7 ⟨u7, l7, rfl, hD7, hl7, hF7, ua7, un7, uc7, rfl⟩
      have h7 := hF7.wr0 h6
      have hK7 := hK6'.trans (Keeps.fr hF7 h6.lt.1)
      go_wp2_with (fail)
      refine (writeRaw_k h7 hD7 (by simp; omega)).mono ?_
      rintro e w8 ⟨⟨rfl, h8, hF8⟩, hK8⟩
      have hK9 := (hK7.trans hK8).2 M hMlt hMo hMr
      have hM8 : Dat w8 (.slice (some ⟨M, 0, none⟩) 1 1) [109] := by
        obtain ⟨a, c, e1, e2⟩ := hM
        refine ⟨a, c, e1, fun j bb hj => ?_⟩
        have := e2 j bb hj
        simp only [Value.slice.injEq, Option.some.injEq] at e1
        obtain ⟨rfl, -⟩ := e1
        rw [add_at] at this ⊢
        rw [World.cell?_of_block (w := W) hK9.1]
        exact this
      go_wp2_with (fail)
      refine leaves_cons (f := 254) (args := #[.pointer (some ⟨o, 0, none⟩), .slice (some ⟨M, 0, none⟩) 1 1]) (by simp) (by simp [go_sem]) ?_
      refine (writeRaw_d h8 hM8 (by simp; omega)).mono ?_
      rintro e u' w9 ⟨rfl, rfl, h9, hF9⟩
      refine ⟨_, results_none rfl _ _ _, rfl, h9.le (by simp; omega), ?_⟩
      exact ((hF6'.ext hF7).into hF8 (by simp) (by simp)).into hF9 (by simp) (by simp)
    · omega

theorem setColor_c {base : Nat} {w : World} {o n : Nat} {f b : Nat} {bold : Bool} (h : Wr base w o n) (hf : f < 17) (hb : b < 17) (hn : n + 30 ≤ 1000000000) :
    Calls Tryz.prog 249 #[.pointer (some ⟨o, 0, none⟩), .int .i64 f, .int .i64 b, .bool bold] w (Wrote base o (n + 30) w) := by
  cases bold
  · go_enter Tryz.func249, Tryz.ntmps249
    go_wp2_with (fail)
    refine (setAttrs_c (x := 0) (h.alloc _) (Blk.new' rfl _ _) hf hb (by omega) hn).mono ?_
    rintro e w1 ⟨rfl, h1, hF1⟩
    go_wp2
    go_end0
    exact ⟨rfl, h1, ((Fr.refl _ _ _ _).alloc _).into hF1 (by simp) (by simp)⟩
  · go_enter Tryz.func249, Tryz.ntmps249
    go_wp2_with (fail)
    refine (setAttrs_c (x := 1) (h.alloc _) (Blk.new' rfl _ _) hf hb (by omega) hn).mono ?_
    rintro e w1 ⟨rfl, h1, hF1⟩
    go_wp2
    go_end0
    exact ⟨rfl, h1, ((Fr.refl _ _ _ _).alloc _).into hF1 (by simp) (by simp)⟩
end Go.Proofs.YtiepopbmbgfhkaaGreat
