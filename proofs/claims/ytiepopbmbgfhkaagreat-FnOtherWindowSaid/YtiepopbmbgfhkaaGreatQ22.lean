/-
  A prompt is made: Begin.
  A prompt's options.
-/
import Derived.Test.YtiepopbmbgfhkaaGreatQ21
namespace Go.Proofs.YtiepopbmbgfhkaaGreat
open Go.RowKit
set_option maxHeartbeats 2000000
set_option maxRecDepth 20000
set_option linter.unusedVariables false
set_option linter.unusedSimpArgs false

def emacsT : ByteArray := ⟨#[101, 109, 97, 99, 115]⟩
def commonT : ByteArray := ⟨#[99, 111, 109, 109, 111, 110]⟩

theorem newHist_c (w : World) : Calls Tryz.prog 69 #[] w fun e w' => (∃ h gh gt, e = .returned (.pointer (some ⟨h, 0, none⟩)) ∧ Hist w.heap.size w' h gh gt [] [.empty] 0) ∧ Fr 0 [] [] w w' := by
  go_enter Tryz.func69, Tryz.ntmps69
  go_wp2_with (fail)
  go_ret
  refine ⟨⟨_, w.heap.size, w.heap.size + 1, rfl, by omega, by omega, by omega, by omega, _, _, Blk.new' (by simp) _ _, ⟨0, #[], rfl, ((Blk.new w _ _).alloc _).alloc _, by simp, by simp [maxLen], rfl, rfl⟩, ⟨1, #[.string .empty], rfl, (Blk.new' (by simp) _ _).alloc _, by simp, by simp [maxLen], rfl, rfl⟩⟩, (((Fr.refl _ _ _ _).alloc _).alloc _).alloc _⟩

theorem newCm_c (w : World) (sb oc most : Nat) : Calls Tryz.prog 70 #[.func (.func 38) #[] #[.pointer (some ⟨sb, 0, none⟩), .pointer (some ⟨oc, 0, none⟩)], .int .u16 most] w fun e w' =>
    (∃ c, e = .returned (.pointer (some ⟨c, 0, none⟩)) ∧ w.heap.size ≤ c ∧ Blk w' c (cmCells ⟨sb, oc, most, .empty, false, []⟩ (-1) 0 (.slice none 0 0)) 87) ∧ Fr 0 [] [] w w' := by
  go_enter Tryz.func70, Tryz.ntmps70
  go_wp2_with (fail)
  go_ret
  exact ⟨⟨_, rfl, Nat.le_refl _, Blk.new w _ _⟩, (Fr.refl _ _ _ _).alloc _⟩

/-- What 'Begin' leaves. -/
structure Made (N : Nat) (w' : World) (p b r o L h gh gt c lb sb oc most : Nat) (pre : ByteArray) (cols : Nat) : Prop where
  pr : Blk w' p (prCells b r lb h c emacsT false .nilFunc) 96
  np : N ≤ p
  rn : Rn N w' r o pre cols 0
  buf : Buf N w' b L .empty 0
  hist : Hist N w' h gh gt [] [.empty] 0
  cm : Blk w' c (cmCells ⟨sb, oc, most, .empty, false, []⟩ (-1) 0 (.slice none 0 0)) 87
  nc : N ≤ c
  a1 : L ≠ gh
  a2 : L ≠ gt

theorem begin_c (w : World) (hb : 1 < w.heap.size) (ht : Tab w) (lb sb oc most cols : Nat) (pre : ByteArray) :
    Calls Tryz.prog 43 #[.func (.func 41) #[] #[.pointer (some ⟨lb, 0, none⟩)], .func (.func 38) #[] #[.pointer (some ⟨sb, 0, none⟩), .pointer (some ⟨oc, 0, none⟩)], .string pre, .int .u16 most, .int .u16 cols, .int .u16 1000] w fun e w' =>
      (∃ p b r o L h gh gt c, e = .returned (.pointer (some ⟨p, 0, none⟩)) ∧ Made w.heap.size w' p b r o L h gh gt c lb sb oc most pre cols) ∧ Fr 0 [] [] w w' := by
  go_enter Tryz.func43, Tryz.ntmps43
  go_wp2_with (fail)
  refine (newRender_c w hb ht pre cols).mono ?_
  rintro e w1 ⟨r, o, rfl, hR1, hF1⟩
  go_wp2_with (fail)
  refine (newBuffer_c w1).mono ?_
  rintro e w2 ⟨b, L, rfl, hL, hbL, hB2, hF2⟩
  have hsz1 := hF1.size
  have hsz2 := hF2.size
  have hB2' := hB2.base hsz1
  have hlt := hB2.cells
  clear hL hbL
  go_wp2_with (fail)
  refine (newHist_c w2).mono ?_
  rintro e w3 ⟨⟨h, gh, gt, rfl, hH3⟩, hF3⟩
  have hsz3 := hF3.size
  have hlt3 := hH3.lts
  go_wp2_with (fail)
  refine (newCm_c w3 sb oc most).mono ?_
  rintro e w4 ⟨⟨c, rfl, hc, hC4⟩, hF4⟩
  have hsz4 := hF4.size
  have hn1 : L < w2.heap.size ∧ w2.heap.size ≤ gh ∧ w2.heap.size ≤ gt := ⟨hlt.2.2.2.1, hH3.2.1, hH3.2.2.1⟩
  have hH3' : Hist w.heap.size w3 h gh gt [] [.empty] 0 := by
    obtain ⟨e1, e2, e3, e4, r⟩ := hH3
    exact ⟨by omega, by omega, by omega, e4, r⟩
  clear hlt hlt3
  go_wp2_with (fail)
  go_ret
  have hFx := (Fr.refl 0 [] [] w4).alloc (.cells (prCells b r lb h c emacsT false .nilFunc) 96)
  exact ⟨⟨_, b, r, o, L, h, gh, gt, c, rfl, ⟨Blk.new w4 _ _, by omega, hFx.rn0 (hF4.rn0 (hF3.rn0 (hF2.rn0 hR1))), hFx.buf0 (hF4.buf0 (hF3.buf0 hB2')), (hH3'.fr0 hF4).fr0 hFx, hFx.blk0 hC4, by omega, by omega, by omega⟩⟩, ((((hF1.fresh).ext hF2).ext hF3).ext hF4).trans hFx⟩
end Go.Proofs.YtiepopbmbgfhkaaGreat

namespace Go.Proofs.YtiepopbmbgfhkaaGreat
open Go.RowKit
set_option maxHeartbeats 2000000
set_option maxRecDepth 20000
set_option linter.unusedVariables false
set_option linter.unusedSimpArgs false

/-- What 'Options' leaves. -/
structure Set0 (N : Nat) (w' : World) (p b r o L h gh gt c lb sb oc most : Nat) (pre : ByteArray) (cols : Nat) (down start : Bool) (sep begun mode : ByteArray) (ex : Value) (hs : List ByteArray) : Prop where
  pr : Blk w' p (prCells b r lb h c mode down ex) 96
  np : N ≤ p
  rn : Rn N w' r o pre cols 0
  buf : Buf N w' b L begun begun.size
  hist : Hist N w' h gh gt hs (hs ++ [.empty]) hs.length
  cm : Blk w' c (cmCells ⟨sb, oc, most, sep, start, []⟩ (-1) 0 (.slice none 0 0)) 87
  nc : N ≤ c
  a1 : L ≠ gh
  a2 : L ≠ gt

/-- What 'Options' may change. -/
def TO : List Nat := [96, 87, 118, 121, 9]
theorem Fr.typesO {base : Nat} {ts bs : List Nat} {w w1 : World} (h : Fr base ts bs w w1) (ht : ts ⊆ TO) (hb : ∀ x ∈ bs, w.heap.size ≤ x ∨ ∃ cs t, Blk w x cs t ∧ t ∈ TO) : Fr base TO [] w w1 :=
  ⟨h.os, h.tape, h.output, h.size, fun k hk hc => h.keep k hk (hc.imp id fun ⟨h1, h2⟩ => ⟨fun hm => by
    rcases hb k hm with e | ⟨cs, t, e1, e2⟩
    · omega
    · exact h2 cs t (0, 0) e1 e2, fun cs t fr e hm => h2 cs t fr e (ht hm)⟩)⟩
def optW (w : World) (p c h : Nat) (down start : Bool) (sep : ByteArray) (hv : Value) : World :=
  (((w.setCell ⟨p, 8, none⟩ (.bool down)).setCell ⟨c, 6, none⟩ (.bool start)).setCell ⟨c, 5, none⟩ (.string sep)).setCell ⟨h, 0, none⟩ hv
structure OptPrep (N : Nat) (w w4 : World) (p b r o L h g c lb sb oc most : Nat) (pre : ByteArray) (cols : Nat) (down start : Bool) (sep : ByteArray) (hs : List ByteArray) : Prop where
  pr : Blk w4 p (prCells b r lb h c emacsT down .nilFunc) 96
  cm : Blk w4 c (cmCells ⟨sb, oc, most, sep, start, []⟩ (-1) 0 (.slice none 0 0)) 87
  hb : ∃ cs, Blk w4 h cs 118
  fr : Fr N TO [] w w4
  rn : Rn N w4 r o pre cols 0
  buf : Buf N w4 b L .empty 0
  cl : Calls Tryz.prog 71 #[.pointer (some ⟨h, 0, none⟩)] w4 fun e w' => e = .returned (.tuple #[]) ∧ (∃ gt', w4.heap.size ≤ gt' ∧ Hist N w' h g gt' hs (hs ++ [.empty]) hs.length) ∧ Fr N [] [h] w4 w'

theorem blk_other {w : World} {b g : Nat} {cs ds : Array Value} {t s : TypeId} (h : Blk w b cs t) (k : Blk w g ds s) (hst : t ≠ s) (i : Nat) (v : Value) : Blk (w.setCell ⟨g, i, none⟩ v) b cs t := h.other (a := ⟨g, i, none⟩) (h.ne k hst) v

theorem opt_prep {N : Nat} {w : World} {p b r o L h gh gt c lb sb oc most cols g : Nat} {pre sep : ByteArray} {down start : Bool} {hv : Value} {hs : List ByteArray}
    (M : Made N w p b r o L h gh gt c lb sb oc most pre cols) (hH : SRow w g hv hs) (hg : N ≤ g) (hLg : L ≠ g) (hhs : hs.length ≤ 1000) :
    ∃ cap, hv = .slice (some ⟨g, 0, none⟩) hs.length cap ∧ OptPrep N w (optW w p c h down start sep (.slice (some ⟨g, 0, none⟩) hs.length cap)) p b r o L h g c lb sb oc most pre cols down start sep hs := by
  obtain ⟨mp, np, mr, mb, mh, mc, nc, a1, a2⟩ := M
  obtain ⟨h1, h2, h3, h4, vh, vt, hhB, hhH, hhT⟩ := mh
  obtain ⟨cap, rfl, hcap⟩ := hH.form
  obtain ⟨capt, rfl, -⟩ := hhT.form
  obtain ⟨⟨csb, mbB⟩, csL, mL⟩ := mb.blk
  obtain ⟨pc0, hpc0, C0, mrB, hbr0⟩ := mr.ren
  -- the worlds behind the stores
  have p1 := mp.set 8 (.bool down)
  have c1 := blk_other mc mp (by decide) 8 (.bool down)
  have x1 := blk_other hhB mp (by decide) 8 (.bool down)
  have k1 := hH.fr (ts := []) (bs := [p]) (base := N) ((Fr.refl N [] [p] w).setCell (a := ⟨p, 8, none⟩) np (.inl (by simp)) (.bool down)) (.inr ⟨by simp only [List.mem_singleton]; exact hH.blk.choose_spec.ne mp (by decide), by simp⟩)
  have F1 : Fr N TO [] w (w.setCell ⟨p, 8, none⟩ (.bool down)) := (Fr.refl N TO [] w).setCell (a := ⟨p, 8, none⟩) np (.inr (.inr ⟨_, _, mp, by simp [TO]⟩)) _
  have r1 : Rn N (w.setCell ⟨p, 8, none⟩ (.bool down)) r o pre cols 0 := mr.fr (ts := []) (bs := [p]) ((Fr.refl N [] [p] w).setCell (a := ⟨p, 8, none⟩) np (.inl (by simp)) (.bool down)) (by simp) (fun y hy => by simp only [List.mem_singleton] at hy; subst hy; exact ⟨_, 96, mp, by decide, by decide, by decide⟩)
  have b1 : Buf N (w.setCell ⟨p, 8, none⟩ (.bool down)) b L .empty 0 := mb.frB (ts := []) (bs := [p]) ((Fr.refl N [] [p] w).setCell (a := ⟨p, 8, none⟩) np (.inl (by simp)) (.bool down)) (by simp) (fun y hy => by simp only [List.mem_singleton] at hy; subst hy; exact ⟨_, 96, mp, by decide, by decide, by decide⟩)
  have fc : ∀ (W : World) (cs : Array Value) (i : Nat) (v : Value), Blk W c cs 87 → Fr N [] [c] W (W.setCell ⟨c, i, none⟩ v) := fun W cs i v hB => (Fr.refl N [] [c] W).setCell (a := ⟨c, i, none⟩) nc (.inl (by simp)) v
  have p2 := blk_other p1 c1 (by decide) 6 (.bool start)
  have c2 := c1.set 6 (.bool start)
  have x2 := blk_other x1 c1 (by decide) 6 (.bool start)
  have k2 := k1.fr (fc _ _ 6 (.bool start) c1) (.inr ⟨by simp only [List.mem_singleton]; exact k1.blk.choose_spec.ne c1 (by decide), by simp⟩)
  have F2 := F1.setCell (a := ⟨c, 6, none⟩) nc (.inr (.inr ⟨_, _, c1, by simp [TO]⟩)) (.bool start)
  have r2 := r1.fr (fc _ _ 6 (.bool start) c1) (by simp) (fun y hy => by simp only [List.mem_singleton] at hy; subst hy; exact ⟨_, 87, c1, by decide, by decide, by decide⟩)
  have b2 := b1.frB (fc _ _ 6 (.bool start) c1) (by simp) (fun y hy => by simp only [List.mem_singleton] at hy; subst hy; exact ⟨_, 87, c1, by decide, by decide, by decide⟩)
  have p3 := blk_other p2 c2 (by decide) 5 (.string sep)
  have c3 := c2.set 5 (.string sep)
  have x3 := blk_other x2 c2 (by decide) 5 (.string sep)
  have k3 := k2.fr (fc _ _ 5 (.string sep) c2) (.inr ⟨by simp only [List.mem_singleton]; exact k2.blk.choose_spec.ne c2 (by decide), by simp⟩)
  have F3 := F2.setCell (a := ⟨c, 5, none⟩) nc (.inr (.inr ⟨_, _, c2, by simp [TO]⟩)) (.string sep)
  have r3 := r2.fr (fc _ _ 5 (.string sep) c2) (by simp) (fun y hy => by simp only [List.mem_singleton] at hy; subst hy; exact ⟨_, 87, c2, by decide, by decide, by decide⟩)
  have b3 := b2.frB (fc _ _ 5 (.string sep) c2) (by simp) (fun y hy => by simp only [List.mem_singleton] at hy; subst hy; exact ⟨_, 87, c2, by decide, by decide, by decide⟩)
  have fh : ∀ W3 : World, Fr N [] [h] W3 (W3.setCell ⟨h, 0, none⟩ (.slice (some ⟨g, 0, none⟩) hs.length cap)) := fun W3 => (Fr.refl N [] [h] W3).setCell (a := ⟨h, 0, none⟩) h1 (.inl (by simp)) _
  have p4 := blk_other p3 x3 (by decide) 0 (.slice (some ⟨g, 0, none⟩) hs.length cap)
  have c4 := blk_other c3 x3 (by decide) 0 (.slice (some ⟨g, 0, none⟩) hs.length cap)
  have x4 := x3.set 0 (.slice (some ⟨g, 0, none⟩) hs.length cap)
  have k4 := k3.fr (fh _) (.inr ⟨by simp only [List.mem_singleton]; exact k3.blk.choose_spec.ne x3 (by decide), by simp⟩)
  have F4 := F3.setCell (a := ⟨h, 0, none⟩) h1 (.inr (.inr ⟨_, _, x3, by simp [TO]⟩)) (.slice (some ⟨g, 0, none⟩) hs.length cap)
  have r4 := r3.fr (fh _) (by simp) (fun y hy => by simp only [List.mem_singleton] at hy; subst hy; exact ⟨_, 118, x3, by decide, by decide, by decide⟩)
  have b4 := b3.frB (fh _) (by simp) (fun y hy => by simp only [List.mem_singleton] at hy; subst hy; exact ⟨_, 118, x3, by decide, by decide, by decide⟩)
  have hcl := hClear_c (vh := .slice (some ⟨g, 0, none⟩) hs.length cap) h1 hg x4 k4 ⟨_, _, _, rfl⟩ (by omega)
  exact ⟨cap, rfl, ⟨p4, c4, ⟨_, x4⟩, F4, r4, b4, hcl⟩⟩

theorem options_c {N : Nat} {w : World} {p b r o L h gh gt c lb sb oc most cols g : Nat} {pre sep begun mode : ByteArray} {down start : Bool} {ex hv : Value} {hs : List ByteArray}
    (M : Made N w p b r o L h gh gt c lb sb oc most pre cols) (hH : SRow w g hv hs) (hg : N ≤ g) (hLg : L ≠ g) (hhs : hs.length ≤ 1000) (hbp : Prn begun) (hbs : begun.size ≤ 1000) (hex : ex = .nilFunc ∨ ∃ f x y, ex = .func f x y) :
    Calls Tryz.prog 44 #[.pointer (some ⟨p, 0, none⟩), .bool down, .bool start, .string sep, hv, .string begun, .string mode, ex] w fun e w' =>
      e = .returned (.tuple #[]) ∧ (∃ gt', Set0 N w' p b r o L h g gt' c lb sb oc most pre cols down start sep begun mode ex hs) ∧ Fr N TO [] w w' := by
  have hpr := opt_prep (sep := sep) (down := down) (start := start) M hH hg hLg hhs
  obtain ⟨cap, rfl, hpr⟩ := hpr
  obtain ⟨mp, np, mr, mb, mh, mc, nc, a1, a2⟩ := M
  obtain ⟨h1, h2, h3, h4, vh, vt, hhB, hhH, hhT⟩ := mh
  obtain ⟨y0, y1, y2, y3, y4, y5, y6, y7, y8, y9, yf, yl⟩ := prC mp
  have yf8 := mp.frozen 8
  have cf6 := mc.frozen 6
  have cf5 := mc.frozen 5
  have cl0 := mc.lt
  have cc5 : w.cell? ⟨c, 5, none⟩ = some (.string .empty) := mc.cell 5
  have cc6 : w.cell? ⟨c, 6, none⟩ = some (.bool false) := mc.cell 6
  have xc0 : w.cell? ⟨h, 0, none⟩ = some vh := hhB.cell 0
  have xf0 := hhB.frozen 0
  have xl0 := hhB.lt
  have n1 := mp.ne mc (by decide)
  have n2 := n1.symm
  have n3 := mp.ne hhB (by decide)
  have n4 := n3.symm
  have n5 := mc.ne hhB (by decide)
  have n6 := n5.symm
  have HP := Lib.hid hpr
  clear hpr mp mr mb mc hhB hhH hhT hH
  unfold optW at HP
  go_enter Tryz.func44, Tryz.ntmps44
  go_wp2_with (fail)
  refine HP.out.cl.mono ?_
  rintro e w5 ⟨rfl, ⟨gt', hgt', hH5⟩, hF5⟩
  obtain ⟨q1, q2, q3, q4, q5, q6, -⟩ := HP.out
  clear y0 y1 y2 y3 y4 y5 y6 y7 y8 y9 yf yl yf8 cf6 cf5 cc5 cc6 xc0 cl0 xf0 xl0
  have p5 := hF5.blk q1 (.inr ⟨by simp only [List.mem_singleton]; exact n3, by simp⟩)
  have c5 := hF5.blk q2 (.inr ⟨by simp only [List.mem_singleton]; exact n5, by simp⟩)
  obtain ⟨⟨csb, hb4⟩, csL, hL4⟩ := q6.blk
  obtain ⟨csh, hh4⟩ := q3
  have thb : ∀ (P : Nat → Prop), P 118 → ∀ y ∈ [h], ∃ cs t, Blk _ y cs t ∧ P t := fun P hP y hy => by
    simp only [List.mem_singleton] at hy; subst hy; exact ⟨_, 118, hh4, hP⟩
  have r5 := q5.fr hF5 (by simp) (thb _ (by decide))
  have b5 := q6.frB hF5 (by simp) (thb _ (by decide))
  have F5 := q4.trans (hF5.typesO (by simp) (fun y hy => .inr (by simp only [List.mem_singleton] at hy; subst hy; exact ⟨_, _, hh4, by simp [TO]⟩)))
  have hLgt : L ≠ gt' := by have := hL4.lt; omega
  obtain ⟨y0, y1, y2, y3, y4, y5, y6, y7, y8, y9, yf, yl⟩ := prC p5
  clear hgt' n1 n2 n3 n4 n5 n6 HP
  go_wp2_with (fail)
  refine (insert_c b5 begun asc_empty hbp.asc (by simp) (by omega) (by simp)).mono ?_
  rintro e w6 ⟨rfl, hB6, hF6⟩
  rw [insert_empty, Nat.zero_add] at hB6
  obtain ⟨⟨csb5, hb5⟩, csL5, hL5⟩ := b5.blk
  have tbl : ∀ (P : Nat → Prop), P 121 → P 9 → ∀ y ∈ [b, L], ∃ cs t, Blk w5 y cs t ∧ P t := fun P h1 h2 y hy => by
    simp only [List.mem_cons, List.not_mem_nil, or_false] at hy
    rcases hy with rfl | rfl
    · exact ⟨_, 121, hb5, h1⟩
    · exact ⟨_, 9, hL5, h2⟩
  have ntb : ∀ (y : Nat) (cs : Array Value) (t : TypeId), Blk w5 y cs t → t ≠ 121 → t ≠ 9 → y ∉ [b, L] := fun y cs t hy h1 h2 hm => by
    obtain ⟨ds, t', e1, e2⟩ := tbl (fun t => t = 121 ∨ t = 9) (.inl rfl) (.inr rfl) y hm
    have := (hy.inj e1).2
    subst this
    rcases e2 with e | e
    · exact h1 e
    · exact h2 e
  have p6 := hF6.blk p5 (.inr ⟨ntb _ _ _ p5 (by decide) (by decide), by simp⟩)
  have c6 := hF6.blk c5 (.inr ⟨ntb _ _ _ c5 (by decide) (by decide), by simp⟩)
  have r6 := r5.fr hF6 (by simp) (tbl _ (by decide) (by decide))
  have hH6 : Hist N w6 h g gt' hs (hs ++ [.empty]) hs.length := by
    have hh5 := hH5
    obtain ⟨e1, e2, e3, e4, vh5, vt5, e5, e6, e7⟩ := hh5
    refine hH5.fr hF6 (ntb _ _ _ e5 (by decide) (by decide)) ?_ ?_ (by simp) (by simp)
    · simp only [List.mem_cons, List.not_mem_nil, or_false]
      rintro (e | e)
      · exact absurd (e6.blk.choose_spec.inj (e ▸ hb5)).2 (by decide)
      · exact hLg e.symm
    · simp only [List.mem_cons, List.not_mem_nil, or_false]
      rintro (e | e)
      · exact absurd (e7.blk.choose_spec.inj (e ▸ hb5)).2 (by decide)
      · exact hLgt e.symm
  have F6 := F5.trans (hF6.typesO (by simp) (fun y hy => .inr (tbl (· ∈ TO) (by simp [TO]) (by simp [TO]) y hy)))
  obtain ⟨y0, y1, y2, y3, y4, y5, y6, y7, y8, y9, yf, yl⟩ := prC p6
  have yf7 := p6.frozen 7
  have yf9 := p6.frozen 9
  have p7 := p6.set 7 (.string mode)
  have p8 := p7.set 9 ex
  have fp : ∀ (W : World) (i : Nat) (v : Value), Fr N [] [p] W (W.setCell ⟨p, i, none⟩ v) := fun W i v => (Fr.refl N [] [p] W).setCell (a := ⟨p, i, none⟩) np (.inl (by simp)) v
  have fp2 : Fr N [] [p] w6 ((w6.setCell ⟨p, 7, none⟩ (.string mode)).setCell ⟨p, 9, none⟩ ex) := (fp _ _ _).trans (fp _ _ _)
  have tp : ∀ (P : Nat → Prop), P 96 → ∀ y ∈ [p], ∃ cs t, Blk w6 y cs t ∧ P t := fun P hP y hy => by
    simp only [List.mem_singleton] at hy; subst hy; exact ⟨_, 96, p6, hP⟩
  have np6 : ∀ (y : Nat) (cs : Array Value) (t : TypeId), Blk w6 y cs t → t ≠ 96 → y ∉ [p] := fun y cs t hy h1 hm => by
    simp only [List.mem_singleton] at hm; subst hm; exact h1 (hy.inj p6).2
  have hfin : ∃ gt', Set0 N ((w6.setCell ⟨p, 7, none⟩ (.string mode)).setCell ⟨p, 9, none⟩ ex) p b r o L h g gt' c lb sb oc most pre cols down start sep begun mode ex hs := by
    have hh6 := hH6
    obtain ⟨e1, e2, e3, e4, vh6, vt6, e5, e6, e7⟩ := hh6
    exact ⟨gt', p8, np, r6.fr fp2 (by simp) (tp _ (by decide)), hB6.frB fp2 (by simp) (tp _ (by decide)),
      hH6.fr fp2 (np6 _ _ _ e5 (by decide)) (np6 _ _ _ e6.blk.choose_spec (by decide)) (np6 _ _ _ e7.blk.choose_spec (by decide)) (by simp) (by simp),
      fp2.blk c6 (.inr ⟨np6 _ _ _ c6 (by decide), by simp⟩), nc, hLg, hLgt⟩
  have F8 := F6.trans (fp2.typesO (by simp) (fun y hy => .inr (tp (· ∈ TO) (by simp [TO]) y hy)))
  have HF := Lib.hid (And.intro hfin F8)
  clear hfin F8 fp fp2 p7 p8 tp np6 F6 F5 tbl ntb thb
  rcases hex with rfl | ⟨f, x, y, rfl⟩
  · go_wp2_with (fail)
    go_end0
    exact ⟨rfl, HF.out.1, HF.out.2⟩
  · go_wp2_with (fail)
    go_end0
    exact ⟨rfl, HF.out.1, HF.out.2⟩
end Go.Proofs.YtiepopbmbgfhkaaGreat
