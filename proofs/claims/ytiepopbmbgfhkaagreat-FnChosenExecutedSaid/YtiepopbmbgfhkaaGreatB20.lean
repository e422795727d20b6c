/-
  A prompt's stand behind calls that change its history, its buffer, its writer.
-/
import Derived.Test.YtiepopbmbgfhkaaGreatB19
namespace Go.Proofs.YtiepopbmbgfhkaaGreat
open Go.RowKit
set_option maxHeartbeats 2000000
set_option maxRecDepth 20000
set_option linter.unusedVariables false
set_option linter.unusedSimpArgs false

theorem Buf.frN {base : Nat} {w w1 : World} {b L : Nat} {t : ByteArray} {k : Nat} (h : Buf base w b L t k) {base' : Nat} {ts bs : List Nat} (hF : Fr base' ts bs w w1) (h1 : 121 ∉ ts ∧ 9 ∉ ts ∧ 75 ∉ ts) (hL : L ∉ bs) (hb : ∀ x ∈ bs, ∃ cs ty, Blk w x cs ty ∧ ty ≠ 121 ∧ ty ≠ 75) : Buf base w1 b L t k := by
  obtain ⟨hbb, hbL, cd, pc, hB, hLB, hcd⟩ := h
  have hn : ∀ (y : Nat) (ds : Array Value) (ty : TypeId), Blk w y ds ty → (ty = 121 ∨ ty = 75) → y ∉ bs := fun y ds ty hy ht hm => by
    obtain ⟨cs, tz, e1, e2, e3⟩ := hb y hm
    have hq := (hy.inj e1).2
    subst hq
    rcases ht with h | h
    · exact e2 h
    · exact e3 h
  exact ⟨hbb, hbL, cd, pc, hF.blk hB (.inr ⟨hn _ _ _ hB (.inl rfl), h1.1⟩), hF.blk hLB (.inr ⟨hL, h1.2.1⟩), hcd.imp id fun ⟨d, u, j, e1, e2⟩ => ⟨d, u, j, e1, hF.blk e2 (.inr ⟨hn _ _ _ e2 (.inr rfl), h1.2.2⟩)⟩⟩

/-- All that a prompt may change. -/
def TT : List Nat := [5, 143, 96, 121, 9, 128, 87, 118, 31]
theorem Fr.types {base : Nat} {ts bs : List Nat} {w w1 : World} (h : Fr base ts bs w w1) (ht : ts ⊆ TT) (hb : ∀ x ∈ bs, w.heap.size ≤ x ∨ ∃ cs t, Blk w x cs t ∧ t ∈ TT) : Fr base TT [] w w1 :=
  ⟨h.os, h.tape, h.output, h.size, fun k hk hc => h.keep k hk (hc.imp id fun ⟨h1, h2⟩ => ⟨fun hm => by
    rcases hb k hm with e | ⟨cs, t, e1, e2⟩
    · omega
    · exact h2 cs t (0, 0) e1 e2, fun cs t fr e hm => h2 cs t fr e (ht hm)⟩)⟩

section
variable {base : Nat} {w w1 : World} {I : Pid} {D : Dyn}
theorem St.lts (h : St base w I D) : D.b < w.heap.size ∧ D.L < w.heap.size ∧ D.gh < w.heap.size ∧ D.gt < w.heap.size ∧ I.h < w.heap.size ∧ I.p < w.heap.size ∧ (∀ g, D.vl.ownBlock = some g → g < w.heap.size) := by
  obtain ⟨⟨csb, hb⟩, ⟨csL, hL⟩, ⟨csc, hc⟩, ⟨csr, hr⟩, ⟨csh, hh⟩, ⟨csg, hg⟩, ⟨cst, ht⟩⟩ := h.blks
  exact ⟨hb.lt, hL.lt, hg.lt, ht.lt, hh.lt, h.pr.lt, fun g e => (row_blk h.ln.2.2.2 g e).2.choose_spec.lt⟩

/-- What a call may have changed that changes a prompt's blocks. -/
theorem St.tt {ts bs : List Nat} (h : St base w I D) (hF : Fr base ts bs w w1) (ht : ts ⊆ TT) (hb : ∀ x ∈ bs, w.heap.size ≤ x ∨ x ∈ [D.b, D.L, I.r, I.c, I.h, D.gh, D.gt, I.p]) : Fr base TT [] w w1 := by
  obtain ⟨⟨csb, hb1⟩, ⟨csL, hL⟩, ⟨csc, hc⟩, ⟨csr, hr⟩, ⟨csh, hh⟩, ⟨csg, hg⟩, ⟨cst, ht1⟩⟩ := h.blks
  refine hF.types ht fun x hx => (hb x hx).imp id fun hm => ?_
  simp only [List.mem_cons, List.not_mem_nil, or_false] at hm
  rcases hm with rfl | rfl | rfl | rfl | rfl | rfl | rfl | rfl
  · exact ⟨_, _, hb1, by simp [TT]⟩
  · exact ⟨_, _, hL, by simp [TT]⟩
  · exact ⟨_, _, hr, by simp [TT]⟩
  · exact ⟨_, _, hc, by simp [TT]⟩
  · exact ⟨_, _, hh, by simp [TT]⟩
  · exact ⟨_, _, hg, by simp [TT]⟩
  · exact ⟨_, _, ht1, by simp [TT]⟩
  · exact ⟨_, _, h.pr, by simp [TT]⟩
theorem St.tt5 (h : St base w I D) (hF : Fr base [5, 143] [D.b, D.L, I.r, I.c] w w1) : Fr base TT [] w w1 :=
  h.tt hF (by simp [TT]) (fun x hx => .inr (by simp only [List.mem_cons, List.not_mem_nil, or_false] at hx ⊢; rcases hx with h | h | h | h <;> simp [h]))

/-- The history has changed. -/
theorem St.histUpd {gh' gt' sel' : Nat} {hs' ts' : List ByteArray} (h : St base w I D) (H : Hist base w1 I.h gh' gt' hs' ts' sel') (hF : Fr base [] [I.h, D.gh, D.gt] w w1) (hg : gh' = D.gh ∨ w.heap.size ≤ gh') (ht : gt' = D.gt ∨ w.heap.size ≤ gt') :
    St base w1 I { D with gh := gh', gt := gt', hs := hs', ts := ts', hsel := sel' } := by
  obtain ⟨⟨csb, hb⟩, ⟨csL, hL⟩, ⟨csc, hc⟩, ⟨csr, hr⟩, ⟨csh, hh⟩, ⟨csg, hgB⟩, ⟨cst, htB⟩⟩ := h.blks
  obtain ⟨l1, l2, l3, l4, l5, l6, l7⟩ := h.lts
  have key : ∀ y ∈ [I.h, D.gh, D.gt], ∃ cs t, Blk w y cs t ∧ (t = 118 ∨ t = 9) := by
    intro y hy
    simp only [List.mem_cons, List.not_mem_nil, or_false] at hy
    rcases hy with rfl | rfl | rfl
    · exact ⟨_, _, hh, by simp⟩
    · exact ⟨_, _, hgB, by simp⟩
    · exact ⟨_, _, htB, by simp⟩
  have far : ∀ (y : Nat) (ds : Array Value) (ty : TypeId), Blk w y ds ty → ty ≠ 118 → ty ≠ 9 → y ∉ [I.h, D.gh, D.gt] := by
    intro y ds ty hy g1 g2 hm
    obtain ⟨cs, tz, e1, e2⟩ := key y hm
    have := (hy.inj e1).2
    subst this
    rcases e2 with e | e
    · exact g1 e
    · exact g2 e
  have row : ∀ (y : Nat) (ds : Array Value), Blk w y ds 9 → y ≠ D.gh → y ≠ D.gt → y ∉ [I.h, D.gh, D.gt] := by
    intro y ds hy n1 n2 hm
    simp only [List.mem_cons, List.not_mem_nil, or_false] at hm
    rcases hm with rfl | rfl | rfl
    · exact absurd (hy.inj hh).2 (by decide)
    · exact n1 rfl
    · exact n2 rfl
  have t2 : ∀ (p : Nat → Prop), (∀ ty, (ty = 118 ∨ ty = 9) → p ty) → ∀ y ∈ [I.h, D.gh, D.gt], ∃ cs t, Blk w y cs t ∧ p t := fun p hp y hy => by
    obtain ⟨cs, t, e1, e2⟩ := key y hy
    exact ⟨cs, t, e1, hp t e2⟩
  refine ⟨hF.blk h.pr (.inr ⟨far _ _ _ h.pr (by decide) (by decide), by simp⟩), h.bp,
    ⟨h.scr.rn.fr hF (by simp) (t2 _ (by rintro ty (rfl | rfl) <;> decide)), h.scr.buf.frN hF (by simp) (row _ _ hL h.a1 h.a2) (t2 _ (by rintro ty (rfl | rfl) <;> decide)), h.scr.cm.fr hF (by simp) (t2 _ (by rintro ty (rfl | rfl) <;> decide))⟩,
    H, h.ln.fr hF (by simp) (fun y hy => ⟨t2 _ (by rintro ty (rfl | rfl) <;> decide) y hy, fun e => ?_⟩), h.exi.fr hF (by simp) (t2 _ (by rintro ty (rfl | rfl) <;> decide)), ?_, ?_, fun g hg' => ?_⟩
  · obtain ⟨-, ds, e1⟩ := row_blk h.ln.2.2.2 y e
    exact row y ds e1 (h.a3 y e).1 (h.a3 y e).2.1 hy
  · show D.L ≠ gh'
    rcases hg with rfl | e
    · exact h.a1
    · omega
  · show D.L ≠ gt'
    rcases ht with rfl | e
    · exact h.a2
    · omega
  · have hl := l7 g hg'
    obtain ⟨q1, q2, q3⟩ := h.a3 g hg'
    refine ⟨?_, ?_, q3⟩
    · show g ≠ gh'
      rcases hg with rfl | e
      · exact q1
      · omega
    · show g ≠ gt'
      rcases ht with rfl | e
      · exact q2
      · omega

/-- Another buffer. -/
theorem St.newBuf {b' L' k' : Nat} {t' : ByteArray} (h : St base w I D) (hB : Buf base w b' L' t' k') (n1 : L' ≠ D.gh) (n2 : L' ≠ D.gt) (n3 : ∀ g, D.vl.ownBlock = some g → g ≠ L') :
    St base (w.setCell ⟨I.p, 0, none⟩ (.pointer (some ⟨b', 0, none⟩))) I { D with b := b', L := L', t := t', k := k' } ∧ Fr base [] [I.p] w (w.setCell ⟨I.p, 0, none⟩ (.pointer (some ⟨b', 0, none⟩))) := by
  obtain ⟨⟨csb, hb⟩, ⟨csL, hL⟩, ⟨csc, hc⟩, ⟨csr, hr⟩, ⟨csh, hh⟩, ⟨csg, hg⟩, ⟨cst, ht⟩⟩ := h.blks
  have hF : Fr base [] [I.p] w (w.setCell ⟨I.p, 0, none⟩ (.pointer (some ⟨b', 0, none⟩))) := (Fr.refl _ _ _ _).setCell (a := ⟨I.p, 0, none⟩) h.bp (.inl (by simp)) _
  have t2 : ∀ (p : Nat → Prop), p 96 → ∀ y ∈ [I.p], ∃ cs t, Blk w y cs t ∧ p t := fun p hp y hy => by
    simp only [List.mem_singleton] at hy; subst hy; exact ⟨_, 96, h.pr, hp⟩
  have far : ∀ (y : Nat) (ds : Array Value) (ty : TypeId), Blk w y ds ty → ty ≠ 96 → y ∉ [I.p] := by
    intro y ds ty hy g1 hm
    simp only [List.mem_singleton] at hm; subst hm
    exact g1 (hy.inj h.pr).2
  refine ⟨⟨h.pr.set 0 _, h.bp, ⟨h.scr.rn.fr hF (by simp) (t2 _ (by decide)), hB.frB hF (by simp) (t2 _ (by decide)), h.scr.cm.fr hF (by simp) (t2 _ (by decide))⟩,
    h.hist.fr hF (far _ _ _ hh (by decide)) (far _ _ _ hg (by decide)) (far _ _ _ ht (by decide)) (by simp) (by simp), h.ln.fr hF (by simp) (fun y hy => ⟨t2 _ (by decide) y hy, fun e => ?_⟩), h.exi.fr hF (by simp) (t2 _ (by decide)), n1, n2, fun g hg' => ?_⟩, hF⟩
  · obtain ⟨-, ds, e1⟩ := row_blk h.ln.2.2.2 y e
    exact far y ds 9 e1 (by decide) hy
  · obtain ⟨q1, q2, q3⟩ := h.a3 g hg'
    exact ⟨q1, q2, n3 g hg'⟩

/-- Another line has been executed. -/
theorem St.lnUpd {vl' : Value} {ls' : List ByteArray} (h : St base w I D) (hL' : Ln base w1 I.lb I.x vl' ls' I.v1 I.v2 I.v3) (hF : Fr base [] (I.x :: D.vl.ownBlock.toList) w w1) (ho : vl'.ownBlock = D.vl.ownBlock ∨ ∃ g, vl'.ownBlock = some g ∧ w.heap.size ≤ g) :
    St base w1 I { D with vl := vl', lines := ls' } := by
  obtain ⟨⟨csb, hb⟩, ⟨csL, hL⟩, ⟨csc, hc⟩, ⟨csr, hr⟩, ⟨csh, hh⟩, ⟨csg, hg⟩, ⟨cst, ht⟩⟩ := h.blks
  obtain ⟨l1, l2, l3, l4, l5, l6, l7⟩ := h.lts
  have key : ∀ y ∈ I.x :: D.vl.ownBlock.toList, ∃ cs t, Blk w y cs t ∧ (t = 31 ∨ t = 9) := by
    intro y hy
    simp only [List.mem_cons, Option.mem_toList, Option.mem_def] at hy
    rcases hy with rfl | hy
    · exact ⟨_, _, h.ln.2.2.1, by simp⟩
    · obtain ⟨-, ds, e1⟩ := row_blk h.ln.2.2.2 y hy
      exact ⟨_, _, e1, by simp⟩
  have t2 : ∀ (p : Nat → Prop), (∀ ty, (ty = 31 ∨ ty = 9) → p ty) → ∀ y ∈ I.x :: D.vl.ownBlock.toList, ∃ cs t, Blk w y cs t ∧ p t := fun p hp y hy => by
    obtain ⟨cs, t, e1, e2⟩ := key y hy
    exact ⟨cs, t, e1, hp t e2⟩
  have far : ∀ (y : Nat) (ds : Array Value) (ty : TypeId), Blk w y ds ty → ty ≠ 31 → ty ≠ 9 → y ∉ I.x :: D.vl.ownBlock.toList := by
    intro y ds ty hy g1 g2 hm
    obtain ⟨cs, tz, e1, e2⟩ := key y hm
    have := (hy.inj e1).2
    subst this
    rcases e2 with e | e
    · exact g1 e
    · exact g2 e
  have row : ∀ (y : Nat) (ds : Array Value), Blk w y ds 9 → (∀ g, D.vl.ownBlock = some g → g ≠ y) → y ∉ I.x :: D.vl.ownBlock.toList := by
    intro y ds hy n1 hm
    simp only [List.mem_cons, Option.mem_toList, Option.mem_def] at hm
    rcases hm with rfl | hm
    · exact absurd (hy.inj h.ln.2.2.1).2 (by decide)
    · exact n1 y hm rfl
  refine ⟨hF.blk h.pr (.inr ⟨far _ _ _ h.pr (by decide) (by decide), by simp⟩), h.bp,
    ⟨h.scr.rn.fr hF (by simp) (t2 _ (by rintro ty (rfl | rfl) <;> decide)), h.scr.buf.frN hF (by simp) (row _ _ hL fun g e => (h.a3 g e).2.2) (t2 _ (by rintro ty (rfl | rfl) <;> decide)), h.scr.cm.fr hF (by simp) (t2 _ (by rintro ty (rfl | rfl) <;> decide))⟩,
    h.hist.fr hF (far _ _ _ hh (by decide) (by decide)) (row _ _ hg fun g e => (h.a3 g e).1) (row _ _ ht fun g e => (h.a3 g e).2.1) (by simp) (by simp), hL', h.exi.fr hF (by simp) (t2 _ (by rintro ty (rfl | rfl) <;> decide)), h.a1, h.a2, fun g hg' => ?_⟩
  rcases ho with e | ⟨g', e1, e2⟩
  · exact h.a3 g (e ▸ hg')
  · have : g = g' := by
      have h9 : vl'.ownBlock = some g := hg'
      rw [e1] at h9; simpa using h9.symm
    subst this
    exact ⟨by show g ≠ D.gh; omega, by show g ≠ D.gt; omega, by show g ≠ D.L; omega⟩
theorem St.ttLn (h : St base w I D) (hF : Fr base [] (I.x :: D.vl.ownBlock.toList) w w1) : Fr base TT [] w w1 := by
  refine hF.types (by simp) fun y hy => .inr ?_
  simp only [List.mem_cons, Option.mem_toList, Option.mem_def] at hy
  rcases hy with rfl | hy
  · exact ⟨_, _, h.ln.2.2.1, by simp [TT]⟩
  · obtain ⟨-, ds, e1⟩ := row_blk h.ln.2.2.2 y hy
    exact ⟨_, _, e1, by simp [TT]⟩

/-- The writer, or the renderer, has changed. -/
theorem St.outUpd {n : Nat} {bs : List Nat} (h : St base w I D) (hs : Scr base w1 I.r I.o D.b D.L I.c I.pre I.cols n D.t D.k I.q D.sel D.vs D.tmp) (hF : Fr base [5, 143] bs w w1) (hb : bs ⊆ [D.b, D.L, I.r, I.c]) : St base w1 I { D with n := n } :=
  h.upd (hF.mono (by simp) hb) hs
end
end Go.Proofs.YtiepopbmbgfhkaaGreat
