/-
  A prompt's stand behind calls that change its history, its buffer, its writer.
  What a prompt makes of bytes: the model, and the word for it.
-/
import Derived.Test.YtiepopbmbgfhkaaGreatQ16
namespace Go.Proofs.YtiepopbmbgfhkaaGreat
open Go.RowKit
set_option maxHeartbeats 2000000
set_option maxRecDepth 20000
set_option linter.unusedVariables false
set_option linter.unusedSimpArgs false

theorem Buf.frN {base : Nat} {w w1 : World} {b L : Nat} {t : ByteArray} {k : Nat} (h : Buf base w b L t k) {base' : Nat} {ts bs : List Nat} (hF : Fr base' ts bs w w1) (h1 : 121 ∉ ts ∧ 9 ∉ ts ∧ 75 ∉ ts) (hL : L ∉ bs) (hb : ∀ x ∈ bs, ∃ cs ty, Blk w x cs ty ∧ ty ≠ 121 ∧ ty ≠ 75) : Buf base w1 b L t k := by
  obtain ⟨hbb, hbL, cd, pc, hB, hLB, hcd⟩ := h
  have hn : ∀ (y : Nat) (ds : Array Value) (ty : TypeId), Blk w y ds ty → (ty = 121 ∨ ty = 75) → y ∉ bs := fun y ds ty hy ht hm => by
    obtain ⟨cs, tz, e1, e2, e3⟩ := hb y hm
    have hq := (hy.inj e1).2
    subst hq
    rcases ht with h | h
    · exact e2 h
    · exact e3 h
  exact ⟨hbb, hbL, cd, pc, hF.blk hB (.inr ⟨hn _ _ _ hB (.inl rfl), h1.1⟩), hF.blk hLB (.inr ⟨hL, h1.2.1⟩), hcd.imp id fun ⟨d, u, j, e1, e2⟩ => ⟨d, u, j, e1, hF.blk e2 (.inr ⟨hn _ _ _ e2 (.inr rfl), h1.2.2⟩)⟩⟩

/-- All that a prompt may change. -/
def TT : List Nat := [5, 143, 96, 121, 9, 128, 87, 118, 31]
theorem Fr.types {base : Nat} {ts bs : List Nat} {w w1 : World} (h : Fr base ts bs w w1) (ht : ts ⊆ TT) (hb : ∀ x ∈ bs, w.heap.size ≤ x ∨ ∃ cs t, Blk w x cs t ∧ t ∈ TT) : Fr base TT [] w w1 :=
  ⟨h.os, h.tape, h.output, h.size, fun k hk hc => h.keep k hk (hc.imp id fun ⟨h1, h2⟩ => ⟨fun hm => by
    rcases hb k hm with e | ⟨cs, t, e1, e2⟩
    · omega
    · exact h2 cs t (0, 0) e1 e2, fun cs t fr e hm => h2 cs t fr e (ht hm)⟩)⟩

section
variable {base : Nat} {w w1 : World} {I : Pid} {D : Dyn}
theorem St.lts (h : St base w I D) : D.b < w.heap.size ∧ D.L < w.heap.size ∧ D.gh < w.heap.size ∧ D.gt < w.heap.size ∧ I.h < w.heap.size ∧ I.p < w.heap.size ∧ (∀ g, D.vl.ownBlock = some g → g < w.heap.size) := by
  obtain ⟨⟨csb, hb⟩, ⟨csL, hL⟩, ⟨csc, hc⟩, ⟨csr, hr⟩, ⟨csh, hh⟩, ⟨csg, hg⟩, ⟨cst, ht⟩⟩ := h.blks
  exact ⟨hb.lt, hL.lt, hg.lt, ht.lt, hh.lt, h.pr.lt, fun g e => (row_blk h.ln.2.2.2 g e).2.choose_spec.lt⟩

/-- What a call may have changed that changes a prompt's blocks. -/
theorem St.tt {ts bs : List Nat} (h : St base w I D) (hF : Fr base ts bs w w1) (ht : ts ⊆ TT) (hb : ∀ x ∈ bs, w.heap.size ≤ x ∨ x ∈ [D.b, D.L, I.r, I.c, I.h, D.gh, D.gt, I.p]) : Fr base TT [] w w1 := by
  obtain ⟨⟨csb, hb1⟩, ⟨csL, hL⟩, ⟨csc, hc⟩, ⟨csr, hr⟩, ⟨csh, hh⟩, ⟨csg, hg⟩, ⟨cst, ht1⟩⟩ := h.blks
  refine hF.types ht fun x hx => (hb x hx).imp id fun hm => ?_
  simp only [List.mem_cons, List.not_mem_nil, or_false] at hm
  rcases hm with rfl | rfl | rfl | rfl | rfl | rfl | rfl | rfl
  · exact ⟨_, _, hb1, by simp [TT]⟩
  · exact ⟨_, _, hL, by simp [TT]⟩
  · exact ⟨_, _, hr, by simp [TT]⟩
  · exact ⟨_, _, hc, by simp [TT]⟩
  · exact ⟨_, _, hh, by simp [TT]⟩
  · exact ⟨_, _, hg, by simp [TT]⟩
  · exact ⟨_, _, ht1, by simp [TT]⟩
  · exact ⟨_, _, h.pr, by simp [TT]⟩
theorem St.tt5 (h : St base w I D) (hF : Fr base [5, 143] [D.b, D.L, I.r, I.c] w w1) : Fr base TT [] w w1 :=
  h.tt hF (by simp [TT]) (fun x hx => .inr (by simp only [List.mem_cons, List.not_mem_nil, or_false] at hx ⊢; rcases hx with h | h | h | h <;> simp [h]))

/-- The history has changed. -/
theorem St.histUpd {gh' gt' sel' : Nat} {hs' ts' : List ByteArray} (h : St base w I D) (H : Hist base w1 I.h gh' gt' hs' ts' sel') (hF : Fr base [] [I.h, D.gh, D.gt] w w1) (hg : gh' = D.gh ∨ w.heap.size ≤ gh') (ht : gt' = D.gt ∨ w.heap.size ≤ gt') :
    St base w1 I { D with gh := gh', gt := gt', hs := hs', ts := ts', hsel := sel' } := by
  obtain ⟨⟨csb, hb⟩, ⟨csL, hL⟩, ⟨csc, hc⟩, ⟨csr, hr⟩, ⟨csh, hh⟩, ⟨csg, hgB⟩, ⟨cst, htB⟩⟩ := h.blks
  obtain ⟨l1, l2, l3, l4, l5, l6, l7⟩ := h.lts
  have key : ∀ y ∈ [I.h, D.gh, D.gt], ∃ cs t, Blk w y cs t ∧ (t = 118 ∨ t = 9) := by
    intro y hy
    simp only [List.mem_cons, List.not_mem_nil, or_false] at hy
    rcases hy with rfl | rfl | rfl
    · exact ⟨_, _, hh, by simp⟩
    · exact ⟨_, _, hgB, by simp⟩
    · exact ⟨_, _, htB, by simp⟩
  have far : ∀ (y : Nat) (ds : Array Value) (ty : TypeId), Blk w y ds ty → ty ≠ 118 → ty ≠ 9 → y ∉ [I.h, D.gh, D.gt] := by
    intro y ds ty hy g1 g2 hm
    obtain ⟨cs, tz, e1, e2⟩ := key y hm
    have := (hy.inj e1).2
    subst this
    rcases e2 with e | e
    · exact g1 e
    · exact g2 e
  have row : ∀ (y : Nat) (ds : Array Value), Blk w y ds 9 → y ≠ D.gh → y ≠ D.gt → y ∉ [I.h, D.gh, D.gt] := by
    intro y ds hy n1 n2 hm
    simp only [List.mem_cons, List.not_mem_nil, or_false] at hm
    rcases hm with rfl | rfl | rfl
    · exact absurd (hy.inj hh).2 (by decide)
    · exact n1 rfl
    · exact n2 rfl
  have t2 : ∀ (p : Nat → Prop), (∀ ty, (ty = 118 ∨ ty = 9) → p ty) → ∀ y ∈ [I.h, D.gh, D.gt], ∃ cs t, Blk w y cs t ∧ p t := fun p hp y hy => by
    obtain ⟨cs, t, e1, e2⟩ := key y hy
    exact ⟨cs, t, e1, hp t e2⟩
  refine ⟨hF.blk h.pr (.inr ⟨far _ _ _ h.pr (by decide) (by decide), by simp⟩), h.bp,
    ⟨h.scr.rn.fr hF (by simp) (t2 _ (by rintro ty (rfl | rfl) <;> decide)), h.scr.buf.frN hF (by simp) (row _ _ hL h.a1 h.a2) (t2 _ (by rintro ty (rfl | rfl) <;> decide)), h.scr.cm.fr hF (by simp) (t2 _ (by rintro ty (rfl | rfl) <;> decide))⟩,
    H, h.ln.fr hF (by simp) (fun y hy => ⟨t2 _ (by rintro ty (rfl | rfl) <;> decide) y hy, fun e => ?_⟩), h.exi.fr hF (by simp) (t2 _ (by rintro ty (rfl | rfl) <;> decide)), ?_, ?_, fun g hg' => ?_⟩
  · obtain ⟨-, ds, e1⟩ := row_blk h.ln.2.2.2 y e
    exact row y ds e1 (h.a3 y e).1 (h.a3 y e).2.1 hy
  · show D.L ≠ gh'
    rcases hg with rfl | e
    · exact h.a1
    · omega
  · show D.L ≠ gt'
    rcases ht with rfl | e
    · exact h.a2
    · omega
  · have hl := l7 g hg'
    obtain ⟨q1, q2, q3⟩ := h.a3 g hg'
    refine ⟨?_, ?_, q3⟩
    · show g ≠ gh'
      rcases hg with rfl | e
      · exact q1
      · omega
    · show g ≠ gt'
      rcases ht with rfl | e
      · exact q2
      · omega

/-- Another buffer. -/
theorem St.newBuf {b' L' k' : Nat} {t' : ByteArray} (h : St base w I D) (hB : Buf base w b' L' t' k') (n1 : L' ≠ D.gh) (n2 : L' ≠ D.gt) (n3 : ∀ g, D.vl.ownBlock = some g → g ≠ L') :
    St base (w.setCell ⟨I.p, 0, none⟩ (.pointer (some ⟨b', 0, none⟩))) I { D with b := b', L := L', t := t', k := k' } ∧ Fr base [] [I.p] w (w.setCell ⟨I.p, 0, none⟩ (.pointer (some ⟨b', 0, none⟩))) := by
  obtain ⟨⟨csb, hb⟩, ⟨csL, hL⟩, ⟨csc, hc⟩, ⟨csr, hr⟩, ⟨csh, hh⟩, ⟨csg, hg⟩, ⟨cst, ht⟩⟩ := h.blks
  have hF : Fr base [] [I.p] w (w.setCell ⟨I.p, 0, none⟩ (.pointer (some ⟨b', 0, none⟩))) := (Fr.refl _ _ _ _).setCell (a := ⟨I.p, 0, none⟩) h.bp (.inl (by simp)) _
  have t2 : ∀ (p : Nat → Prop), p 96 → ∀ y ∈ [I.p], ∃ cs t, Blk w y cs t ∧ p t := fun p hp y hy => by
    simp only [List.mem_singleton] at hy; subst hy; exact ⟨_, 96, h.pr, hp⟩
  have far : ∀ (y : Nat) (ds : Array Value) (ty : TypeId), Blk w y ds ty → ty ≠ 96 → y ∉ [I.p] := by
    intro y ds ty hy g1 hm
    simp only [List.mem_singleton] at hm; subst hm
    exact g1 (hy.inj h.pr).2
  refine ⟨⟨h.pr.set 0 _, h.bp, ⟨h.scr.rn.fr hF (by simp) (t2 _ (by decide)), hB.frB hF (by simp) (t2 _ (by decide)), h.scr.cm.fr hF (by simp) (t2 _ (by decide))⟩,
    h.hist.fr hF (far _ _ _ hh (by decide)) (far _ _ _ hg (by decide)) (far _ _ _ ht (by decide)) (by simp) (by simp), h.ln.fr hF (by simp) (fun y hy => ⟨t2 _ (by decide) y hy, fun e => ?_⟩), h.exi.fr hF (by simp) (t2 _ (by decide)), n1, n2, fun g hg' => ?_⟩, hF⟩
  · obtain ⟨-, ds, e1⟩ := row_blk h.ln.2.2.2 y e
    exact far y ds 9 e1 (by decide) hy
  · obtain ⟨q1, q2, q3⟩ := h.a3 g hg'
    exact ⟨q1, q2, n3 g hg'⟩

/-- Another line has been executed. -/
theorem St.lnUpd {vl' : Value} {ls' : List ByteArray} (h : St base w I D) (hL' : Ln base w1 I.lb I.x vl' ls' I.v1 I.v2 I.v3) (hF : Fr base [] (I.x :: D.vl.ownBlock.toList) w w1) (ho : vl'.ownBlock = D.vl.ownBlock ∨ ∃ g, vl'.ownBlock = some g ∧ w.heap.size ≤ g) :
    St base w1 I { D with vl := vl', lines := ls' } := by
  obtain ⟨⟨csb, hb⟩, ⟨csL, hL⟩, ⟨csc, hc⟩, ⟨csr, hr⟩, ⟨csh, hh⟩, ⟨csg, hg⟩, ⟨cst, ht⟩⟩ := h.blks
  obtain ⟨l1, l2, l3, l4, l5, l6, l7⟩ := h.lts
  have key : ∀ y ∈ I.x :: D.vl.ownBlock.toList, ∃ cs t, Blk w y cs t ∧ (t = 31 ∨ t = 9) := by
    intro y hy
    simp only [List.mem_cons, Option.mem_toList, Option.mem_def] at hy
    rcases hy with rfl | hy
    · exact ⟨_, _, h.ln.2.2.1, by simp⟩
    · obtain ⟨-, ds, e1⟩ := row_blk h.ln.2.2.2 y hy
      exact ⟨_, _, e1, by simp⟩
  have t2 : ∀ (p : Nat → Prop), (∀ ty, (ty = 31 ∨ ty = 9) → p ty) → ∀ y ∈ I.x :: D.vl.ownBlock.toList, ∃ cs t, Blk w y cs t ∧ p t := fun p hp y hy => by
    obtain ⟨cs, t, e1, e2⟩ := key y hy
    exact ⟨cs, t, e1, hp t e2⟩
  have far : ∀ (y : Nat) (ds : Array Value) (ty : TypeId), Blk w y ds ty → ty ≠ 31 → ty ≠ 9 → y ∉ I.x :: D.vl.ownBlock.toList := by
    intro y ds ty hy g1 g2 hm
    obtain ⟨cs, tz, e1, e2⟩ := key y hm
    have := (hy.inj e1).2
    subst this
    rcases e2 with e | e
    · exact g1 e
    · exact g2 e
  have row : ∀ (y : Nat) (ds : Array Value), Blk w y ds 9 → (∀ g, D.vl.ownBlock = some g → g ≠ y) → y ∉ I.x :: D.vl.ownBlock.toList := by
    intro y ds hy n1 hm
    simp only [List.mem_cons, Option.mem_toList, Option.mem_def] at hm
    rcases hm with rfl | hm
    · exact absurd (hy.inj h.ln.2.2.1).2 (by decide)
    · exact n1 y hm rfl
  refine ⟨hF.blk h.pr (.inr ⟨far _ _ _ h.pr (by decide) (by decide), by simp⟩), h.bp,
    ⟨h.scr.rn.fr hF (by simp) (t2 _ (by rintro ty (rfl | rfl) <;> decide)), h.scr.buf.frN hF (by simp) (row _ _ hL fun g e => (h.a3 g e).2.2) (t2 _ (by rintro ty (rfl | rfl) <;> decide)), h.scr.cm.fr hF (by simp) (t2 _ (by rintro ty (rfl | rfl) <;> decide))⟩,
    h.hist.fr hF (far _ _ _ hh (by decide) (by decide)) (row _ _ hg fun g e => (h.a3 g e).1) (row _ _ ht fun g e => (h.a3 g e).2.1) (by simp) (by simp), hL', h.exi.fr hF (by simp) (t2 _ (by rintro ty (rfl | rfl) <;> decide)), h.a1, h.a2, fun g hg' => ?_⟩
  rcases ho with e | ⟨g', e1, e2⟩
  · exact h.a3 g (e ▸ hg')
  · have : g = g' := by
      have h9 : vl'.ownBlock = some g := hg'
      rw [e1] at h9; simpa using h9.symm
    subst this
    exact ⟨by show g ≠ D.gh; omega, by show g ≠ D.gt; omega, by show g ≠ D.L; omega⟩
theorem St.ttLn (h : St base w I D) (hF : Fr base [] (I.x :: D.vl.ownBlock.toList) w w1) : Fr base TT [] w w1 := by
  refine hF.types (by simp) fun y hy => .inr ?_
  simp only [List.mem_cons, Option.mem_toList, Option.mem_def] at hy
  rcases hy with rfl | hy
  · exact ⟨_, _, h.ln.2.2.1, by simp [TT]⟩
  · obtain ⟨-, ds, e1⟩ := row_blk h.ln.2.2.2 y hy
    exact ⟨_, _, e1, by simp [TT]⟩

/-- The writer, or the renderer, has changed. -/
theorem St.outUpd {n : Nat} {bs : List Nat} (h : St base w I D) (hs : Scr base w1 I.r I.o D.b D.L I.c I.pre I.cols n D.t D.k I.q D.sel D.vs D.tmp) (hF : Fr base [5, 143] bs w w1) (hb : bs ⊆ [D.b, D.L, I.r, I.c]) : St base w1 I { D with n := n } :=
  h.upd (hF.mono (by simp) hb) hs
end
end Go.Proofs.YtiepopbmbgfhkaaGreat

namespace Go.Proofs.YtiepopbmbgfhkaaGreat
open Go.RowKit
set_option maxHeartbeats 2000000
set_option maxRecDepth 20000
set_option linter.unusedVariables false
set_option linter.unusedSimpArgs false

/-- A prompt as it stands: its line and cursor, its history, its suggestions, the lines that were executed. -/
structure PS where
  t : ByteArray
  k : Nat
  hs : List ByteArray
  ts : List ByteArray
  hsel : Nat
  sel : Int
  vs : Int
  tmp : List Pk
  lines : List ByteArray

def Dyn.ps (D : Dyn) : PS := ⟨D.t, D.k, D.hs, D.ts, D.hsel, D.sel, D.vs, D.tmp, D.lines⟩

namespace PS
def next (s : PS) (q : Cp) : PS := { s with sel := (nextS q s.sel s.vs s.tmp).1, vs := (nextS q s.sel s.vs s.tmp).2.1, tmp := (nextS q s.sel s.vs s.tmp).2.2 }
def prev (s : PS) (q : Cp) : PS := { s with sel := (prevS q s.sel s.vs s.tmp).1, vs := (prevS q s.sel s.vs s.tmp).2.1, tmp := (prevS q s.sel s.vs s.tmp).2.2 }
def text (s : PS) (i : Nat) : ByteArray := ((s.tmp[i]?).map Prod.fst).getD .empty
def chosen (s : PS) (q : Cp) : PS :=
  if s.sel = -1 then { s with vs := 0, tmp := q.offs }
  else { s with t := chosenT q.sep s.t s.k (s.text s.sel.toNat), k := wordAt q.sep s.t s.k + (s.text s.sel.toNat).size, sel := -1, vs := 0, tmp := q.offs }
def comp (s : PS) (q : Cp) (down : Bool) (key : Int) : PS :=
  if key = 37 then (if s.sel ≠ -1 ∨ down = true then s.next q else s)
  else if key = 54 then s.next q
  else if key = 36 then (if s.sel ≠ -1 then s.prev q else s)
  else if key = 51 then s.prev q
  else s.chosen q
/-- A line is ended. -/
def enter (s : PS) : PS :=
  if s.t = .empty then { s with t := .empty, k := 0 }
  else { s with t := .empty, k := 0, hs := s.hs ++ [s.t], ts := s.hs ++ [s.t] ++ [.empty], hsel := s.hs.length + 1 }
def cancel (s : PS) : PS := { s with t := .empty, k := 0, ts := s.hs ++ [.empty], hsel := s.hs.length }
def older (s : PS) : PS :=
  if s.ts.length = 1 ∨ s.hsel = 0 then s
  else { s with ts := s.ts.set s.hsel s.t, hsel := s.hsel - 1, t := s.ts.getD (s.hsel - 1) .empty, k := (s.ts.getD (s.hsel - 1) .empty).size }
def newer (s : PS) : PS :=
  if s.ts.length ≤ s.hsel + 1 then s
  else { s with ts := s.ts.set s.hsel s.t, hsel := s.hsel + 1, t := s.ts.getD (s.hsel + 1) .empty, k := (s.ts.getD (s.hsel + 1) .empty).size }
def typed (s : PS) (v : ByteArray) : PS := { s with t := putT s.t s.k v, k := s.k + v.size }
/-- What 'feed' makes of bytes: the stand, whether it is over, what is to be executed. bd: what keys are bound to. -/
def feed (s : PS) (q : Cp) (down : Bool) (bd : Int → PS → PS) (l : List UInt8) : PS × Bool × Option ByteArray :=
  if keyOf l = 55 ∨ keyOf l = 10 ∨ keyOf l = 13 then (bd (keyOf l) (s.comp q down (keyOf l)).enter, false, some (s.comp q down (keyOf l)).t)
  else if keyOf l = 3 then (bd (keyOf l) (s.comp q down (keyOf l)).cancel, false, none)
  else if keyOf l = 36 ∨ keyOf l = 16 then (bd (keyOf l) (if s.sel = -1 then (s.comp q down (keyOf l)).older else s.comp q down (keyOf l)), false, none)
  else if keyOf l = 37 ∨ keyOf l = 14 then (if s.sel = -1 then (s.comp q down (keyOf l)).newer else bd (keyOf l) (s.comp q down (keyOf l)), false, none)
  else if keyOf l = 4 then (if (s.comp q down (keyOf l)).t = .empty then (s.comp q down (keyOf l), true, none) else (bd (keyOf l) (s.comp q down (keyOf l)), false, none))
  else if keyOf l = 86 then (bd (keyOf l) ((s.comp q down (keyOf l)).typed ⟨l.toArray⟩), false, none)
  else (bd (keyOf l) (s.comp q down (keyOf l)), false, none)
/-- The suggestions are asked for anew. -/
def update (s : PS) (q : Cp) : PS := { s with tmp := fit (s.t.extract (wordAt q.sep s.t s.k) s.k) q.offs }
/-- What 'Fed' makes of bytes: the stand, whether it is over. -/
def fed (s : PS) (q : Cp) (down : Bool) (et : ByteArray) (bd : Int → PS → PS) (l : List UInt8) : PS × Bool :=
  match s.feed q down bd l with
  | (s1, true, _) => (s1, true)
  | (s1, false, some t) => ({ s1 with lines := s1.lines ++ [t] }.update q, decide (et ≠ .empty ∧ t = et))
  | (s1, false, none) => (s1.update q, false)
end PS

theorem ps_comp (D : Dyn) (I : Pid) (key : Int) : (D.comp I key).ps = D.ps.comp I.q I.down key := by
  unfold Dyn.comp PS.comp
  by_cases h1 : key = 37
  · rw [if_pos h1, if_pos h1]
    by_cases h : D.sel ≠ -1 ∨ I.down = true
    · rw [if_pos h, if_pos (show D.ps.sel ≠ -1 ∨ I.down = true from h)]; rfl
    · rw [if_neg h, if_neg (show ¬ (D.ps.sel ≠ -1 ∨ I.down = true) from h)]
  · rw [if_neg h1, if_neg h1]
    by_cases h2 : key = 54
    · rw [if_pos h2, if_pos h2]; rfl
    · rw [if_neg h2, if_neg h2]
      by_cases h3 : key = 36
      · rw [if_pos h3, if_pos h3]
        by_cases h : D.sel ≠ -1
        · rw [if_pos h, if_pos (show D.ps.sel ≠ -1 from h)]; rfl
        · rw [if_neg h, if_neg (show ¬ (D.ps.sel ≠ -1) from h)]
      · rw [if_neg h3, if_neg h3]
        by_cases h4 : key = 51
        · rw [if_pos h4, if_pos h4]; rfl
        · rw [if_neg h4, if_neg h4]
          unfold Dyn.chosen PS.chosen
          by_cases h : D.sel = -1
          · rw [if_pos h, if_pos (show D.ps.sel = -1 from h)]; rfl
          · rw [if_neg h, if_neg (show ¬ (D.ps.sel = -1) from h)]; rfl

/-- A slice of bytes at the head of a block. -/
def DatB (w : World) (u : Value) (l : List UInt8) : Prop := ∃ B c cs fr, u = .slice (some ⟨B, 0, none⟩) l.length c ∧ w.heap[B]? = some (.cells cs 5 fr) ∧ ∀ (j : Nat) (b : UInt8), l[j]? = some b → cs[j]? = some (Value.int .u8 (b.toNat : Int))
theorem DatB.dat {w : World} {u : Value} {l : List UInt8} (h : DatB w u l) : Dat w u l := by
  obtain ⟨B, c, cs, fr, h1, h2, h3⟩ := h
  refine ⟨_, c, h1, fun j b hj => ?_⟩
  rw [add_at]
  have e : w.cell? ⟨B, j, none⟩ = cs[j]? := by simp [World.cell?, h2]
  rw [e]
  exact h3 j b hj
theorem DatB.fr {w w1 : World} {u : Value} {l : List UInt8} {base : Nat} {ts bs : List Nat} (h : DatB w u l) (hF : Fr base ts bs w w1) (h5 : 5 ∉ ts) (hb : ∀ x ∈ bs, ∃ cs t, Blk w x cs t ∧ t ≠ 5) : DatB w1 u l := by
  obtain ⟨B, c, cs, fr, h1, h2, h3⟩ := h
  refine ⟨B, c, cs, fr, h1, ?_, h3⟩
  rw [hF.keep B (lt_of_block h2) (.inr ⟨fun hm => ?_, fun cs' t' fr' he => ?_⟩)]
  · exact h2
  · obtain ⟨ds, t, e1, e2⟩ := hb _ hm
    unfold Blk at e1
    rw [h2] at e1
    simp only [Option.some.injEq, Obj.cells.injEq] at e1
    exact e2 e1.2.1.symm
  · rw [h2] at he
    simp only [Option.some.injEq, Obj.cells.injEq] at he
    rw [← he.2.1]
    exact h5
theorem DatB.fr0 {w w1 : World} {u : Value} {l : List UInt8} {base : Nat} (h : DatB w u l) (hF : Fr base [] [] w w1) : DatB w1 u l := h.fr hF (by simp) (by simp)
theorem DatB.form {w : World} {u : Value} {l : List UInt8} (h : DatB w u l) : ∃ a n c, u = .slice a n c := by
  obtain ⟨B, c, cs, fr, h1, h2, h3⟩ := h
  exact ⟨_, _, _, h1⟩

theorem comp_c {base : Nat} {w : World} {I : Pid} {D : Dyn} (h : St base w I D) (hk : StOk I D) (cp : Bool) (hcp : cp = (D.sel != -1)) (key : Int) (n9 : key ≠ 9) :
    Calls Tryz.prog 87 #[.pointer (some ⟨I.p, 0, none⟩), .int .i64 key, .bool cp] w (CompPost base I D (D.comp I key) w) := by
  by_cases h1 : key = 37
  · subst h1; exact comp_down h hk cp hcp
  by_cases h2 : key = 54
  · subst h2; exact comp_tab h hk cp
  by_cases h3 : key = 36
  · subst h3; exact comp_up h hk cp hcp
  by_cases h4 : key = 51
  · subst h4; exact comp_back h hk cp
  rcases hk.sel with e | ⟨s, e, hs⟩
  · exact comp_none h hk cp key e h1 h2 n9 h3 h4
  · exact comp_some h hk cp key s e hs h1 h2 n9 h3 h4

/-- What 'feed' leaves. -/
def FeedPost (base : Nat) (I : Pid) (D : Dyn) (s' : PS) (out : Bool) (ex : Option ByteArray) (w : World) (e : Ending) (w' : World) : Prop :=
  ∃ D' xv, e = .returned (.tuple #[.bool out, xv]) ∧ St base w' I D' ∧ D'.ps = s' ∧ D'.n ≤ D.n + 4000 ∧
    ((ex = none ∧ xv = .pointer none) ∨ ∃ X t, ex = some t ∧ xv = .pointer (some ⟨X, 0, none⟩) ∧ Blk w' X #[.string t] 106) ∧ Fr base TT [] w w'

/-- What a key is bound to: bd. -/
def KBnd (base : Nat) (I : Pid) (key : Int) (bd : PS → PS) : Prop := ∀ (w : World) (D : Dyn), St base w I D → StOk I D →
  Calls Tryz.prog 92 #[.pointer (some ⟨I.p, 0, none⟩), .int .i64 key] w fun e w' => e = .returned (.bool false) ∧ (∃ D', St base w' I D' ∧ D'.ps = bd D.ps ∧ D'.n = D.n) ∧ Fr base TT [] w w'

theorem kb_none {base : Nat} {I : Pid} {key : Int} (hk1 : key ∉ commonKeys) (hk2 : key ∉ emacsKeys) : KBnd base I key id := fun w D h hk =>
  (keyNone_c h.pr h.scr.rn h.scr.buf h.exi hk1 hk2).mono fun e w' ⟨he, hF⟩ => ⟨he, ⟨D, h.fr0 hF, rfl, rfl⟩, hF.any⟩

/-- What is asked of what does not change. -/
structure IdOk (I : Pid) : Prop where
  hpre : Prn I.pre
  hpres : I.pre.size ≤ 100
  hc1 : 13 ≤ I.cols
  hc2 : I.cols ≤ 120
  hq : CpOk I.q
  hmost : I.q.most ≤ 100
  ho : ∀ x ∈ I.q.offs, Prn x.1 ∧ x.1.size ≤ 100 ∧ Prn x.2 ∧ x.2.size ≤ 100
  hol : I.q.offs.length ≤ 100

/-- What is asked of a stand. -/
structure PsOk (I : Pid) (s : PS) : Prop where
  ht : Prn s.t
  hts : s.t.size ≤ 500
  hk : s.k ≤ s.t.size
  sel : s.sel = -1 ∨ ∃ i : Nat, s.sel = i ∧ i < s.tmp.length
  v0 : 0 ≤ s.vs
  v1 : s.vs ≤ 1000
  tl : s.tmp.length ≤ 1000
  tp : ∀ x ∈ s.tmp, x ∈ I.q.offs
  hh : ∀ x ∈ s.hs, Prn x ∧ x.size ≤ 500
  hhl : s.hs.length ≤ 1000
  hT : ∀ x ∈ s.ts, Prn x ∧ x.size ≤ 500
  hTl : s.ts.length ≤ 1001
  hsl : s.hsel < s.ts.length
  hl : s.lines.length ≤ 900

section
variable {base : Nat} {w : World} {I : Pid} {D : Dyn}
theorem StOk.of (hI : IdOk I) (hP : PsOk I D.ps) : StOk I D :=
  ⟨⟨hI.hpre, hI.hpres, hI.hc1, hI.hc2, hP.ht, by have := hP.hts; exact Nat.le_trans this (by omega), hP.hk, hI.hq, hI.hmost⟩, hP.tl, fun x hx => hI.ho x (hP.tp x hx), hP.sel, hP.v0, hP.v1⟩
theorem prn_append {t u : ByteArray} (h : Prn t) (k : Prn u) : Prn (t ++ u) := by
  intro i hi
  have hi' : i < (t ++ u).data.size := hi
  simp only [ByteArray.data_append, Array.size_append] at hi'
  have e1 : (t ++ u)[i] = (t.data ++ u.data)[i]'(by simpa using hi') := by
    show (t ++ u).data[i] = _
    simp [ByteArray.data_append]
  rw [e1]
  by_cases hlt : i < t.data.size
  · rw [Array.getElem_append_left hlt]; exact h i hlt
  · rw [Array.getElem_append_right (by omega)]; exact k _ _
theorem prn_put {t v : ByteArray} (h : Prn t) (hv : Prn v) (k : Nat) : Prn (putT t k v) := prn_append (prn_append (h.extract _ _) hv) (h.extract _ _)
theorem size_put {t v : ByteArray} {k : Nat} (hk : k ≤ t.size) : (putT t k v).size = t.size + v.size := by
  unfold putT; rw [ByteArray.size_append, ByteArray.size_append]; simp; omega
theorem prn_empty : Prn .empty := fun i h => absurd h (by simp)

/-- A stand behind the keys of completion. -/
theorem comp_ok (hI : IdOk I) (hP : PsOk I D.ps) (key : Int) (hn : key ≠ 37 ∧ key ≠ 54 ∧ key ≠ 36 ∧ key ≠ 51) : Prn (D.comp I key).t ∧ (D.comp I key).t.size ≤ 600 ∧ (D.comp I key).k ≤ (D.comp I key).t.size ∧ (D.comp I key).sel = -1 ∧ (D.comp I key).vs = 0 ∧ (D.comp I key).tmp = I.q.offs := by
  obtain ⟨n1, n2, n3, n4⟩ := hn
  have hts : D.t.size ≤ 500 := hP.hts
  have hk : D.k ≤ D.t.size := hP.hk
  have ht : Prn D.t := hP.ht
  unfold Dyn.comp
  rw [if_neg n1, if_neg n2, if_neg n3, if_neg n4]
  unfold Dyn.chosen
  by_cases h : D.sel = -1
  · rw [if_pos h]
    exact ⟨ht, by show D.t.size ≤ 600; omega, hk, h, rfl, rfl⟩
  · rw [if_neg h]
    have hsel : D.sel = -1 ∨ ∃ i : Nat, D.sel = i ∧ i < D.tmp.length := hP.sel
    obtain ⟨i, e1, e2⟩ := hsel.resolve_left h
    have hx := hI.ho _ (hP.tp _ (List.getElem_mem e2))
    have et : D.text D.sel.toNat = D.tmp[i].1 := by simp [Dyn.text, e1, e2]
    have hw := wordAt_le I.q.sep D.t D.k
    have hsz : (D.t.extract 0 (wordAt I.q.sep D.t D.k) ++ D.t.extract D.k D.t.size).size ≤ D.t.size := by rw [ByteArray.size_append]; simp; omega
    have hsz2 : wordAt I.q.sep D.t D.k ≤ (D.t.extract 0 (wordAt I.q.sep D.t D.k) ++ D.t.extract D.k D.t.size).size := by rw [ByteArray.size_append]; simp; omega
    have hsz3 := size_put (v := D.tmp[i].1) hsz2
    rw [et]
    refine ⟨prn_put (prn_append (ht.extract _ _) (ht.extract _ _)) hx.1 _, ?_, ?_, rfl, rfl, rfl⟩
    · show (chosenT _ _ _ _).size ≤ 600
      unfold chosenT; have := hx.2.1; show (putT _ _ _).size ≤ 600; rw [hsz3]; have h9 : D.tmp[i].1.size ≤ 100 := hx.2.1; omega
    · show _ ≤ (chosenT _ _ _ _).size
      unfold chosenT; show _ ≤ (putT _ _ _).size; rw [hsz3]; show wordAt I.q.sep D.t D.k + _ ≤ _; omega
/-- What is asked, of a stand whose line and suggestions are known. -/
theorem stOk_mk {D' : Dyn} (hI : IdOk I) (ht : Prn D'.t) (hts : D'.t.size ≤ 1000) (hk : D'.k ≤ D'.t.size) (hsel : D'.sel = -1) (hvs : D'.vs = 0) (htmp : D'.tmp = I.q.offs) : StOk I D' :=
  ⟨⟨hI.hpre, hI.hpres, hI.hc1, hI.hc2, ht, hts, hk, hI.hq, hI.hmost⟩, by rw [htmp]; exact Nat.le_trans hI.hol (by omega), by rw [htmp]; exact hI.ho, .inl hsel, by omega, by omega⟩
end
end Go.Proofs.YtiepopbmbgfhkaaGreat
