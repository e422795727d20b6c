/-
  A prompt whole, in memory.
-/
import Derived.Test.YtiepopbmbgfhkaaGreatB13
namespace Go.Proofs.YtiepopbmbgfhkaaGreat
open Go.RowKit
set_option maxHeartbeats 2000000
set_option maxRecDepth 20000
set_option linter.unusedVariables false
set_option linter.unusedSimpArgs false

/-- What does not change of a prompt: its blocks, its settings. -/
structure Pid where
  p : Nat
  r : Nat
  o : Nat
  c : Nat
  h : Nat
  lb : Nat
  x : Nat
  pre : ByteArray
  cols : Nat
  q : Cp
  mode : ByteArray
  down : Bool
  ex : Value
  et : ByteArray
  v1 : Value
  v2 : Value
  v3 : Value

/-- How a prompt stands: blocks that change, and what they hold. -/
structure Dyn where
  b : Nat
  L : Nat
  gh : Nat
  gt : Nat
  vl : Value
  n : Nat
  sel : Int
  vs : Int
  tmp : List Pk
  t : ByteArray
  k : Nat
  hs : List ByteArray
  ts : List ByteArray
  hsel : Nat
  lines : List ByteArray

structure St (base : Nat) (w : World) (I : Pid) (D : Dyn) : Prop where
  pr : Blk w I.p (prCells D.b I.r I.lb I.h I.c I.mode I.down I.ex) 96
  bp : base ≤ I.p
  scr : Scr base w I.r I.o D.b D.L I.c I.pre I.cols D.n D.t D.k I.q D.sel D.vs D.tmp
  hist : Hist base w I.h D.gh D.gt D.hs D.ts D.hsel
  ln : Ln base w I.lb I.x D.vl D.lines I.v1 I.v2 I.v3
  exi : Exi w I.ex I.et
  a1 : D.L ≠ D.gh
  a2 : D.L ≠ D.gt
  a3 : ∀ g, D.vl.ownBlock = some g → g ≠ D.gh ∧ g ≠ D.gt ∧ g ≠ D.L

theorem Ln.fr {base base' : Nat} {w w1 : World} {lb x : Nat} {vl v1 v2 v3 : Value} {ls : List ByteArray} {ts bs : List Nat} (h : Ln base w lb x vl ls v1 v2 v3) (hF : Fr base' ts bs w w1) (h1 : 51 ∉ ts ∧ 31 ∉ ts ∧ 9 ∉ ts) (hb : ∀ y ∈ bs, (∃ cs t, Blk w y cs t ∧ t ≠ 51 ∧ t ≠ 31) ∧ vl.ownBlock ≠ some y) : Ln base w1 lb x vl ls v1 v2 v3 := by
  obtain ⟨e1, hL, hX, hO⟩ := h
  refine ⟨e1, hF.blk hL (.inr ⟨fun hm => ?_, h1.1⟩), hF.blk hX (.inr ⟨fun hm => ?_, h1.2.1⟩), hO.fr hF (fun g hg hm => (hb g hm).2 hg) h1.2.2⟩
  · obtain ⟨⟨cs, t, g1, g2, g3⟩, -⟩ := hb _ hm
    exact g2 (g1.inj hL).2
  · obtain ⟨⟨cs, t, g1, g2, g3⟩, -⟩ := hb _ hm
    exact g3 (g1.inj hX).2
theorem Exi.fr {w w1 : World} {base : Nat} {ex : Value} {text : ByteArray} {ts bs : List Nat} (h : Exi w ex text) (hF : Fr base ts bs w w1) (h1 : 25 ∉ ts) (hb : ∀ y ∈ bs, ∃ cs t, Blk w y cs t ∧ t ≠ 25) : Exi w1 ex text := by
  rcases h with h | ⟨sb, cs, h2, h3, h4, h5⟩
  · exact .inl h
  · refine .inr ⟨sb, cs, h2, hF.blk h3 (.inr ⟨fun hm => ?_, h1⟩), h4, h5⟩
    obtain ⟨ds, t, g1, g2⟩ := hb _ hm
    exact g2 (g1.inj h3).2

section
variable {base : Nat} {w w1 : World} {I : Pid} {D : Dyn}
theorem St.fr0 {base' : Nat} (h : St base w I D) (hF : Fr base' [] [] w w1) : St base w1 I D :=
  ⟨hF.blk0 h.pr, h.bp, h.scr.fr0 hF, h.hist.fr0 hF, h.ln.fr hF (by simp) (by simp), h.exi.fr0 hF, h.a1, h.a2, h.a3⟩
theorem St.drewN (h : St base w I D) (j : Nat) : St base (w.drewN j) I D := h.fr0 ((Fr.refl 0 [] [] w).drewN j)
theorem St.drew (h : St base w I D) : St base w.drew I D := h.fr0 ((Fr.refl 0 [] [] w).drew)

/-- What a prompt's blocks are. -/
theorem St.blks (h : St base w I D) : (∃ cs, Blk w D.b cs 121) ∧ (∃ cs, Blk w D.L cs 9) ∧ (∃ cs, Blk w I.c cs 87) ∧ (∃ cs, Blk w I.r cs 128) ∧ (∃ cs, Blk w I.h cs 118) ∧ (∃ cs, Blk w D.gh cs 9) ∧ (∃ cs, Blk w D.gt cs 9) := by
  obtain ⟨pc, hpc, -, hB, hbr⟩ := h.scr.rn.ren
  obtain ⟨e1, e2, e3, e4, vh, vt, hHb, hH, hT⟩ := h.hist
  exact ⟨h.scr.buf.blk.1, h.scr.buf.blk.2, h.scr.cm.blk, ⟨_, hB⟩, ⟨_, hHb⟩, hH.blk, hT.blk⟩

/-- Behind a call that changes the renderer, the buffer or the completion manager. -/
theorem St.upd {n k : Nat} {t : ByteArray} {sel vs : Int} {tmp : List Pk} (h : St base w I D) (hF : Fr base [5, 143] [D.b, D.L, I.r, I.c] w w1) (hs : Scr base w1 I.r I.o D.b D.L I.c I.pre I.cols n t k I.q sel vs tmp) :
    St base w1 I { D with n := n, t := t, k := k, sel := sel, vs := vs, tmp := tmp } := by
  obtain ⟨⟨csb, hb⟩, ⟨csL, hL⟩, ⟨csc, hc⟩, ⟨csr, hr⟩, ⟨csh, hh⟩, ⟨csg, hg⟩, ⟨cst, ht⟩⟩ := h.blks
  have key : ∀ y ∈ [D.b, D.L, I.r, I.c], ∃ cs t, Blk w y cs t ∧ (t = 121 ∨ t = 9 ∨ t = 128 ∨ t = 87) := by
    intro y hy
    simp only [List.mem_cons, List.not_mem_nil, or_false] at hy
    rcases hy with rfl | rfl | rfl | rfl
    · exact ⟨_, _, hb, by simp⟩
    · exact ⟨_, _, hL, by simp⟩
    · exact ⟨_, _, hr, by simp⟩
    · exact ⟨_, _, hc, by simp⟩
  have far : ∀ (y : Nat) (ds : Array Value) (ty : TypeId), Blk w y ds ty → ty ≠ 121 → ty ≠ 9 → ty ≠ 128 → ty ≠ 87 → y ∉ [D.b, D.L, I.r, I.c] := by
    intro y ds ty hy g1 g2 g3 g4 hm
    obtain ⟨cs, tz, e1, e2⟩ := key y hm
    have := (hy.inj e1).2
    subst this
    rcases e2 with e | e | e | e
    · exact g1 e
    · exact g2 e
    · exact g3 e
    · exact g4 e
  have row : ∀ (y : Nat) (ds : Array Value), Blk w y ds 9 → y ≠ D.L → y ∉ [D.b, D.L, I.r, I.c] := by
    intro y ds hy hne hm
    simp only [List.mem_cons, List.not_mem_nil, or_false] at hm
    rcases hm with rfl | rfl | rfl | rfl
    · exact absurd (hy.inj hb).2 (by decide)
    · exact hne rfl
    · exact absurd (hy.inj hr).2 (by decide)
    · exact absurd (hy.inj hc).2 (by decide)
  refine ⟨hF.blk h.pr (.inr ⟨far _ _ _ h.pr (by decide) (by decide) (by decide) (by decide), by simp⟩), h.bp, hs, h.hist.fr hF (far _ _ _ hh (by decide) (by decide) (by decide) (by decide)) (row _ _ hg h.a1.symm) (row _ _ ht h.a2.symm) (by simp) (by simp), h.ln.fr hF (by simp) (fun y hy => ⟨?_, fun e => ?_⟩), h.exi.fr hF (by simp) (fun y hy => ?_), h.a1, h.a2, h.a3⟩
  · obtain ⟨cs, tz, e1, e2⟩ := key y hy
    refine ⟨cs, tz, e1, ?_, ?_⟩ <;> (rintro rfl; simp at e2)
  · obtain ⟨-, ds, e1⟩ := row_blk h.ln.2.2.2 y e
    exact row y ds e1 (h.a3 y e).2.2 hy
  · obtain ⟨cs, tz, e1, e2⟩ := key y hy
    refine ⟨cs, tz, e1, ?_⟩
    rintro rfl
    simp at e2
end
end Go.Proofs.YtiepopbmbgfhkaaGreat
