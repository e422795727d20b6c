/-
  Regions that only make constants: reckoned whole.
-/
import Derived.Test.YtiepopbmbgfhkaaGreatA0
import Derived.Great.BuildSlice
namespace Go.Proofs.YtiepopbmbgfhkaaGreat
open Go.RowKit
set_option maxHeartbeats 2000000
set_option maxRecDepth 20000
set_option linter.unusedVariables false
set_option linter.unusedSimpArgs false

def builtSlice (P : Program) (t : TypeId) (len : Nat) (parts : List (Nat × Value)) : Option (TypeId × Array Value) :=
  match P.underlying t with
  | some (.slice e) => match P.info? e with
    | some ie => match ie.zero with
      | some z => if len * ie.size > 2 ^ 24 then none else if len * ie.size = 0 then none else
          (Instr.fill (fun i => some (i * ie.size, ie.size)) ((Array.range (len * ie.size)).map (z.cells[· % z.cells.size]!)) parts).map fun cs => (e, cs)
      | none => none
    | none => none
  | _ => none

/-- Blocks made one behind the other, the last one first. -/
def allocs (w : World) : List Obj → World
  | [] => w
  | o :: l => (allocs w l).alloc o
theorem allocs_size (w : World) : ∀ l, (allocs w l).heap.size = w.heap.size + l.length
  | [] => rfl
  | o :: l => by simp [allocs, allocs_size w l]; omega
theorem allocs_fr (w : World) : ∀ l, Fr 0 [] [] w (allocs w l)
  | [] => Fr.refl _ _ _ _
  | o :: l => (allocs_fr w l).alloc o
theorem allocs_blk (w : World) (cs : Array Value) (t : TypeId) : ∀ (l : List Obj) (i : Nat), l[i]? = some (.cells cs t) → Blk (allocs w l) (w.heap.size + (l.length - 1 - i)) cs t
  | [], i, h => by cases h
  | o :: l, 0, h => by
    simp only [List.getElem?_cons_zero, Option.some.injEq] at h
    subst h
    exact Blk.new' (by rw [allocs_size]; simp) _ _
  | o :: l, i + 1, h => by
    simp only [List.getElem?_cons_succ] at h
    have h1 := (allocs_blk w cs t l i h).alloc o
    have hi : i < l.length := (List.getElem?_eq_some_iff.1 h).1
    have e : (o :: l).length - 1 - (i + 1) = l.length - 1 - i := by simp; omega
    rw [e]
    exact h1

/-- One operation that makes constants; M: how many blocks there were at first; os: those made since, the last one first. -/
def evalOp (P : Program) (M : Nat) (o : Oper) (a : Act) (os : List Obj) : Option (Act × List Obj) :=
  match o.guard with
  | some _ => none
  | none => match o.op with
    | .build t parts => (P.built t (parts.map fun (i, x) => (i, a.eval x)).toList).map fun cells => (a.put o.dst (.agg cells), os)
    | .buildSlice t len parts => (builtSlice P t len (parts.map fun (i, x) => (i, a.eval x)).toList).map fun (e, cells) => (a.put o.dst (.slice (some ⟨M + os.length, 0, none⟩) len len), .cells cells e :: os)
    | .assign x => some (a.put o.dst (a.eval x), os)
    | _ => none

def evalOps (P : Program) (M : Nat) : List Oper → Act → List Obj → Option (Act × List Obj)
  | [], a, os => some (a, os)
  | o :: l, a, os => match evalOp P M o a os with
    | some r => evalOps P M l r.1 r.2
    | none => none

theorem wpList_evalOps {P : Program} {ops : Array Oper} {Q : Exit → Act → World → Prop} {w : World} {M : Nat} (hM : w.heap.size = M) : ∀ (l : List Oper) (a : Act) (os : List Obj) (r : Act × List Obj), evalOps P M l a os = some r → Q .normal r.1 (allocs w r.2) → wpList P ops Q l a (allocs w os)
  | [], a, os, r, h, hQ => by
    simp only [evalOps, Option.some.injEq] at h
    subst h; exact hQ
  | o :: l, a, os, r, h, hQ => by
    simp only [evalOps] at h
    split at h
    · rename_i r1 h1
      obtain ⟨a1, os1⟩ := r1
      have ih := wpList_evalOps (ops := ops) (Q := Q) hM l a1 os1 r h hQ
      unfold evalOp at h1
      split at h1
      · cases h1
      · rename_i hg
        refine wpList_plain hg fun K hK => ?_
        split at h1
        · rename_i t parts ho
          rw [Option.map_eq_some_iff] at h1
          obtain ⟨cells, hc, e⟩ := h1
          simp only [Prod.mk.injEq] at e
          obtain ⟨rfl, rfl⟩ := e
          exact wp_build t parts ho (by rw [hc]; rfl) (by rw [hc]; exact hK _ _ ih)
        · rename_i t len parts ho
          rw [Option.map_eq_some_iff] at h1
          obtain ⟨⟨e, cells⟩, hc, e1⟩ := h1
          simp only [Prod.mk.injEq] at e1
          obtain ⟨rfl, rfl⟩ := e1
          unfold builtSlice at hc
          split at hc
          · rename_i e' hu
            split at hc
            · rename_i ie hie
              split at hc
              · rename_i z hz
                split at hc
                · cases hc
                · rename_i hsm
                  split at hc
                  · cases hc
                  · rename_i hpos
                    rw [Option.map_eq_some_iff] at hc
                    obtain ⟨cs, hf, e2⟩ := hc
                    simp only [Prod.mk.injEq] at e2
                    obtain ⟨rfl, rfl⟩ := e2
                    have hr := run_buildSlice (P := P) (allocs w os) t e' len (parts.map fun (i, x) => (i, a.eval x)) cs ie z hu hie hz hsm hpos hf
                    rw [allocs_size, hM] at hr
                    unfold Oper.wp execOp
                    simp only [ho, Sem.run_bind, hr, Result.andThen_ok]
                    exact hK _ _ ih
              · cases hc
            · cases hc
          · cases hc
        · rename_i x ho
          simp only [Option.some.injEq, Prod.mk.injEq] at h1
          obtain ⟨rfl, rfl⟩ := h1
          unfold Oper.wp execOp
          simp only [ho]
          exact hK _ _ ih
        · cases h1
    · cases h
end Go.Proofs.YtiepopbmbgfhkaaGreat
