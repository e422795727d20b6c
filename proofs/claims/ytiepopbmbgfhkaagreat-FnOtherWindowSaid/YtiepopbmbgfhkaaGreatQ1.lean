/-
  A region that draws its order, walked by a plan: operations that yield one value in every world of a kind S are taken first; the others are carried out when they alone (or two of them) may come up; S is shown anew only behind those operations that may come up ahead of one that was taken first.
  Blocks of memory that are known whole (Blk), and the frame of a call (Fr): which blocks a call may have changed.
  Texts of ASCII: to runes and back; laws for the operations that do that.
-/
import Derived.OrdersHeld
import Derived.StillTail
import Derived.KernelRfl
import Derived.Deep.RegionHeld3
import Derived.Test.YtiepopbmbgfhkaaGreatProg
import Derived.WalkKit
import Derived.WalkSpells
import Derived.WalkLawsBesides
import Derived.Deep.QuietTactic
import Derived.BigQuiet
import Derived.Deep.AppendLies
import Derived.OneCell
import Derived.Lib.Hide
import Derived.BigCall
import Derived.Deep.DrawnRows
import Derived.Laws.Cover4
import Derived.Deep.Cut
import Derived.StillTailTactics
namespace Go.Proofs.YtiepopbmbgfhkaaGreat
open Go

section
variable {P : Program} {ops : Array Oper} {Q : Exit → Act → World → Prop} {md : Region.Mode} {S : World → Prop}

/-- Operation j waits for operation i, directly or through others. -/
def reach (md : Region.Mode) (ops : Array Oper) : Nat → Nat → Nat → Bool
  | 0, _, _ => false
  | n + 1, j, i => match ops[j]? with
    | some o => o.after.any fun e => Region.binds md e && (e.on == i || reach md ops n e.on i)
    | none => false

/-- What is listed is closed: what a listed operation waits for is listed. -/
def Closed (md : Region.Mode) (ops : Array Oper) (listed : Array Bool) : Prop :=
  listed.size = ops.size ∧ ∀ j oj, ops[j]? = some oj → listed.getD j false = true → ∀ e ∈ oj.after, Region.binds md e = true → listed.getD e.on false = true

theorem Closed.set {listed : Array Bool} {i : Nat} (h : Closed md ops listed) (hi : i ∈ Region.ready md ops listed) : Closed md ops (listed.setIfInBounds i true) := by
  obtain ⟨_, oi, hoi, hall⟩ := mem_ready.1 hi
  refine ⟨by simp [h.1], fun j oj hj hl e he hb => ?_⟩
  by_cases hij : i = j
  · subst hij
    have : oj = oi := Option.some.inj (hj.symm.trans hoi)
    subst this
    exact getD_set_true (hall e he hb)
  · rw [getD_set_ne false hij] at hl
    exact getD_set_true (h.2 j oj hj hl e he hb)

theorem reach_listed {listed : Array Bool} {i : Nat} (h : Closed md ops listed) : ∀ (n j : Nat), reach md ops n j i = true →
    (∀ oj, ops[j]? = some oj → ∀ e ∈ oj.after, Region.binds md e = true → listed.getD e.on false = true) → listed.getD i false = true
  | 0, _, hr, _ => by simp [reach] at hr
  | n + 1, j, hr, hj => by
    unfold reach at hr
    split at hr
    · rename_i o ho
      obtain ⟨e, he, hb⟩ := Array.any_eq_true'.1 hr
      simp only [Bool.and_eq_true, Bool.or_eq_true, beq_iff_eq] at hb
      have hl := hj o ho e he hb.1
      rcases hb.2 with hx | hx
      · rw [← hx]; exact hl
      · exact reach_listed h n e.on hx fun oj hoj e' he' hb' => h.2 e.on oj hoj hl e' he' hb'
    · cases hr

/-- S must be shown anew behind operation j: there is one among those taken first that j does not wait for. -/
def need (md : Region.Mode) (ops : Array Oper) (ts es : List Nat) (j : Nat) : Bool := es.contains j && ts.any fun i => i != j && !reach md ops ops.size j i

theorem need_of_ready {listed : Array Bool} {ts es : List Nat} {i j : Nat} (he : es.contains j = true) (h : Closed md ops listed) (hi : i ∈ ts) (hun : listed.getD i true = false) (hj : j ∈ Region.ready md ops listed) (hne : j ≠ i) : need md ops ts es j = true := by
  unfold need
  rw [he, Bool.true_and, List.any_eq_true]
  refine ⟨i, hi, ?_⟩
  simp only [Bool.and_eq_true, bne_iff_ne, Bool.not_eq_true']
  refine ⟨fun e => hne e.symm, ?_⟩
  cases hr : reach md ops ops.size j i with
  | false => rfl
  | true =>
    obtain ⟨_, oj, hoj, hall⟩ := mem_ready.1 hj
    have := reach_listed h _ _ hr fun oj' hoj' e he hb => by
      have : oj' = oj := Option.some.inj (hoj'.symm.trans hoj)
      subst this
      exact hall e he hb
    rw [getD_both hun] at this
    cases this

/-- Whatever order is picked; S is shown behind the operations that need it. -/
def wpAnyN (P : Program) (md : Region.Mode) (ops : Array Oper) (Q : Exit → Act → World → Prop) (S : World → Prop) (ts es : List Nat) : Nat → Array Bool → Act → World → Prop
  | 0, listed, a, w => Region.ready md ops listed = [] ∧ Q .normal a w
  | fuel + 1, listed, a, w =>
    (Region.ready md ops listed = [] → Q .normal a w) ∧
    ∀ i ∈ Region.ready md ops listed, wpOp P ops Q i (fun a' w' => ((need md ops ts es i = true → S w') ∧ (es.contains i = false → w' = w)) ∧ wpAnyN P md ops Q S ts es fuel (listed.setIfInBounds i true) a' w') a w

theorem wpAny_of_N {ts es : List Nat} : ∀ (fuel : Nat) (listed : Array Bool) (a : Act) (w : World), wpAnyN P md ops Q S ts es fuel listed a w → wpAny P md ops Q fuel listed a w
  | 0, _, _, _, h => h
  | fuel + 1, _, _, _, h => ⟨h.1, fun i hi => wpOp_mono (fun a' w' h' => wpAny_of_N fuel _ a' w' h'.2) (h.2 i hi)⟩

theorem wpAnyN_first {ts es : List Nat} {i : Nat} {oi : Oper} {v : Value} (hi : ops[i]? = some oi) (his : i ∈ ts) (hie : es.contains i = false) (hsel : ∀ (j : Nat) (o : Oper) cs b, ops[j]? = some o → o.op ≠ .select cs b)
    (hQ : ∀ c a w, Q (.panic c) (a.put oi.dst v) w → Q (.panic c) a w) :
    ∀ (fuel : Nat) (listed : Array Bool) (a : Act) (w : World), Closed md ops listed →
      (∀ j oj, ops[j]? = some oj → j ≠ i → listed.getD j true = false → (∀ e ∈ oj.after, Region.binds md e = true → e.on ≠ i) → oi.apart ops oj = true) →
      i ∈ Region.ready md ops listed → YieldsIf P ops S oi v a → S w →
      wpAnyN P md ops Q S ts es fuel (listed.setIfInBounds i true) (a.put oi.dst v) w → wpAnyN P md ops Q S ts es (fuel + 1) listed a w := by
  have hself : ∀ w, ((need md ops ts es i = true → S w) ∧ (es.contains i = false → w = w)) := fun w => ⟨fun hn => absurd hn (by simp only [need, hie, Bool.false_and]; exact Bool.false_ne_true), fun _ => rfl⟩
  intro fuel
  induction fuel with
  | zero =>
    intro listed a w _ _ hr hy hS H
    refine ⟨fun h => (by rw [h] at hr; cases hr), fun j hj => ?_⟩
    by_cases hji : j = i
    · subst hji; exact hy.wpOp hi hS ⟨hself w, H⟩
    · have := ready_mono hj hji
      rw [H.1] at this
      cases this
  | succ fuel ih =>
    intro listed a w hcl hfree hr hy hS H
    refine ⟨fun h => (by rw [h] at hr; cases hr), fun j hj => ?_⟩
    by_cases hji : j = i
    · subst hji; exact hy.wpOp hi hS ⟨hself w, H⟩
    · have hun := (mem_ready.1 hr).1
      have h1 := H.2 j (ready_mono hj hji)
      obtain ⟨hjun, oj, hoj, hall⟩ := mem_ready.1 hj
      have hnot : ∀ e ∈ oj.after, Region.binds md e = true → e.on ≠ i := fun e he hb heq => by
        have h1 := hall e he hb
        rw [heq, getD_both hun] at h1
        cases h1
      have h2 := wpOp_putIf hoj (hfree j oj hoj hji hjun hnot) (fun cs b => hsel i oi cs b hi) (fun cs b => hsel j oj cs b hoj) hQ hy h1
      have hfree' : ∀ k ok, ops[k]? = some ok → k ≠ i → (listed.setIfInBounds j true).getD k true = false →
          (∀ e ∈ ok.after, Region.binds md e = true → e.on ≠ i) → oi.apart ops ok = true := fun k ok hk hki hun hno => by
        refine hfree k ok hk hki ?_ hno
        by_cases hjk : j = k
        · subst hjk; exact hjun
        · rw [getD_set_ne true hjk] at hun; exact hun
      refine wpOp_mono (fun a' w' h3 => ⟨h3.2.1, ih (listed.setIfInBounds j true) a' w' (hcl.set hj) hfree' (ready_mono hr (Ne.symm hji)) h3.1 ?_ ?_⟩) h2
      · cases he : es.contains j with
        | true => exact h3.2.1.1 (need_of_ready he hcl his hun hj hji)
        | false => rw [h3.2.1.2 he]; exact hS
      · rw [Array.setIfInBounds_comm _ _ hji]
        exact h3.2.2

theorem wpAnyN_pure {ts es : List Nat} {i : Nat} {oi : Oper} {v : Value} (hi : ops[i]? = some oi) (hie : es.contains i = false) (hsel : ∀ (j : Nat) (o : Oper) cs b, ops[j]? = some o → o.op ≠ .select cs b)
    (hQ : ∀ c a w, Q (.panic c) (a.put oi.dst v) w → Q (.panic c) a w) :
    ∀ (fuel : Nat) (listed : Array Bool) (a : Act) (w : World), Closed md ops listed →
      (∀ j oj, ops[j]? = some oj → j ≠ i → listed.getD j true = false → (∀ e ∈ oj.after, Region.binds md e = true → e.on ≠ i) → oi.apart ops oj = true) →
      i ∈ Region.ready md ops listed → YieldsIf P ops (fun _ => True) oi v a →
      wpAnyN P md ops Q S ts es fuel (listed.setIfInBounds i true) (a.put oi.dst v) w → wpAnyN P md ops Q S ts es (fuel + 1) listed a w := by
  have hself : ∀ w, ((need md ops ts es i = true → S w) ∧ (es.contains i = false → w = w)) := fun w => ⟨fun hn => absurd hn (by simp only [need, hie, Bool.false_and]; exact Bool.false_ne_true), fun _ => rfl⟩
  intro fuel
  induction fuel with
  | zero =>
    intro listed a w _ _ hr hy H
    refine ⟨fun h => (by rw [h] at hr; cases hr), fun j hj => ?_⟩
    by_cases hji : j = i
    · subst hji; exact hy.wpOp hi trivial ⟨hself w, H⟩
    · have := ready_mono hj hji
      rw [H.1] at this
      cases this
  | succ fuel ih =>
    intro listed a w hcl hfree hr hy H
    refine ⟨fun h => (by rw [h] at hr; cases hr), fun j hj => ?_⟩
    by_cases hji : j = i
    · subst hji; exact hy.wpOp hi trivial ⟨hself w, H⟩
    · have hun := (mem_ready.1 hr).1
      have h1 := H.2 j (ready_mono hj hji)
      obtain ⟨hjun, oj, hoj, hall⟩ := mem_ready.1 hj
      have hnot : ∀ e ∈ oj.after, Region.binds md e = true → e.on ≠ i := fun e he hb heq => by
        have h1 := hall e he hb
        rw [heq, getD_both hun] at h1
        cases h1
      have h2 := wpOp_putIf hoj (hfree j oj hoj hji hjun hnot) (fun cs b => hsel i oi cs b hi) (fun cs b => hsel j oj cs b hoj) hQ hy h1
      have hfree' : ∀ k ok, ops[k]? = some ok → k ≠ i → (listed.setIfInBounds j true).getD k true = false →
          (∀ e ∈ ok.after, Region.binds md e = true → e.on ≠ i) → oi.apart ops ok = true := fun k ok hk hki hun hno => by
        refine hfree k ok hk hki ?_ hno
        by_cases hjk : j = k
        · subst hjk; exact hjun
        · rw [getD_set_ne true hjk] at hun; exact hun
      refine wpOp_mono (fun a' w' h3 => ⟨h3.2.1, ih (listed.setIfInBounds j true) a' w' (hcl.set hj) hfree' (ready_mono hr (Ne.symm hji)) h3.1 ?_⟩) h2
      · rw [Array.setIfInBounds_comm _ _ hji]
        exact h3.2.2

/-- A plan. -/
inductive Pl where
  | done
  | take (i : Nat) (r : Pl)
  | pure (i : Nat) (r : Pl)
  | go (i : Nat) (r : Pl)
  | go2 (i : Nat) (r : Pl) (j : Nat) (s : Pl)

def Pl.ok (md : Region.Mode) (ops : Array Oper) (ts es : List Nat) : Pl → Array Bool → Bool
  | .done, listed => (Region.ready md ops listed).isEmpty
  | .take i r, listed => ts.contains i && !es.contains i && (Region.ready md ops listed).contains i && Region.free md ops listed i && r.ok md ops ts es (listed.setIfInBounds i true)
  | .pure i r, listed => !es.contains i && (Region.ready md ops listed).contains i && Region.free md ops listed i && r.ok md ops ts es (listed.setIfInBounds i true)
  | .go i r, listed => es.contains i && decide (Region.ready md ops listed = [i]) && r.ok md ops ts es (listed.setIfInBounds i true)
  | .go2 i r j s, listed => es.contains i && es.contains j && decide (Region.ready md ops listed = [i, j]) && r.ok md ops ts es (listed.setIfInBounds i true) && s.ok md ops ts es (listed.setIfInBounds j true)

def Pl.len : Pl → Nat
  | .done => 0
  | .take _ r => r.len + 1
  | .pure _ r => r.len + 1
  | .go _ r => r.len + 1
  | .go2 _ r _ s => max r.len s.len + 1

/-- The walk of a plan. -/
def wpPlan (P : Program) (md : Region.Mode) (ops : Array Oper) (Q : Exit → Act → World → Prop) (S : World → Prop) (ts es : List Nat) : Pl → Act → World → Prop
  | .done, a, w => Q .normal a w
  | .take i r, a, w => ∃ o v, ops[i]? = some o ∧ YieldsIf P ops S o v a ∧ S w ∧ (∀ c w', Q (.panic c) (a.put o.dst v) w' → Q (.panic c) a w') ∧ wpPlan P md ops Q S ts es r (a.put o.dst v) w
  | .pure i r, a, w => ∃ o v, ops[i]? = some o ∧ YieldsIf P ops (fun _ => True) o v a ∧ (∀ c w', Q (.panic c) (a.put o.dst v) w' → Q (.panic c) a w') ∧ wpPlan P md ops Q S ts es r (a.put o.dst v) w
  | .go i r, a, w => wpOp P ops Q i (fun a' w' => (need md ops ts es i = true → S w') ∧ wpPlan P md ops Q S ts es r a' w') a w
  | .go2 i r j s, a, w => wpOp P ops Q i (fun a' w' => (need md ops ts es i = true → S w') ∧ wpPlan P md ops Q S ts es r a' w') a w ∧
      wpOp P ops Q j (fun a' w' => (need md ops ts es j = true → S w') ∧ wpPlan P md ops Q S ts es s a' w') a w

theorem wpAnyN_more {ts es : List Nat} : ∀ (n m : Nat) (listed : Array Bool) (a : Act) (w : World), n ≤ m → wpAnyN P md ops Q S ts es n listed a w → wpAnyN P md ops Q S ts es m listed a w
  | 0, 0, _, _, _, _, h => h
  | 0, m + 1, _, _, _, _, h => ⟨fun _ => h.2, fun i hi => by rw [h.1] at hi; cases hi⟩
  | n + 1, 0, _, _, _, hnm, _ => absurd hnm (by omega)
  | n + 1, m + 1, listed, a, w, hnm, h => ⟨h.1, fun i hi => wpOp_mono (fun a' w' h' => ⟨h'.1, wpAnyN_more n m _ a' w' (by omega) h'.2⟩) (h.2 i hi)⟩

theorem wpAnyN_of_plan {ts es : List Nat} (hsel : Region.noSelect ops = true) (hQ : ∀ c a d v w, Q (.panic c) (Act.put a d v) w → Q (.panic c) a w) : ∀ (p : Pl) (listed : Array Bool) (a : Act) (w : World), Closed md ops listed → p.ok md ops ts es listed = true →
    wpPlan P md ops Q S ts es p a w → wpAnyN P md ops Q S ts es p.len listed a w
  | .done, listed, a, w, _, hok, h => ⟨by simpa [Pl.ok] using hok, h⟩
  | .take i r, listed, a, w, hcl, hok, h => by
    simp only [Pl.ok, Bool.and_eq_true, Bool.not_eq_true'] at hok
    obtain ⟨⟨⟨⟨hts, hie⟩, hr⟩, hf⟩, hrest⟩ := hok
    obtain ⟨o, v, ho, hy, hS, hq, hp⟩ := h
    have hr' : i ∈ Region.ready md ops listed := by simpa using hr
    exact wpAnyN_first ho (by simpa using hts) hie (Region.noSelect_spec hsel) (fun c a w h => hQ c _ _ _ w h) _ listed a w hcl (Region.free_spec ho hf) hr' hy hS (wpAnyN_of_plan hsel hQ r _ _ w (hcl.set hr') hrest hp)
  | .pure i r, listed, a, w, hcl, hok, h => by
    simp only [Pl.ok, Bool.and_eq_true, Bool.not_eq_true'] at hok
    obtain ⟨⟨⟨hie, hr⟩, hf⟩, hrest⟩ := hok
    obtain ⟨o, v, ho, hy, hq, hp⟩ := h
    have hr' : i ∈ Region.ready md ops listed := by simpa using hr
    exact wpAnyN_pure ho hie (Region.noSelect_spec hsel) (fun c a w h => hQ c _ _ _ w h) _ listed a w hcl (Region.free_spec ho hf) hr' hy (wpAnyN_of_plan hsel hQ r _ _ w (hcl.set hr') hrest hp)
  | .go i r, listed, a, w, hcl, hok, h => by
    simp only [Pl.ok, Bool.and_eq_true, decide_eq_true_eq] at hok
    obtain ⟨⟨hie, hr⟩, hrest⟩ := hok
    refine ⟨fun h0 => (by rw [hr] at h0; cases h0), fun j hj => ?_⟩
    have hj' := hj
    rw [hr] at hj
    obtain rfl : j = i := by simpa using hj
    exact wpOp_mono (fun a' w' h' => ⟨⟨h'.1, fun h0 => absurd h0 (by rw [hie]; exact Bool.noConfusion)⟩, wpAnyN_of_plan hsel hQ r _ a' w' (hcl.set hj') hrest h'.2⟩) h
  | .go2 i r j s, listed, a, w, hcl, hok, h => by
    simp only [Pl.ok, Bool.and_eq_true, decide_eq_true_eq] at hok
    obtain ⟨⟨⟨⟨hie, hje⟩, hr⟩, hok1⟩, hok2⟩ := hok
    refine ⟨fun h0 => (by rw [hr] at h0; cases h0), fun k hk => ?_⟩
    have hk' := hk
    rw [hr] at hk
    have : k = i ∨ k = j := by simpa using hk
    rcases this with rfl | rfl
    · exact wpOp_mono (fun a' w' h' => ⟨⟨h'.1, fun h0 => absurd h0 (by rw [hie]; exact Bool.noConfusion)⟩, wpAnyN_more _ _ _ a' w' (Nat.le_max_left _ _) (wpAnyN_of_plan hsel hQ r _ a' w' (hcl.set hk') hok1 h'.2)⟩) h.1
    · exact wpOp_mono (fun a' w' h' => ⟨⟨h'.1, fun h0 => absurd h0 (by rw [hje]; exact Bool.noConfusion)⟩, wpAnyN_more _ _ _ a' w' (Nat.le_max_right _ _) (wpAnyN_of_plan hsel hQ s _ a' w' (hcl.set hk') hok2 h'.2)⟩) h.2
end

section
variable {P : Program} {Q : Exit → Act → World → Prop} {S : World → Prop} {ts es : List Nat} {l : List Oper} {a : Act} {w : World}
theorem replicate_closed (md : Region.Mode) (ops : Array Oper) : Closed md ops (Array.replicate ops.size false) :=
  ⟨by simp, fun j oj _ hl => by rw [getD_replicate_false] at hl; cases hl⟩

/-- A region that draws its order, by a plan (it must not panic). -/
theorem wp_region_plan {id : Nat} (ts es : List Nat) (S : World → Prop) (p : Pl) (hm : P.follows .mixedOrders = true)
    (hB : (Region.noSelect l.toArray && p.ok .any l.toArray ts es (Array.replicate l.toArray.size false) && decide (p.len ≤ l.toArray.size)) = true)
    (h : wpPlan P .any l.toArray (NoPanic Q) S ts es p a w.drew) : (Code.region id l.toArray true).wp P Q a w := by
  simp only [Bool.and_eq_true, decide_eq_true_eq] at hB
  obtain ⟨⟨hsel, hok⟩, hlen⟩ := hB
  refine wp_region_noPanic (wp_region_any hm (wpAny_of_N (S := S) (ts := ts) (es := es) _ _ _ _ (wpAnyN_more _ _ _ _ _ hlen ?_)))
  exact wpAnyN_of_plan hsel (fun c a d v w h => h.elim) p _ a w.drew (replicate_closed _ _) hok h

theorem plan_done (h : Q .normal a w) : wpPlan P .any l.toArray (NoPanic Q) S ts es .done a w := h
theorem plan_take {i : Nat} {r : Pl} {o : Oper} {v : Value} (ho : l[i]? = some o) (hS : S w) (hw : Region.wanted o (yielded l.toArray a.tmps) = true) (hrun : ∀ w', S w' → (execOp a.eval o).run P w' = .ok (.value v) w')
    (h : wpPlan P .any l.toArray (NoPanic Q) S ts es r (a.put o.dst v) w) : wpPlan P .any l.toArray (NoPanic Q) S ts es (.take i r) a w :=
  ⟨o, v, by simpa using ho, .inl ⟨hw, hrun⟩, hS, fun _ _ h => h.elim, h⟩
theorem plan_skip {i : Nat} {r : Pl} {o : Oper} (ho : l[i]? = some o) (hS : S w) (hw : Region.wanted o (yielded l.toArray a.tmps) = false)
    (h : wpPlan P .any l.toArray (NoPanic Q) S ts es r (a.put o.dst undef) w) : wpPlan P .any l.toArray (NoPanic Q) S ts es (.take i r) a w :=
  ⟨o, undef, by simpa using ho, .inr ⟨hw, rfl⟩, hS, fun _ _ h => h.elim, h⟩
/-- An operation that looks at no memory. -/
theorem plan_pure {i : Nat} {r : Pl} {o : Oper} {v : Value} (ho : l[i]? = some o) (hw : Region.wanted o (yielded l.toArray a.tmps) = true) (hrun : ∀ w', (execOp a.eval o).run P w' = .ok (.value v) w')
    (h : wpPlan P .any l.toArray (NoPanic Q) S ts es r (a.put o.dst v) w) : wpPlan P .any l.toArray (NoPanic Q) S ts es (.pure i r) a w :=
  ⟨o, v, by simpa using ho, .inl ⟨hw, fun w' _ => hrun w'⟩, fun _ _ h => h.elim, h⟩
theorem plan_skipP {i : Nat} {r : Pl} {o : Oper} (ho : l[i]? = some o) (hw : Region.wanted o (yielded l.toArray a.tmps) = false)
    (h : wpPlan P .any l.toArray (NoPanic Q) S ts es r (a.put o.dst undef) w) : wpPlan P .any l.toArray (NoPanic Q) S ts es (.pure i r) a w :=
  ⟨o, undef, by simpa using ho, .inr ⟨hw, rfl⟩, fun _ _ h => h.elim, h⟩
/-- A copy. -/
theorem plan_move {i : Nat} {r : Pl} {o : Oper} {x : Operand} (ho : l[i]? = some o) (hop : o.op = .move x) (hw : Region.wanted o (yielded l.toArray a.tmps) = true)
    (h : wpPlan P .any l.toArray (NoPanic Q) S ts es r (a.put o.dst (a.eval x)) w) : wpPlan P .any l.toArray (NoPanic Q) S ts es (.pure i r) a w :=
  plan_pure ho hw (fun w' => by unfold execOp; simp only [hop]; rfl) h
/-- An operation that comes up alone; S need not be shown. -/
theorem plan_go {i : Nat} {r : Pl} {o : Oper} (ho : l[i]? = some o) (hn : need .any l.toArray ts es i = false) (hw : Region.wanted o (yielded l.toArray a.tmps) = true)
    (h : ∀ K : Act → World → Prop, (∀ a w, wpPlan P .any l.toArray (NoPanic Q) S ts es r a w → K a w) → o.wp P a w K (NoPanic Q)) : wpPlan P .any l.toArray (NoPanic Q) S ts es (.go i r) a w := by
  show wpOp _ _ _ _ _ _ _
  unfold wpOp
  have ho' : l.toArray[i]? = some o := by simpa using ho
  simp only [ho', hw, if_true]
  exact .inl (h _ fun a w hp => ⟨fun h0 => absurd h0 (by rw [hn]; exact Bool.false_ne_true), hp⟩)
/-- .. behind which S is shown anew. -/
theorem plan_goS {i : Nat} {r : Pl} {o : Oper} (ho : l[i]? = some o) (hw : Region.wanted o (yielded l.toArray a.tmps) = true)
    (h : ∀ K : Act → World → Prop, (∀ a w, S w → wpPlan P .any l.toArray (NoPanic Q) S ts es r a w → K a w) → o.wp P a w K (NoPanic Q)) : wpPlan P .any l.toArray (NoPanic Q) S ts es (.go i r) a w := by
  show wpOp _ _ _ _ _ _ _
  unfold wpOp
  have ho' : l.toArray[i]? = some o := by simpa using ho
  simp only [ho', hw, if_true]
  exact .inl (h _ fun a w hS hp => ⟨fun _ => hS, hp⟩)
theorem plan_goSkip {i : Nat} {r : Pl} {o : Oper} (ho : l[i]? = some o) (hw : Region.wanted o (yielded l.toArray a.tmps) = false) (hS : need .any l.toArray ts es i = true → S w)
    (h : wpPlan P .any l.toArray (NoPanic Q) S ts es r (a.put o.dst undef) w) : wpPlan P .any l.toArray (NoPanic Q) S ts es (.go i r) a w := by
  show wpOp _ _ _ _ _ _ _
  unfold wpOp
  have ho' : l.toArray[i]? = some o := by simpa using ho
  simp only [ho', hw, Bool.false_eq_true, if_false]
  exact ⟨hS, h⟩
/-- Two that may come up. -/
theorem plan_go2 {i j : Nat} {r s : Pl} {o u : Oper} (ho : l[i]? = some o) (hu : l[j]? = some u) (hw : Region.wanted o (yielded l.toArray a.tmps) = true) (hw2 : Region.wanted u (yielded l.toArray a.tmps) = true)
    (h : ∀ K : Act → World → Prop, (∀ a w, S w → wpPlan P .any l.toArray (NoPanic Q) S ts es r a w → K a w) → o.wp P a w K (NoPanic Q))
    (h2 : ∀ K : Act → World → Prop, (∀ a w, S w → wpPlan P .any l.toArray (NoPanic Q) S ts es s a w → K a w) → u.wp P a w K (NoPanic Q)) : wpPlan P .any l.toArray (NoPanic Q) S ts es (.go2 i r j s) a w := by
  refine ⟨?_, ?_⟩
  · unfold wpOp
    have ho' : l.toArray[i]? = some o := by simpa using ho
    simp only [ho', hw, if_true]
    exact .inl (h _ fun a w hS hp => ⟨fun _ => hS, hp⟩)
  · unfold wpOp
    have hu' : l.toArray[j]? = some u := by simpa using hu
    simp only [hu', hw2, if_true]
    exact .inl (h2 _ fun a w hS hp => ⟨fun _ => hS, hp⟩)
end
end Go.Proofs.YtiepopbmbgfhkaaGreat

namespace Go.Proofs.YtiepopbmbgfhkaaGreat
open Go.RowKit

@[go_sem] theorem alloc_drewN (w : World) (n : Nat) (o : Obj) : (w.drewN n).alloc o = (w.alloc o).drewN n := rfl
@[go_sem] theorem setCell_drewN (w : World) (n : Nat) (a : Addr) (v : Value) : (w.drewN n).setCell a v = (w.setCell a v).drewN n := rfl
@[go_sem] theorem shape_drewN (w : World) (n : Nat) (r : Nat) : (w.drewN n).shape? r = w.shape? r := rfl

theorem hmix : Tryz.prog.follows .mixedOrders = true := by kernel_rfl
theorem wrap_in {x : Int} (h0 : -9223372036854775808 ≤ x) (h1 : x ≤ 9223372036854775807) : IntKind.i64.wrap x = x := IntWalk.i64_in _ (by omega)
theorem str_inj {a b : ByteArray} (h : a.toList = b.toList) : a = b := by
  apply ByteArray.ext
  apply Array.ext'
  rw [← ByteArray.toList_eq, ← ByteArray.toList_eq]
  exact h
theorem str_ne {a b : ByteArray} (h : a ≠ b) : (a.toList == b.toList) = false := by
  rw [beq_eq_false_iff_ne]
  exact fun e => h (str_inj e)
theorem int_ne {a b : Int} (h : a ≠ b) : (a == b) = false ∧ (a != b) = true := by
  refine ⟨?_, ?_⟩ <;> simp [h]
theorem str_empty {a : ByteArray} : a.toList.isEmpty = decide (a.size = 0) := by
  rw [ByteArray.toList_eq]
  cases h : a.data.toList with
  | nil => have : a.size = 0 := by show a.data.size = 0; rw [← Array.length_toList, h]; rfl
           simp [this]
  | cons x l => have : a.size ≠ 0 := by show a.data.size ≠ 0; rw [← Array.length_toList, h]; simp
                simp [this]

/-- Block b is a row of these cells, of this type of elements, and may be written. -/
def Blk (w : World) (b : Nat) (cs : Array Value) (t : TypeId) : Prop := w.heap[b]? = some (.cells cs t (0, 0))

section
variable {w : World} {b : Nat} {cs : Array Value} {t : TypeId}
theorem Blk.cell (h : Blk w b cs t) (i : Nat) : w.cell? ⟨b, i, none⟩ = cs[i]? := by
  unfold Blk at h
  simp [World.cell?, h]
theorem Blk.frozen (h : Blk w b cs t) (i : Nat) : w.frozen? ⟨b, i, none⟩ = false := by
  unfold Blk at h
  simp [World.frozen?, h]
theorem Blk.lt (h : Blk w b cs t) : b < w.heap.size := lt_of_block h
theorem Blk.ne {a : Nat} {ds : Array Value} {s : TypeId} (h : Blk w a ds s) (k : Blk w b cs t) (hst : s ≠ t) : a ≠ b := by
  rintro rfl
  unfold Blk at h k
  rw [h] at k
  simp only [Option.some.injEq, Obj.cells.injEq] at k
  exact hst k.2.1
theorem Blk.set (h : Blk w b cs t) (i : Nat) (v : Value) : Blk (w.setCell ⟨b, i, none⟩ v) b (cs.setIfInBounds i v) t := by
  have hlt := h.lt
  unfold Blk at *
  have h' : w.heap[b] = .cells cs t (0, 0) := by simpa [Array.getElem?_eq_getElem hlt] using h
  show (w.heap.modify b _)[b]? = _
  rw [Array.getElem?_eq_getElem (by simpa using hlt), Array.getElem_modify_self, h']
  rfl
theorem Blk.other (h : Blk w b cs t) {a : Addr} (ha : b ≠ a.block) (v : Value) : Blk (w.setCell a v) b cs t := by
  unfold Blk at *
  rw [Below.heap_setCell _ _ _ _ ha]
  exact h
theorem Blk.alloc (h : Blk w b cs t) (o : Obj) : Blk (w.alloc o) b cs t := by
  have := h.lt
  unfold Blk at *
  rw [Below.heap_alloc _ _ _ this]
  exact h
theorem Blk.new (w : World) (cs : Array Value) (t : TypeId) : Blk (w.alloc (.cells cs t)) w.heap.size cs t := heap_alloc_new w _
theorem Blk.new' {w : World} {n : Nat} (hn : n = w.heap.size) (cs : Array Value) (t : TypeId) : Blk (w.alloc (.cells cs t)) n cs t := by
  subst hn; exact heap_alloc_new w _
theorem Blk.drew (h : Blk w b cs t) : Blk w.drew b cs t := h
theorem Blk.drewN (h : Blk w b cs t) (n : Nat) : Blk (w.drewN n) b cs t := h
theorem Blk.inj {ds : Array Value} {s : TypeId} (h : Blk w b cs t) (k : Blk w b ds s) : cs = ds ∧ t = s := by
  unfold Blk at h k
  rw [h] at k
  simp only [Option.some.injEq, Obj.cells.injEq] at k
  exact ⟨k.1, k.2.1⟩
theorem Blk.c1 {v0 : Value} (h : Blk w b #[v0] t) : w.cell? ⟨b, 0, none⟩ = some v0 ∧ w.frozen? ⟨b, 0, none⟩ = false := ⟨h.cell 0, h.frozen 0⟩
theorem Blk.c2 {v0 v1 : Value} (h : Blk w b #[v0, v1] t) : w.cell? ⟨b, 0, none⟩ = some v0 ∧ w.cell? ⟨b, 1, none⟩ = some v1 ∧ w.frozen? ⟨b, 0, none⟩ = false ∧ w.frozen? ⟨b, 1, none⟩ = false :=
  ⟨h.cell 0, h.cell 1, h.frozen 0, h.frozen 1⟩
theorem Blk.c3 {v0 v1 v2 : Value} (h : Blk w b #[v0, v1, v2] t) : w.cell? ⟨b, 0, none⟩ = some v0 ∧ w.cell? ⟨b, 1, none⟩ = some v1 ∧ w.cell? ⟨b, 2, none⟩ = some v2 ∧ w.frozen? ⟨b, 0, none⟩ = false ∧ w.frozen? ⟨b, 1, none⟩ = false ∧ w.frozen? ⟨b, 2, none⟩ = false :=
  ⟨h.cell 0, h.cell 1, h.cell 2, h.frozen 0, h.frozen 1, h.frozen 2⟩
theorem Blk.c5 {v0 v1 v2 v3 v4 : Value} (h : Blk w b #[v0, v1, v2, v3, v4] t) : w.cell? ⟨b, 0, none⟩ = some v0 ∧ w.cell? ⟨b, 1, none⟩ = some v1 ∧ w.cell? ⟨b, 2, none⟩ = some v2 ∧ w.cell? ⟨b, 3, none⟩ = some v3 ∧ w.cell? ⟨b, 4, none⟩ = some v4 ∧
    w.frozen? ⟨b, 0, none⟩ = false ∧ w.frozen? ⟨b, 1, none⟩ = false ∧ w.frozen? ⟨b, 2, none⟩ = false ∧ w.frozen? ⟨b, 3, none⟩ = false ∧ w.frozen? ⟨b, 4, none⟩ = false :=
  ⟨h.cell 0, h.cell 1, h.cell 2, h.cell 3, h.cell 4, h.frozen 0, h.frozen 1, h.frozen 2, h.frozen 3, h.frozen 4⟩
end

/-- What a call may have changed: of the blocks from 'base' on those in 'bs', and those whose elements are of a type in 'ts'; all others are as they were; there may be new ones. -/
structure Fr (base : Nat) (ts bs : List Nat) (w w' : World) : Prop where
  os : w'.os = w.os
  tape : w'.tape = w.tape
  output : w'.output = w.output
  size : w.heap.size ≤ w'.heap.size
  keep : ∀ k, k < w.heap.size → (k < base ∨ (k ∉ bs ∧ ∀ cs t fr, w.heap[k]? = some (.cells cs t fr) → t ∉ ts)) → w'.heap[k]? = w.heap[k]?

section
variable {base : Nat} {ts bs : List Nat} {w w1 w2 : World}
theorem Fr.refl (base : Nat) (ts bs : List Nat) (w : World) : Fr base ts bs w w := ⟨rfl, rfl, rfl, Nat.le_refl _, fun _ _ _ => rfl⟩
theorem Fr.trans (h : Fr base ts bs w w1) (k : Fr base ts bs w1 w2) : Fr base ts bs w w2 :=
  ⟨k.os.trans h.os, k.tape.trans h.tape, k.output.trans h.output, Nat.le_trans h.size k.size, fun i hi hc => by
    have e := h.keep i hi hc
    rw [← e]
    exact k.keep i (Nat.lt_of_lt_of_le hi h.size) (by rw [e]; exact hc)⟩
theorem Fr.mono {ts' bs' : List Nat} (h : Fr base ts bs w w1) (ht : ts ⊆ ts') (hb : bs ⊆ bs') : Fr base ts' bs' w w1 :=
  ⟨h.os, h.tape, h.output, h.size, fun i hi hc => h.keep i hi (hc.imp id fun ⟨h1, h2⟩ => ⟨fun hm => h1 (hb hm), fun cs t fr e hm => h2 cs t fr e (ht hm)⟩)⟩
theorem Fr.nil {ts' bs' : List Nat} (h : Fr base [] [] w w1) : Fr base ts' bs' w w1 := h.mono (by simp) (by simp)
/-- A block of which nothing was known to the callee's own base. -/
theorem Fr.base_mono {base' : Nat} (h : Fr base ts bs w w1) (hb : base' ≤ base) : Fr base' ts bs w w1 :=
  ⟨h.os, h.tape, h.output, h.size, fun i hi hc => h.keep i hi (hc.imp (fun h => Nat.lt_of_lt_of_le h hb) id)⟩
/-- A second call behind the first: what it may change is borne by the first's lists, or is new, or is of a type that may be changed. -/
theorem Fr.step {ts' bs' : List Nat} (h : Fr base ts bs w w1) (k : Fr base ts' bs' w1 w2) (ht : ts' ⊆ ts) (hb : ∀ b, b ∈ bs' → b ∈ bs ∨ w.heap.size ≤ b ∨ ∃ cs t, Blk w1 b cs t ∧ t ∈ ts) : Fr base ts bs w w2 :=
  ⟨k.os.trans h.os, k.tape.trans h.tape, k.output.trans h.output, Nat.le_trans h.size k.size, fun i hi hc => by
    have e := h.keep i hi hc
    rw [← e]
    refine k.keep i (Nat.lt_of_lt_of_le hi h.size) ?_
    rcases hc with hc | ⟨h1, h2⟩
    · exact .inl hc
    · refine .inr ⟨fun hm => ?_, fun cs t fr he hm => h2 cs t fr (e ▸ he) (ht hm)⟩
      rcases hb i hm with h3 | h3 | ⟨cs, t, hblk, h3⟩
      · exact h1 h3
      · omega
      · exact h2 cs t (0, 0) (e ▸ hblk) h3⟩
theorem Fr.step0 (h : Fr base ts bs w w1) (k : Fr base [] [] w1 w2) : Fr base ts bs w w2 := h.step k (by simp) (by simp)
theorem Fr.ext {base' : Nat} (h : Fr base ts bs w w1) (k : Fr base' [] [] w1 w2) : Fr base ts bs w w2 :=
  h.trans ⟨k.os, k.tape, k.output, k.size, fun i hi _ => k.keep i hi (.inr ⟨by simp, by simp⟩)⟩
theorem Fr.into {ts' bs' : List Nat} (h : Fr base ts bs w w1) (k : Fr base ts' bs' w1 w2) (ht : ts' ⊆ ts) (hb : bs' ⊆ bs) : Fr base ts bs w w2 := h.trans (k.mono ht hb)
theorem Fr.drew (h : Fr base ts bs w w1) : Fr base ts bs w w1.drew := ⟨h.os, h.tape, h.output, h.size, h.keep⟩
theorem Fr.drewN (h : Fr base ts bs w w1) (n : Nat) : Fr base ts bs w (w1.drewN n) := ⟨h.os, h.tape, h.output, h.size, h.keep⟩
theorem Fr.alloc (h : Fr base ts bs w w1) (o : Obj) : Fr base ts bs w (w1.alloc o) :=
  h.trans ⟨rfl, rfl, rfl, by simp, fun k hk _ => Below.heap_alloc _ _ _ hk⟩
theorem Fr.setCell (h : Fr base ts bs w w1) {a : Addr} (hb : base ≤ a.block) (ha : a.block ∈ bs ∨ w.heap.size ≤ a.block ∨ ∃ cs t, Blk w1 a.block cs t ∧ t ∈ ts) (v : Value) : Fr base ts bs w (w1.setCell a v) :=
  ⟨h.os, h.tape, h.output, by simp [World.setCell]; exact h.size, fun k hk hc => by
    have e := h.keep k hk hc
    rw [← e]
    refine Below.heap_setCell _ _ _ _ ?_
    rintro rfl
    rcases hc with hc | ⟨h1, h2⟩
    · omega
    · rcases ha with ha | ha | ⟨cs, t, hblk, ht⟩
      · exact h1 ha
      · omega
      · exact h2 cs t (0, 0) (e ▸ hblk) ht⟩
theorem Fr.grown (h : Fr base ts bs w w1) {row : Option Nat} (hg : w1.grownBy w2 row) (hr : ∀ k, row = some k → base ≤ k ∧ (k ∈ bs ∨ w.heap.size ≤ k ∨ ∃ cs t, Blk w1 k cs t ∧ t ∈ ts)) : Fr base ts bs w w2 :=
  ⟨hg.os.trans h.os, hg.tape.trans h.tape, hg.output.trans h.output, Nat.le_trans h.size hg.size, fun k hk hc => by
    have e := h.keep k hk hc
    rw [← e]
    refine hg.block k (Nat.lt_of_lt_of_le hk h.size) ?_
    intro he
    obtain ⟨h3, h4⟩ := hr k he.symm
    rcases hc with hc | ⟨h1, h2⟩
    · omega
    · rcases h4 with h4 | h4 | ⟨cs, t, hblk, ht⟩
      · exact h1 h4
      · omega
      · exact h2 cs t (0, 0) (e ▸ hblk) ht⟩
theorem Fr.blk {b : Nat} {cs : Array Value} {t : TypeId} (h : Fr base ts bs w w1) (hb : Blk w b cs t) (hn : b < base ∨ (b ∉ bs ∧ t ∉ ts)) : Blk w1 b cs t := by
  have hlt := hb.lt
  unfold Blk at *
  rw [h.keep b hlt (hn.imp id fun ⟨h1, h2⟩ => ⟨h1, fun cs' t' fr' he => by rw [hb] at he; simp only [Option.some.injEq, Obj.cells.injEq] at he; exact he.2.1 ▸ h2⟩)]
  exact hb
/-- Nothing that was there is changed: by allocations and draws alone. -/
theorem Fr.blk0 {b : Nat} {cs : Array Value} {t : TypeId} (h : Fr base [] [] w w1) (hb : Blk w b cs t) : Blk w1 b cs t := h.blk hb (.inr ⟨by simp, by simp⟩)
theorem Fr.cell0 (h : Fr base [] [] w w1) {a : Addr} {v : Value} (ha : w.cell? a = some v) : w1.cell? a = some v := by
  have hlt := World.block_lt_of_cell? w a ha
  rw [World.cell?_of_block (w := w) (h.keep a.block hlt (.inr ⟨by simp, by simp⟩))]
  exact ha
theorem Fr.row {B : Nat} {e : TypeId} {size n : Nat} {v : Value} {xs : List Value} (h : Fr base ts bs w w1) (hr : w.ownsRow B e size v n xs) (hn : ∀ g, v.ownBlock = some g → g < base ∨ (g ∉ bs ∧ e ∉ ts)) : w1.ownsRow B e size v n xs := by
  refine ⟨hr.1, ?_⟩
  rcases hr.2 with h2 | ⟨g, cap, cur, rfl, hB, hg, rest⟩
  · exact .inl h2
  · exact .inr ⟨g, cap, cur, rfl, hB, h.blk (cs := cur) (t := e) hg (hn g rfl), rest⟩
/-- A row that the call owns lies in a block of its type. -/
theorem row_blk {B : Nat} {e : TypeId} {size n : Nat} {v : Value} {xs : List Value} (hr : w.ownsRow B e size v n xs) : ∀ g, v.ownBlock = some g → B ≤ g ∧ ∃ cs, Blk w g cs e := by
  intro g hg
  rcases hr.2 with ⟨rfl, _⟩ | ⟨g', cap, cur, rfl, hB, hh, _⟩
  · simp [Value.ownBlock] at hg
  · simp [Value.ownBlock] at hg
    subst hg
    exact ⟨hB, cur, hh⟩
theorem Fr.below (h : Fr base ts bs w w1) (hb : base = w.heap.size) : Below w.heap.size w w1 :=
  ⟨h.os, h.tape, h.output, h.size, fun k hk => h.keep k (by omega) (.inl (by omega))⟩
theorem Fr.belowB (h : Fr base ts bs w w1) (hb : base ≤ w.heap.size) : Below base w w1 :=
  ⟨h.os, h.tape, h.output, h.size, fun k hk => h.keep k (by omega) (.inl (by omega))⟩
end
end Go.Proofs.YtiepopbmbgfhkaaGreat

namespace Go.Proofs.YtiepopbmbgfhkaaGreat
open Go.RowKit

/-- A text of ASCII. -/
def Asc (t : ByteArray) : Prop := ∀ i (h : i < t.size), t[i].toNat < 128

/-- The cells of '[]rune(t)', t of ASCII. -/
def runeRow (t : ByteArray) (cap : Nat) : Array Value := (t.data.map fun b => Value.int .i32 (b.toNat : Int)) ++ Array.replicate (cap - t.size) (.int .i32 0)

theorem size_eq_data (t : ByteArray) : t.data.size = t.size := rfl

theorem runeRow_at (t : ByteArray) (cap j : Nat) (hj : j < t.size) : (runeRow t cap)[j]? = some (.int .i32 (t[j].toNat : Int)) := by
  unfold runeRow
  rw [Array.getElem?_append_left (by simpa using hj)]
  simp only [Array.getElem?_map]
  rw [Array.getElem?_eq_getElem (by simpa using hj)]
  rfl

theorem decode_asc (t : ByteArray) (i : Nat) (h : i < t.size) (ha : t[i].toNat < 128) : Utf8.decode t i = (t[i].toNat, 1) := by
  have hg : t.get! i = t[i] := by
    exact getElem!_pos t.data i h
  unfold Utf8.decode
  simp only [Nat.add_zero, hg]
  rw [if_pos ha]

theorem runesFrom_asc (t : ByteArray) (ha : Asc t) : ∀ (bound i : Nat) (acc : Array Value), t.size = i + bound →
    Conv.runesFrom t bound i acc = acc ++ ((t.data.toList.drop i).map fun b => Value.int .i32 (b.toNat : Int)).toArray
  | 0, i, acc, h => by
    have : t.data.toList.drop i = [] := List.drop_eq_nil_of_le (by simp; omega)
    simp [Conv.runesFrom, this]
  | bound + 1, i, acc, h => by
    have hi : i < t.size := by omega
    unfold Conv.runesFrom
    rw [if_pos hi, decode_asc t i hi (ha i hi)]
    simp only
    rw [runesFrom_asc t ha bound (i + 1) _ (by omega)]
    have hd : t.data.toList.drop i = t[i] :: t.data.toList.drop (i + 1) := by
      rw [List.drop_eq_getElem_cons (by simpa using hi)]
      simp
      rfl
    rw [hd]
    simp

theorem runesFrom_all (t : ByteArray) (ha : Asc t) : Conv.runesFrom t t.size 0 #[] = t.data.map fun b => Value.int .i32 (b.toNat : Int) := by
  rw [runesFrom_asc t ha t.size 0 #[] (by omega)]
  simp
  apply Array.ext'
  simp

theorem conv_runes (w : World) (t : ByteArray) (ha : Asc t) (hs : t.size ≤ 70368744177664) :
    (convert 9 145 (.string t)).run Tryz.prog w = .ok (.slice (some ⟨w.heap.size, 0, none⟩) t.size (grownCap w t.size 0 21)) (w.drew.alloc (.cells (runeRow t (grownCap w t.size 0 21)) 21)) := by
  have hsz : (Conv.runesFrom t t.size 0 #[]).size = t.size := by rw [runesFrom_all t ha]; simp
  have h := run_runes_of_string (P := Tryz.prog) w 9 145 21 t Tryz.underlying9 Tryz.underlying145 Tryz.underlying21 (by rw [hsz]; exact hs)
  rw [hsz] at h
  rw [h, runesFrom_all t ha]
  rfl

theorem encode_asc (b : UInt8) (h : b.toNat < 128) : Utf8.encode (b.toNat : Int) = ⟨#[b]⟩ := by
  unfold Utf8.encode
  have hv : Utf8.valid (b.toNat : Int) = true := by
    rw [validRune_eq]; unfold validRune; simp; omega
  simp only [hv, if_true]
  rw [if_pos (by simpa using h)]
  simp

theorem runesBytes_asc : ∀ (l : List UInt8), (∀ b ∈ l, b.toNat < 128) → ∀ s : ByteArray, (l.map fun b => (b.toNat : Int)).foldl (fun r n => r ++ Utf8.encode n) s = s ++ ⟨l.toArray⟩
  | [], _, s => by
    apply ByteArray.ext; simp
  | b :: l, h, s => by
    simp only [List.map_cons, List.foldl_cons]
    rw [encode_asc b (h b (by simp)), runesBytes_asc l (fun c hc => h c (by simp [hc]))]
    apply ByteArray.ext
    simp [ByteArray.data_append]

theorem extract_list (t : ByteArray) (i j : Nat) : (⟨((t.data.toList.drop i).take (j - i)).toArray⟩ : ByteArray) = t.extract i j := by
  apply ByteArray.ext
  rw [ByteArray.data_extract]
  apply Array.ext'
  simp [Array.toList_extract, List.extract_eq_take_drop]

theorem conv_text {w : World} {h cap : Nat} {t : ByteArray} (hB : Blk w h (runeRow t cap) 21) (ha : Asc t) (i m c : Nat) (him : i + m ≤ t.size) :
    (convert 145 9 (.slice (some ⟨h, i, none⟩) m c)).run Tryz.prog w = .ok (.string (t.extract i (i + m))) w := by
  have hl : m ≤ (((t.data.toList.drop i).take m).map fun b => (b.toNat : Int)).length := by simp; omega
  have key := run_convert_runes (P := Tryz.prog) w 145 9 21 ⟨h, i, none⟩ m c (((t.data.toList.drop i).take m).map fun b => (b.toNat : Int)) hl Tryz.underlying145 Tryz.underlying21 Tryz.underlying9
    (fun j hj => by
      have hjm : j < m := by simp at hj; omega
      have hadd : (⟨h, i, none⟩ : Addr).add j = ⟨h, i + j, none⟩ := by unfold Addr.add; split <;> simp_all
      have hsz : i + j < t.size := by omega
      have hsz' : i + j < t.data.size := hsz
      rw [hadd, hB.cell, runeRow_at t cap (i + j) hsz]
      simp only [List.getD_eq_getElem?_getD, List.getElem?_map, List.getElem?_take, if_pos hjm, List.getElem?_drop]
      simp only [Array.getElem?_toList, Array.getElem?_eq_getElem hsz', Option.map_some, Option.getD_some]
      rfl)
  rw [key]
  have hlen : (((t.data.toList.drop i).take m).map fun b => (b.toNat : Int)).length = m := by simp; omega
  rw [List.take_of_length_le (by omega)]
  unfold runesBytes
  rw [runesBytes_asc _ (fun b hb => by
    have hb' := List.mem_of_mem_drop (List.mem_of_mem_take hb)
    obtain ⟨k, hk, rfl⟩ := List.getElem_of_mem hb'
    have hk' : k < t.size := by simpa using hk
    have := ha k hk'
    rw [Array.getElem_toList]
    exact this)]
  rw [← extract_list, show i + m - i = m by omega]
  simp

theorem conv_text_nil (w : World) (a : Option Addr) (c : Nat) : (convert 145 9 (.slice a 0 c)).run Tryz.prog w = .ok (.string .empty) w := by
  cases a with
  | none => exact run_convert_runes_nil w 145 9 21 0 c Tryz.underlying145 Tryz.underlying21 Tryz.underlying9
  | some a =>
    have := run_convert_runes (P := Tryz.prog) w 145 9 21 a 0 c [] (by simp) Tryz.underlying145 Tryz.underlying21 Tryz.underlying9 (by simp)
    simpa [runesBytes] using this

/-- What 'r[i:j]' is, r the runes of a text. -/
def runeSl (b i j cap : Nat) : Value := .slice (some (if cap = i then ⟨b, 0, none⟩ else ⟨b, i, none⟩)) (j - i) (cap - i)

theorem extract_empty (t : ByteArray) (i j : Nat) (h : j ≤ i) : t.extract i j = .empty := by
  apply ByteArray.ext
  rw [ByteArray.data_extract]
  apply Array.ext'
  simp [Array.toList_extract, List.extract_eq_take_drop]
  left; omega

theorem conv_sl {w : World} {b cap : Nat} {t : ByteArray} (hB : Blk w b (runeRow t cap) 21) (ha : Asc t) (i j : Nat) (hij : i ≤ j) (hj : j ≤ t.size) (hc : t.size ≤ cap) :
    (convert 145 9 (runeSl b i j cap)).run Tryz.prog w = .ok (.string (t.extract i j)) w := by
  unfold runeSl
  split
  · have e : j - i = 0 := by omega
    rw [e, conv_text_nil, extract_empty t i j (by omega)]
  · rw [conv_text hB ha i (j - i) _ (by omega), show i + (j - i) = j by omega]

theorem sliced_sl (b i j cap : Nat) : sliced (some ⟨b, 0, none⟩) i j cap 1 = runeSl b i j cap := by
  unfold sliced runeSl
  congr 1
  split
  · rfl
  · simp [Addr.add]
    intro h; simp [h]

theorem under145 : Tryz.prog.underlying 145 = some (.slice (Tryz.prog.elem 145)) := by kernel_rfl
theorem elem145 : Tryz.prog.elem 145 = 21 := by kernel_rfl
theorem size21 (w : World) : (sizeOf 21).run Tryz.prog w = .ok 1 w := by kernel_rfl

section
variable {o : Oper} {a : Act} {w : World} {K : Act → World → Prop} {Q : Exit → Act → World → Prop}
/-- '[]rune(t)' at one operation. -/
theorem wp_runes (x : Operand) (t : ByteArray) (ho : o.op = .convert 9 145 x) (hx : a.eval x = .string t) (ha : Asc t) (hs : t.size ≤ 70368744177664)
    (h : ∀ b cap w1, t.size ≤ cap → Blk w1 b (runeRow t cap) 21 → Fr 0 [] [] w w1 → K (a.put o.dst (.slice (some ⟨b, 0, none⟩) t.size cap)) w1) : o.wp Tryz.prog a w K Q := by
  have hr := conv_runes w t ha hs
  unfold Oper.wp execOp
  simp only [ho, hx, Sem.run_bind, hr, Result.andThen_ok, Sem.run_pure]
  exact h _ _ _ (grownCap_ge _ _ _ _) (Blk.new' rfl _ _) ((Fr.refl _ _ _ _).drew.alloc _)
/-- 'r[i:]' -/
theorem wp_runesFrom (b n cap : Nat) (i : Int) (x y : Operand) (ho : o.op = .slice 145 x (some y) none none) (hx : a.eval x = .slice (some ⟨b, 0, none⟩) n cap) (hy : a.eval y = .int .i64 i) (h0 : 0 ≤ i) (hi : i ≤ n)
    (h : K (a.put o.dst (runeSl b i.toNat n cap)) w) : o.wp Tryz.prog a w K Q := by
  have hr : (Instr.sliceAt 145 (.slice (some ⟨b, 0, none⟩) n cap) (some (.int .i64 i)) none none).run Tryz.prog w = .ok (runeSl b i.toNat n cap) w := by
    rw [run_sliceAt_slice (P := Tryz.prog) (t := 145) (h := under145), run_slice_l (P := Tryz.prog) (t := 145) (ht := under145) (h0 := h0) (h1 := hi)]
    rw [elem145, size21]
    simp only [Result.andThen_ok, sliced_sl]
  unfold Oper.wp execOp
  simp only [ho, hx, hy, Sem.run_bind, Option.map_some, Option.map_none, hr, Result.andThen_ok, Sem.run_pure]
  exact h
/-- 'r[:j]' -/
theorem wp_runesTo (b n cap : Nat) (j : Int) (x y : Operand) (ho : o.op = .slice 145 x none (some y) none) (hx : a.eval x = .slice (some ⟨b, 0, none⟩) n cap) (hy : a.eval y = .int .i64 j) (h0 : 0 ≤ j) (hj : j ≤ cap)
    (h : K (a.put o.dst (runeSl b 0 j.toNat cap)) w) : o.wp Tryz.prog a w K Q := by
  have hr : (Instr.sliceAt 145 (.slice (some ⟨b, 0, none⟩) n cap) none (some (.int .i64 j)) none).run Tryz.prog w = .ok (runeSl b 0 j.toNat cap) w := by
    rw [run_sliceAt_slice (P := Tryz.prog) (t := 145) (h := under145), run_slice_h (P := Tryz.prog) (t := 145) (ht := under145) (h0 := h0) (h2 := hj)]
    rw [elem145, size21]
    simp only [Result.andThen_ok, sliced_sl]
  unfold Oper.wp execOp
  simp only [ho, hx, hy, Sem.run_bind, Option.map_some, Option.map_none, hr, Result.andThen_ok, Sem.run_pure]
  exact h
/-- 'r[i:j]' -/
theorem wp_runesMid (b n cap : Nat) (i j : Int) (x y z : Operand) (ho : o.op = .slice 145 x (some y) (some z) none) (hx : a.eval x = .slice (some ⟨b, 0, none⟩) n cap) (hy : a.eval y = .int .i64 i) (hz : a.eval z = .int .i64 j) (h0 : 0 ≤ i) (hij : i ≤ j) (hj : j ≤ cap)
    (h : K (a.put o.dst (runeSl b i.toNat j.toNat cap)) w) : o.wp Tryz.prog a w K Q := by
  have hr : (Instr.sliceAt 145 (.slice (some ⟨b, 0, none⟩) n cap) (some (.int .i64 i)) (some (.int .i64 j)) none).run Tryz.prog w = .ok (runeSl b i.toNat j.toNat cap) w := by
    rw [run_sliceAt_slice (P := Tryz.prog) (t := 145) (h := under145), run_slice_lh (P := Tryz.prog) (t := 145) (ht := under145) (h0 := h0) (h1 := hij) (h2 := hj)]
    rw [elem145, size21]
    simp only [Result.andThen_ok, sliced_sl]
  unfold Oper.wp execOp
  simp only [ho, hx, hy, hz, Sem.run_bind, Option.map_some, Option.map_none, hr, Result.andThen_ok, Sem.run_pure]
  exact h
/-- 'string(r[i:j])' -/
theorem wp_textOf (b i j cap : Nat) (x : Operand) (t : ByteArray) (ho : o.op = .convert 145 9 x) (hx : a.eval x = runeSl b i j cap) (hB : Blk w b (runeRow t cap) 21) (ha : Asc t) (hij : i ≤ j) (hj : j ≤ t.size) (hc : t.size ≤ cap)
    (h : K (a.put o.dst (.string (t.extract i j))) w) : o.wp Tryz.prog a w K Q := by
  have hr := conv_sl hB ha i j hij hj hc
  unfold Oper.wp execOp
  simp only [ho, hx, Sem.run_bind, hr, Result.andThen_ok, Sem.run_pure]
  exact h
end

/-- One operation that only reads, from its run. -/
theorem still_of_exec {P : Program} {o : Oper} {a : Act} {w : World} {K : Act → Prop} {v : Value} (h : (execOp a.eval o).run P w = .ok (.value v) w) (hk : K (a.put o.dst v)) : o.still P a w K := by
  unfold Oper.still
  rw [h]
  exact ⟨rfl, hk⟩
theorem wpStill_ex {P : Program} {ops : Array Oper} {o : Oper} {rest : List Oper} {a : Act} {w : World} {K : Act → Prop} {v : Value} (hg : o.guard = none) (h : (execOp a.eval o).run P w = .ok (.value v) w) (hk : wpStill P ops w K rest (a.put o.dst v)) : wpStill P ops w K (o :: rest) a :=
  wpStill_step fun K' hK => by
    rw [if_pos (by simp [Region.wanted, hg])]
    exact still_of_exec h (hK _ hk)
section
variable {o : Oper} {a : Act} {w : World}
theorem ex_runesFrom {b n cap : Nat} {i : Int} {x y : Operand} (ho : o.op = .slice 145 x (some y) none none) (hx : a.eval x = .slice (some ⟨b, 0, none⟩) n cap) (hy : a.eval y = .int .i64 i) (h0 : 0 ≤ i) (hi : i ≤ n) :
    (execOp a.eval o).run Tryz.prog w = .ok (.value (runeSl b i.toNat n cap)) w := by
  have hr : (Instr.sliceAt 145 (.slice (some ⟨b, 0, none⟩) n cap) (some (.int .i64 i)) none none).run Tryz.prog w = .ok (runeSl b i.toNat n cap) w := by
    rw [run_sliceAt_slice (P := Tryz.prog) (t := 145) (h := under145), run_slice_l (P := Tryz.prog) (t := 145) (ht := under145) (h0 := h0) (h1 := hi)]
    rw [elem145, size21]
    simp only [Result.andThen_ok, sliced_sl]
  unfold execOp
  simp only [ho, hx, hy, Sem.run_bind, Option.map_some, Option.map_none, hr, Result.andThen_ok, Sem.run_pure]
theorem ex_runesTo {b n cap : Nat} {j : Int} {x y : Operand} (ho : o.op = .slice 145 x none (some y) none) (hx : a.eval x = .slice (some ⟨b, 0, none⟩) n cap) (hy : a.eval y = .int .i64 j) (h0 : 0 ≤ j) (hj : j ≤ cap) :
    (execOp a.eval o).run Tryz.prog w = .ok (.value (runeSl b 0 j.toNat cap)) w := by
  have hr : (Instr.sliceAt 145 (.slice (some ⟨b, 0, none⟩) n cap) none (some (.int .i64 j)) none).run Tryz.prog w = .ok (runeSl b 0 j.toNat cap) w := by
    rw [run_sliceAt_slice (P := Tryz.prog) (t := 145) (h := under145), run_slice_h (P := Tryz.prog) (t := 145) (ht := under145) (h0 := h0) (h2 := hj)]
    rw [elem145, size21]
    simp only [Result.andThen_ok, sliced_sl]
  unfold execOp
  simp only [ho, hx, hy, Sem.run_bind, Option.map_some, Option.map_none, hr, Result.andThen_ok, Sem.run_pure]
theorem ex_textOf {b i j cap : Nat} {x : Operand} {t : ByteArray} (ho : o.op = .convert 145 9 x) (hx : a.eval x = runeSl b i j cap) (hB : Blk w b (runeRow t cap) 21) (ha : Asc t) (hij : i ≤ j) (hj : j ≤ t.size) (hc : t.size ≤ cap) :
    (execOp a.eval o).run Tryz.prog w = .ok (.value (.string (t.extract i j))) w := by
  have hr := conv_sl hB ha i j hij hj hc
  unfold execOp
  simp only [ho, hx, Sem.run_bind, hr, Result.andThen_ok, Sem.run_pure]
theorem ex_add {x y : Operand} {ty : TypeId} {u v : ByteArray} (ho : o.op = .binOp .add 9 x y ty) (hx : a.eval x = .string u) (hy : a.eval y = .string v) (hs : u.size + v.size ≤ 9223372036854775807) :
    (execOp a.eval o).run Tryz.prog w = .ok (.value (.string (u ++ v))) w := by
  have hr := run_string_add_sum (P := Tryz.prog) (w := w) u v hs
  unfold execOp
  simp only [ho, hx, hy, binOp]
  simp [go_sem, hr]
end
theorem wp_of_exec {P : Program} {o : Oper} {a : Act} {w : World} {K : Act → World → Prop} {Q : Exit → Act → World → Prop} {v : Value} (h : (execOp a.eval o).run P w = .ok (.value v) w) (hk : K (a.put o.dst v) w) : o.wp P a w K Q := by
  unfold Oper.wp
  rw [h]
  exact hk

theorem Fr.any {ts bs : List Nat} {w w1 : World} {base base' : Nat} (h : Fr base [] [] w w1) : Fr base' ts bs w w1 :=
  ⟨h.os, h.tape, h.output, h.size, fun k hk _ => h.keep k hk (.inr ⟨by simp, by simp⟩)⟩
end Go.Proofs.YtiepopbmbgfhkaaGreat
