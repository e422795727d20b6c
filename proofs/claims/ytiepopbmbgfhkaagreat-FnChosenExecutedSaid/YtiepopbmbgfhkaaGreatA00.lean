/-
  A region that draws its order, walked by a plan: operations that yield one value in every world of a kind S are taken first; the others are carried out when they alone (or two of them) may come up; S is shown anew only behind those operations that may come up ahead of one that was taken first.
-/
import Derived.OrdersHeld
import Derived.StillTail
import Derived.KernelRfl
import Derived.Deep.RegionHeld3
namespace Go.Proofs.YtiepopbmbgfhkaaGreat
open Go

section
variable {P : Program} {ops : Array Oper} {Q : Exit → Act → World → Prop} {md : Region.Mode} {S : World → Prop}

/-- Operation j waits for operation i, directly or through others. -/
def reach (md : Region.Mode) (ops : Array Oper) : Nat → Nat → Nat → Bool
  | 0, _, _ => false
  | n + 1, j, i => match ops[j]? with
    | some o => o.after.any fun e => Region.binds md e && (e.on == i || reach md ops n e.on i)
    | none => false

/-- What is listed is closed: what a listed operation waits for is listed. -/
def Closed (md : Region.Mode) (ops : Array Oper) (listed : Array Bool) : Prop :=
  listed.size = ops.size ∧ ∀ j oj, ops[j]? = some oj → listed.getD j false = true → ∀ e ∈ oj.after, Region.binds md e = true → listed.getD e.on false = true

theorem Closed.set {listed : Array Bool} {i : Nat} (h : Closed md ops listed) (hi : i ∈ Region.ready md ops listed) : Closed md ops (listed.setIfInBounds i true) := by
  obtain ⟨_, oi, hoi, hall⟩ := mem_ready.1 hi
  refine ⟨by simp [h.1], fun j oj hj hl e he hb => ?_⟩
  by_cases hij : i = j
  · subst hij
    have : oj = oi := Option.some.inj (hj.symm.trans hoi)
    subst this
    exact getD_set_true (hall e he hb)
  · rw [getD_set_ne false hij] at hl
    exact getD_set_true (h.2 j oj hj hl e he hb)

theorem reach_listed {listed : Array Bool} {i : Nat} (h : Closed md ops listed) : ∀ (n j : Nat), reach md ops n j i = true →
    (∀ oj, ops[j]? = some oj → ∀ e ∈ oj.after, Region.binds md e = true → listed.getD e.on false = true) → listed.getD i false = true
  | 0, _, hr, _ => by simp [reach] at hr
  | n + 1, j, hr, hj => by
    unfold reach at hr
    split at hr
    · rename_i o ho
      obtain ⟨e, he, hb⟩ := Array.any_eq_true'.1 hr
      simp only [Bool.and_eq_true, Bool.or_eq_true, beq_iff_eq] at hb
      have hl := hj o ho e he hb.1
      rcases hb.2 with hx | hx
      · rw [← hx]; exact hl
      · exact reach_listed h n e.on hx fun oj hoj e' he' hb' => h.2 e.on oj hoj hl e' he' hb'
    · cases hr

/-- S must be shown anew behind operation j: there is one among those taken first that j does not wait for. -/
def need (md : Region.Mode) (ops : Array Oper) (ts es : List Nat) (j : Nat) : Bool := es.contains j && ts.any fun i => i != j && !reach md ops ops.size j i

theorem need_of_ready {listed : Array Bool} {ts es : List Nat} {i j : Nat} (he : es.contains j = true) (h : Closed md ops listed) (hi : i ∈ ts) (hun : listed.getD i true = false) (hj : j ∈ Region.ready md ops listed) (hne : j ≠ i) : need md ops ts es j = true := by
  unfold need
  rw [he, Bool.true_and, List.any_eq_true]
  refine ⟨i, hi, ?_⟩
  simp only [Bool.and_eq_true, bne_iff_ne, Bool.not_eq_true']
  refine ⟨fun e => hne e.symm, ?_⟩
  cases hr : reach md ops ops.size j i with
  | false => rfl
  | true =>
    obtain ⟨_, oj, hoj, hall⟩ := mem_ready.1 hj
    have := reach_listed h _ _ hr fun oj' hoj' e he hb => by
      have : oj' = oj := Option.some.inj (hoj'.symm.trans hoj)
      subst this
      exact hall e he hb
    rw [getD_both hun] at this
    cases this

/-- Whatever order is picked; S is shown behind the operations that need it. -/
def wpAnyN (P : Program) (md : Region.Mode) (ops : Array Oper) (Q : Exit → Act → World → Prop) (S : World → Prop) (ts es : List Nat) : Nat → Array Bool → Act → World → Prop
  | 0, listed, a, w => Region.ready md ops listed = [] ∧ Q .normal a w
  | fuel + 1, listed, a, w =>
    (Region.ready md ops listed = [] → Q .normal a w) ∧
    ∀ i ∈ Region.ready md ops listed, wpOp P ops Q i (fun a' w' => ((need md ops ts es i = true → S w') ∧ (es.contains i = false → w' = w)) ∧ wpAnyN P md ops Q S ts es fuel (listed.setIfInBounds i true) a' w') a w

theorem wpAny_of_N {ts es : List Nat} : ∀ (fuel : Nat) (listed : Array Bool) (a : Act) (w : World), wpAnyN P md ops Q S ts es fuel listed a w → wpAny P md ops Q fuel listed a w
  | 0, _, _, _, h => h
  | fuel + 1, _, _, _, h => ⟨h.1, fun i hi => wpOp_mono (fun a' w' h' => wpAny_of_N fuel _ a' w' h'.2) (h.2 i hi)⟩

theorem wpAnyN_first {ts es : List Nat} {i : Nat} {oi : Oper} {v : Value} (hi : ops[i]? = some oi) (his : i ∈ ts) (hie : es.contains i = false) (hsel : ∀ (j : Nat) (o : Oper) cs b, ops[j]? = some o → o.op ≠ .select cs b)
    (hQ : ∀ c a w, Q (.panic c) (a.put oi.dst v) w → Q (.panic c) a w) :
    ∀ (fuel : Nat) (listed : Array Bool) (a : Act) (w : World), Closed md ops listed →
      (∀ j oj, ops[j]? = some oj → j ≠ i → listed.getD j true = false → (∀ e ∈ oj.after, Region.binds md e = true → e.on ≠ i) → oi.apart ops oj = true) →
      i ∈ Region.ready md ops listed → YieldsIf P ops S oi v a → S w →
      wpAnyN P md ops Q S ts es fuel (listed.setIfInBounds i true) (a.put oi.dst v) w → wpAnyN P md ops Q S ts es (fuel + 1) listed a w := by
  have hself : ∀ w, ((need md ops ts es i = true → S w) ∧ (es.contains i = false → w = w)) := fun w => ⟨fun hn => absurd hn (by simp only [need, hie, Bool.false_and]; exact Bool.false_ne_true), fun _ => rfl⟩
  intro fuel
  induction fuel with
  | zero =>
    intro listed a w _ _ hr hy hS H
    refine ⟨fun h => (by rw [h] at hr; cases hr), fun j hj => ?_⟩
    by_cases hji : j = i
    · subst hji; exact hy.wpOp hi hS ⟨hself w, H⟩
    · have := ready_mono hj hji
      rw [H.1] at this
      cases this
  | succ fuel ih =>
    intro listed a w hcl hfree hr hy hS H
    refine ⟨fun h => (by rw [h] at hr; cases hr), fun j hj => ?_⟩
    by_cases hji : j = i
    · subst hji; exact hy.wpOp hi hS ⟨hself w, H⟩
    · have hun := (mem_ready.1 hr).1
      have h1 := H.2 j (ready_mono hj hji)
      obtain ⟨hjun, oj, hoj, hall⟩ := mem_ready.1 hj
      have hnot : ∀ e ∈ oj.after, Region.binds md e = true → e.on ≠ i := fun e he hb heq => by
        have h1 := hall e he hb
        rw [heq, getD_both hun] at h1
        cases h1
      have h2 := wpOp_putIf hoj (hfree j oj hoj hji hjun hnot) (fun cs b => hsel i oi cs b hi) (fun cs b => hsel j oj cs b hoj) hQ hy h1
      have hfree' : ∀ k ok, ops[k]? = some ok → k ≠ i → (listed.setIfInBounds j true).getD k true = false →
          (∀ e ∈ ok.after, Region.binds md e = true → e.on ≠ i) → oi.apart ops ok = true := fun k ok hk hki hun hno => by
        refine hfree k ok hk hki ?_ hno
        by_cases hjk : j = k
        · subst hjk; exact hjun
        · rw [getD_set_ne true hjk] at hun; exact hun
      refine wpOp_mono (fun a' w' h3 => ⟨h3.2.1, ih (listed.setIfInBounds j true) a' w' (hcl.set hj) hfree' (ready_mono hr (Ne.symm hji)) h3.1 ?_ ?_⟩) h2
      · cases he : es.contains j with
        | true => exact h3.2.1.1 (need_of_ready he hcl his hun hj hji)
        | false => rw [h3.2.1.2 he]; exact hS
      · rw [Array.setIfInBounds_comm _ _ hji]
        exact h3.2.2

theorem wpAnyN_pure {ts es : List Nat} {i : Nat} {oi : Oper} {v : Value} (hi : ops[i]? = some oi) (hie : es.contains i = false) (hsel : ∀ (j : Nat) (o : Oper) cs b, ops[j]? = some o → o.op ≠ .select cs b)
    (hQ : ∀ c a w, Q (.panic c) (a.put oi.dst v) w → Q (.panic c) a w) :
    ∀ (fuel : Nat) (listed : Array Bool) (a : Act) (w : World), Closed md ops listed →
      (∀ j oj, ops[j]? = some oj → j ≠ i → listed.getD j true = false → (∀ e ∈ oj.after, Region.binds md e = true → e.on ≠ i) → oi.apart ops oj = true) →
      i ∈ Region.ready md ops listed → YieldsIf P ops (fun _ => True) oi v a →
      wpAnyN P md ops Q S ts es fuel (listed.setIfInBounds i true) (a.put oi.dst v) w → wpAnyN P md ops Q S ts es (fuel + 1) listed a w := by
  have hself : ∀ w, ((need md ops ts es i = true → S w) ∧ (es.contains i = false → w = w)) := fun w => ⟨fun hn => absurd hn (by simp only [need, hie, Bool.false_and]; exact Bool.false_ne_true), fun _ => rfl⟩
  intro fuel
  induction fuel with
  | zero =>
    intro listed a w _ _ hr hy H
    refine ⟨fun h => (by rw [h] at hr; cases hr), fun j hj => ?_⟩
    by_cases hji : j = i
    · subst hji; exact hy.wpOp hi trivial ⟨hself w, H⟩
    · have := ready_mono hj hji
      rw [H.1] at this
      cases this
  | succ fuel ih =>
    intro listed a w hcl hfree hr hy H
    refine ⟨fun h => (by rw [h] at hr; cases hr), fun j hj => ?_⟩
    by_cases hji : j = i
    · subst hji; exact hy.wpOp hi trivial ⟨hself w, H⟩
    · have hun := (mem_ready.1 hr).1
      have h1 := H.2 j (ready_mono hj hji)
      obtain ⟨hjun, oj, hoj, hall⟩ := mem_ready.1 hj
      have hnot : ∀ e ∈ oj.after, Region.binds md e = true → e.on ≠ i := fun e he hb heq => by
        have h1 := hall e he hb
        rw [heq, getD_both hun] at h1
        cases h1
      have h2 := wpOp_putIf hoj (hfree j oj hoj hji hjun hnot) (fun cs b => hsel i oi cs b hi) (fun cs b => hsel j oj cs b hoj) hQ hy h1
      have hfree' : ∀ k ok, ops[k]? = some ok → k ≠ i → (listed.setIfInBounds j true).getD k true = false →
          (∀ e ∈ ok.after, Region.binds md e = true → e.on ≠ i) → oi.apart ops ok = true := fun k ok hk hki hun hno => by
        refine hfree k ok hk hki ?_ hno
        by_cases hjk : j = k
        · subst hjk; exact hjun
        · rw [getD_set_ne true hjk] at hun; exact hun
      refine wpOp_mono (fun a' w' h3 => ⟨h3.2.1, ih (listed.setIfInBounds j true) a' w' (hcl.set hj) hfree' (ready_mono hr (Ne.symm hji)) h3.1 ?_⟩) h2
      · rw [Array.setIfInBounds_comm _ _ hji]
        exact h3.2.2

/-- A plan. -/
inductive Pl where
  | done
  | take (i : Nat) (r : Pl)
  | pure (i : Nat) (r : Pl)
  | go (i : Nat) (r : Pl)
  | go2 (i : Nat) (r : Pl) (j : Nat) (s : Pl)

def Pl.ok (md : Region.Mode) (ops : Array Oper) (ts es : List Nat) : Pl → Array Bool → Bool
  | .done, listed => (Region.ready md ops listed).isEmpty
  | .take i r, listed => ts.contains i && !es.contains i && (Region.ready md ops listed).contains i && Region.free md ops listed i && r.ok md ops ts es (listed.setIfInBounds i true)
  | .pure i r, listed => !es.contains i && (Region.ready md ops listed).contains i && Region.free md ops listed i && r.ok md ops ts es (listed.setIfInBounds i true)
  | .go i r, listed => es.contains i && decide (Region.ready md ops listed = [i]) && r.ok md ops ts es (listed.setIfInBounds i true)
  | .go2 i r j s, listed => es.contains i && es.contains j && decide (Region.ready md ops listed = [i, j]) && r.ok md ops ts es (listed.setIfInBounds i true) && s.ok md ops ts es (listed.setIfInBounds j true)

def Pl.len : Pl → Nat
  | .done => 0
  | .take _ r => r.len + 1
  | .pure _ r => r.len + 1
  | .go _ r => r.len + 1
  | .go2 _ r _ s => max r.len s.len + 1

/-- The walk of a plan. -/
def wpPlan (P : Program) (md : Region.Mode) (ops : Array Oper) (Q : Exit → Act → World → Prop) (S : World → Prop) (ts es : List Nat) : Pl → Act → World → Prop
  | .done, a, w => Q .normal a w
  | .take i r, a, w => ∃ o v, ops[i]? = some o ∧ YieldsIf P ops S o v a ∧ S w ∧ (∀ c w', Q (.panic c) (a.put o.dst v) w' → Q (.panic c) a w') ∧ wpPlan P md ops Q S ts es r (a.put o.dst v) w
  | .pure i r, a, w => ∃ o v, ops[i]? = some o ∧ YieldsIf P ops (fun _ => True) o v a ∧ (∀ c w', Q (.panic c) (a.put o.dst v) w' → Q (.panic c) a w') ∧ wpPlan P md ops Q S ts es r (a.put o.dst v) w
  | .go i r, a, w => wpOp P ops Q i (fun a' w' => (need md ops ts es i = true → S w') ∧ wpPlan P md ops Q S ts es r a' w') a w
  | .go2 i r j s, a, w => wpOp P ops Q i (fun a' w' => (need md ops ts es i = true → S w') ∧ wpPlan P md ops Q S ts es r a' w') a w ∧
      wpOp P ops Q j (fun a' w' => (need md ops ts es j = true → S w') ∧ wpPlan P md ops Q S ts es s a' w') a w

theorem wpAnyN_more {ts es : List Nat} : ∀ (n m : Nat) (listed : Array Bool) (a : Act) (w : World), n ≤ m → wpAnyN P md ops Q S ts es n listed a w → wpAnyN P md ops Q S ts es m listed a w
  | 0, 0, _, _, _, _, h => h
  | 0, m + 1, _, _, _, _, h => ⟨fun _ => h.2, fun i hi => by rw [h.1] at hi; cases hi⟩
  | n + 1, 0, _, _, _, hnm, _ => absurd hnm (by omega)
  | n + 1, m + 1, listed, a, w, hnm, h => ⟨h.1, fun i hi => wpOp_mono (fun a' w' h' => ⟨h'.1, wpAnyN_more n m _ a' w' (by omega) h'.2⟩) (h.2 i hi)⟩

theorem wpAnyN_of_plan {ts es : List Nat} (hsel : Region.noSelect ops = true) (hQ : ∀ c a d v w, Q (.panic c) (Act.put a d v) w → Q (.panic c) a w) : ∀ (p : Pl) (listed : Array Bool) (a : Act) (w : World), Closed md ops listed → p.ok md ops ts es listed = true →
    wpPlan P md ops Q S ts es p a w → wpAnyN P md ops Q S ts es p.len listed a w
  | .done, listed, a, w, _, hok, h => ⟨by simpa [Pl.ok] using hok, h⟩
  | .take i r, listed, a, w, hcl, hok, h => by
    simp only [Pl.ok, Bool.and_eq_true, Bool.not_eq_true'] at hok
    obtain ⟨⟨⟨⟨hts, hie⟩, hr⟩, hf⟩, hrest⟩ := hok
    obtain ⟨o, v, ho, hy, hS, hq, hp⟩ := h
    have hr' : i ∈ Region.ready md ops listed := by simpa using hr
    exact wpAnyN_first ho (by simpa using hts) hie (Region.noSelect_spec hsel) (fun c a w h => hQ c _ _ _ w h) _ listed a w hcl (Region.free_spec ho hf) hr' hy hS (wpAnyN_of_plan hsel hQ r _ _ w (hcl.set hr') hrest hp)
  | .pure i r, listed, a, w, hcl, hok, h => by
    simp only [Pl.ok, Bool.and_eq_true, Bool.not_eq_true'] at hok
    obtain ⟨⟨⟨hie, hr⟩, hf⟩, hrest⟩ := hok
    obtain ⟨o, v, ho, hy, hq, hp⟩ := h
    have hr' : i ∈ Region.ready md ops listed := by simpa using hr
    exact wpAnyN_pure ho hie (Region.noSelect_spec hsel) (fun c a w h => hQ c _ _ _ w h) _ listed a w hcl (Region.free_spec ho hf) hr' hy (wpAnyN_of_plan hsel hQ r _ _ w (hcl.set hr') hrest hp)
  | .go i r, listed, a, w, hcl, hok, h => by
    simp only [Pl.ok, Bool.and_eq_true, decide_eq_true_eq] at hok
    obtain ⟨⟨hie, hr⟩, hrest⟩ := hok
    refine ⟨fun h0 => (by rw [hr] at h0; cases h0), fun j hj => ?_⟩
    have hj' := hj
    rw [hr] at hj
    obtain rfl : j = i := by simpa using hj
    exact wpOp_mono (fun a' w' h' => ⟨⟨h'.1, fun h0 => absurd h0 (by rw [hie]; exact Bool.noConfusion)⟩, wpAnyN_of_plan hsel hQ r _ a' w' (hcl.set hj') hrest h'.2⟩) h
  | .go2 i r j s, listed, a, w, hcl, hok, h => by
    simp only [Pl.ok, Bool.and_eq_true, decide_eq_true_eq] at hok
    obtain ⟨⟨⟨⟨hie, hje⟩, hr⟩, hok1⟩, hok2⟩ := hok
    refine ⟨fun h0 => (by rw [hr] at h0; cases h0), fun k hk => ?_⟩
    have hk' := hk
    rw [hr] at hk
    have : k = i ∨ k = j := by simpa using hk
    rcases this with rfl | rfl
    · exact wpOp_mono (fun a' w' h' => ⟨⟨h'.1, fun h0 => absurd h0 (by rw [hie]; exact Bool.noConfusion)⟩, wpAnyN_more _ _ _ a' w' (Nat.le_max_left _ _) (wpAnyN_of_plan hsel hQ r _ a' w' (hcl.set hk') hok1 h'.2)⟩) h.1
    · exact wpOp_mono (fun a' w' h' => ⟨⟨h'.1, fun h0 => absurd h0 (by rw [hje]; exact Bool.noConfusion)⟩, wpAnyN_more _ _ _ a' w' (Nat.le_max_right _ _) (wpAnyN_of_plan hsel hQ s _ a' w' (hcl.set hk') hok2 h'.2)⟩) h.2
end

section
variable {P : Program} {Q : Exit → Act → World → Prop} {S : World → Prop} {ts es : List Nat} {l : List Oper} {a : Act} {w : World}
theorem replicate_closed (md : Region.Mode) (ops : Array Oper) : Closed md ops (Array.replicate ops.size false) :=
  ⟨by simp, fun j oj _ hl => by rw [getD_replicate_false] at hl; cases hl⟩

/-- A region that draws its order, by a plan (it must not panic). -/
theorem wp_region_plan {id : Nat} (ts es : List Nat) (S : World → Prop) (p : Pl) (hm : P.follows .mixedOrders = true)
    (hB : (Region.noSelect l.toArray && p.ok .any l.toArray ts es (Array.replicate l.toArray.size false) && decide (p.len ≤ l.toArray.size)) = true)
    (h : wpPlan P .any l.toArray (NoPanic Q) S ts es p a w.drew) : (Code.region id l.toArray true).wp P Q a w := by
  simp only [Bool.and_eq_true, decide_eq_true_eq] at hB
  obtain ⟨⟨hsel, hok⟩, hlen⟩ := hB
  refine wp_region_noPanic (wp_region_any hm (wpAny_of_N (S := S) (ts := ts) (es := es) _ _ _ _ (wpAnyN_more _ _ _ _ _ hlen ?_)))
  exact wpAnyN_of_plan hsel (fun c a d v w h => h.elim) p _ a w.drew (replicate_closed _ _) hok h

theorem plan_done (h : Q .normal a w) : wpPlan P .any l.toArray (NoPanic Q) S ts es .done a w := h
theorem plan_take {i : Nat} {r : Pl} {o : Oper} {v : Value} (ho : l[i]? = some o) (hS : S w) (hw : Region.wanted o (yielded l.toArray a.tmps) = true) (hrun : ∀ w', S w' → (execOp a.eval o).run P w' = .ok (.value v) w')
    (h : wpPlan P .any l.toArray (NoPanic Q) S ts es r (a.put o.dst v) w) : wpPlan P .any l.toArray (NoPanic Q) S ts es (.take i r) a w :=
  ⟨o, v, by simpa using ho, .inl ⟨hw, hrun⟩, hS, fun _ _ h => h.elim, h⟩
theorem plan_skip {i : Nat} {r : Pl} {o : Oper} (ho : l[i]? = some o) (hS : S w) (hw : Region.wanted o (yielded l.toArray a.tmps) = false)
    (h : wpPlan P .any l.toArray (NoPanic Q) S ts es r (a.put o.dst undef) w) : wpPlan P .any l.toArray (NoPanic Q) S ts es (.take i r) a w :=
  ⟨o, undef, by simpa using ho, .inr ⟨hw, rfl⟩, hS, fun _ _ h => h.elim, h⟩
/-- An operation that looks at no memory. -/
theorem plan_pure {i : Nat} {r : Pl} {o : Oper} {v : Value} (ho : l[i]? = some o) (hw : Region.wanted o (yielded l.toArray a.tmps) = true) (hrun : ∀ w', (execOp a.eval o).run P w' = .ok (.value v) w')
    (h : wpPlan P .any l.toArray (NoPanic Q) S ts es r (a.put o.dst v) w) : wpPlan P .any l.toArray (NoPanic Q) S ts es (.pure i r) a w :=
  ⟨o, v, by simpa using ho, .inl ⟨hw, fun w' _ => hrun w'⟩, fun _ _ h => h.elim, h⟩
theorem plan_skipP {i : Nat} {r : Pl} {o : Oper} (ho : l[i]? = some o) (hw : Region.wanted o (yielded l.toArray a.tmps) = false)
    (h : wpPlan P .any l.toArray (NoPanic Q) S ts es r (a.put o.dst undef) w) : wpPlan P .any l.toArray (NoPanic Q) S ts es (.pure i r) a w :=
  ⟨o, undef, by simpa using ho, .inr ⟨hw, rfl⟩, fun _ _ h => h.elim, h⟩
/-- A copy. -/
theorem plan_move {i : Nat} {r : Pl} {o : Oper} {x : Operand} (ho : l[i]? = some o) (hop : o.op = .move x) (hw : Region.wanted o (yielded l.toArray a.tmps) = true)
    (h : wpPlan P .any l.toArray (NoPanic Q) S ts es r (a.put o.dst (a.eval x)) w) : wpPlan P .any l.toArray (NoPanic Q) S ts es (.pure i r) a w :=
  plan_pure ho hw (fun w' => by unfold execOp; simp only [hop]; rfl) h
/-- An operation that comes up alone; S need not be shown. -/
theorem plan_go {i : Nat} {r : Pl} {o : Oper} (ho : l[i]? = some o) (hn : need .any l.toArray ts es i = false) (hw : Region.wanted o (yielded l.toArray a.tmps) = true)
    (h : ∀ K : Act → World → Prop, (∀ a w, wpPlan P .any l.toArray (NoPanic Q) S ts es r a w → K a w) → o.wp P a w K (NoPanic Q)) : wpPlan P .any l.toArray (NoPanic Q) S ts es (.go i r) a w := by
  show wpOp _ _ _ _ _ _ _
  unfold wpOp
  have ho' : l.toArray[i]? = some o := by simpa using ho
  simp only [ho', hw, if_true]
  exact .inl (h _ fun a w hp => ⟨fun h0 => absurd h0 (by rw [hn]; exact Bool.false_ne_true), hp⟩)
/-- .. behind which S is shown anew. -/
theorem plan_goS {i : Nat} {r : Pl} {o : Oper} (ho : l[i]? = some o) (hw : Region.wanted o (yielded l.toArray a.tmps) = true)
    (h : ∀ K : Act → World → Prop, (∀ a w, S w → wpPlan P .any l.toArray (NoPanic Q) S ts es r a w → K a w) → o.wp P a w K (NoPanic Q)) : wpPlan P .any l.toArray (NoPanic Q) S ts es (.go i r) a w := by
  show wpOp _ _ _ _ _ _ _
  unfold wpOp
  have ho' : l.toArray[i]? = some o := by simpa using ho
  simp only [ho', hw, if_true]
  exact .inl (h _ fun a w hS hp => ⟨fun _ => hS, hp⟩)
theorem plan_goSkip {i : Nat} {r : Pl} {o : Oper} (ho : l[i]? = some o) (hw : Region.wanted o (yielded l.toArray a.tmps) = false) (hS : need .any l.toArray ts es i = true → S w)
    (h : wpPlan P .any l.toArray (NoPanic Q) S ts es r (a.put o.dst undef) w) : wpPlan P .any l.toArray (NoPanic Q) S ts es (.go i r) a w := by
  show wpOp _ _ _ _ _ _ _
  unfold wpOp
  have ho' : l.toArray[i]? = some o := by simpa using ho
  simp only [ho', hw, Bool.false_eq_true, if_false]
  exact ⟨hS, h⟩
/-- Two that may come up. -/
theorem plan_go2 {i j : Nat} {r s : Pl} {o u : Oper} (ho : l[i]? = some o) (hu : l[j]? = some u) (hw : Region.wanted o (yielded l.toArray a.tmps) = true) (hw2 : Region.wanted u (yielded l.toArray a.tmps) = true)
    (h : ∀ K : Act → World → Prop, (∀ a w, S w → wpPlan P .any l.toArray (NoPanic Q) S ts es r a w → K a w) → o.wp P a w K (NoPanic Q))
    (h2 : ∀ K : Act → World → Prop, (∀ a w, S w → wpPlan P .any l.toArray (NoPanic Q) S ts es s a w → K a w) → u.wp P a w K (NoPanic Q)) : wpPlan P .any l.toArray (NoPanic Q) S ts es (.go2 i r j s) a w := by
  refine ⟨?_, ?_⟩
  · unfold wpOp
    have ho' : l.toArray[i]? = some o := by simpa using ho
    simp only [ho', hw, if_true]
    exact .inl (h _ fun a w hS hp => ⟨fun _ => hS, hp⟩)
  · unfold wpOp
    have hu' : l.toArray[j]? = some u := by simpa using hu
    simp only [hu', hw2, if_true]
    exact .inl (h2 _ fun a w hS hp => ⟨fun _ => hS, hp⟩)
end
end Go.Proofs.YtiepopbmbgfhkaaGreat
