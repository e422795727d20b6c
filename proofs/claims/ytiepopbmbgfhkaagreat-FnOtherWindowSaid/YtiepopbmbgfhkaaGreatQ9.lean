/-
  Rows of suggestions; the completer; the completion manager.
  The completion manager.
-/
import Derived.Test.YtiepopbmbgfhkaaGreatQ8
namespace Go.Proofs.YtiepopbmbgfhkaaGreat
open Go.RowKit
set_option maxHeartbeats 1000000
set_option maxRecDepth 20000
set_option linter.unusedVariables false
set_option linter.unusedSimpArgs false

/-- A suggestion: text and description. -/
abbrev Pk := ByteArray × ByteArray
def pks (xs : List Pk) : List Value := xs.flatMap fun x => [.string x.1, .string x.2]
theorem pks_append (xs ys : List Pk) : pks (xs ++ ys) = pks xs ++ pks ys := by simp [pks]
theorem pks_length (xs : List Pk) : (pks xs).length = xs.length * 2 := by
  induction xs with
  | nil => rfl
  | cons x xs ih => simp only [pks, List.flatMap_cons, List.length_append, List.length_cons, List.length_nil] at *; omega
theorem pks_get (xs : List Pk) (i : Nat) (hi : i < xs.length) : (pks xs)[i * 2]? = some (.string xs[i].1) ∧ (pks xs)[i * 2 + 1]? = some (.string xs[i].2) := by
  induction xs generalizing i with
  | nil => simp at hi
  | cons x xs ih =>
    cases i with
    | zero => simp [pks]
    | succ i =>
      have := ih i (by simpa using hi)
      rw [show (i + 1) * 2 = i * 2 + 2 by omega, show i * 2 + 2 + 1 = i * 2 + 1 + 2 by omega]
      simpa [pks] using this

/-- A slice of suggestions that the call owns. -/
def PRow (base : Nat) (w : World) (v : Value) (xs : List Pk) : Prop := w.ownsRow base 73 2 v xs.length (pks xs)

section
variable {base : Nat} {w w1 : World} {v : Value} {xs : List Pk}
theorem PRow.nil (base : Nat) (w : World) : PRow base w (.slice none 0 0) [] := ⟨rfl, .inl ⟨rfl, rfl⟩⟩
theorem PRow.form (h : PRow base w v xs) : ∃ p c, v = .slice p xs.length c := by
  obtain ⟨h1, ⟨rfl, h2⟩ | ⟨g, cap, cur, rfl, hb, hg, hn, hcap, hsz, ht⟩⟩ := h
  · exact ⟨none, 0, by rw [h2]⟩
  · exact ⟨_, _, rfl⟩
theorem PRow.form' (h : PRow base w v xs) : ∃ p n c, v = .slice p n c := by
  obtain ⟨p, c, e⟩ := h.form
  exact ⟨p, _, c, e⟩
theorem PRow.get (h : PRow base w v xs) (i : Nat) (hi : i < xs.length) : ∃ g c, v = .slice (some ⟨g, 0, none⟩) xs.length c ∧ w.cell? ⟨g, i * 2, none⟩ = some (.string xs[i].1) ∧ w.cell? ⟨g, i * 2 + 1, none⟩ = some (.string xs[i].2) ∧ base ≤ g ∧ g < w.heap.size := by
  obtain ⟨h1, ⟨rfl, h2⟩ | ⟨g, cap, cur, rfl, hb, hg, hn, hcap, hsz, ht⟩⟩ := h
  · omega
  · have hB : Blk w g cur 73 := hg
    obtain ⟨e1, e2⟩ := pks_get xs i hi
    rw [← ht, List.getElem?_take, if_pos (by omega)] at e1 e2
    refine ⟨g, cap, rfl, ?_, ?_, hb, hB.lt⟩
    · rw [hB.cell]; simpa using e1
    · rw [hB.cell]; simpa using e2
theorem PRow.fr {base' : Nat} {ts bs : List Nat} (h : PRow base w v xs) (hF : Fr base' ts bs w w1) (h1 : 73 ∉ ts) (h2 : ∀ b ∈ bs, ∃ cs t, Blk w b cs t ∧ t ≠ 73) : PRow base w1 v xs :=
  hF.row h fun g hg => .inr ⟨fun hm => by
    obtain ⟨cs, t, e1, e2⟩ := h2 g hm
    obtain ⟨-, cs', e3⟩ := row_blk h g hg
    exact e2 (e1.inj e3).2, h1⟩
theorem PRow.fr0 {base' : Nat} (h : PRow base w v xs) (hF : Fr base' [] [] w w1) : PRow base w1 v xs := h.fr hF (by simp) (by simp)
theorem PRow.low {base' : Nat} {ts bs : List Nat} (h : PRow base w v xs) (hF : Fr base' ts bs w w1) (hl : ∀ g, v.ownBlock = some g → g < base') : PRow base w1 v xs :=
  hF.row h fun g hg => .inl (hl g hg)
theorem PRow.lower {base' : Nat} (h : PRow base w v xs) (hb : base' ≤ base) : PRow base' w v xs := by
  obtain ⟨h1, h2 | ⟨g, cap, cur, e, hb', r⟩⟩ := h
  · exact ⟨h1, .inl h2⟩
  · exact ⟨h1, .inr ⟨g, cap, cur, e, by omega, r⟩⟩
end

theorem info73 : ∃ i, Tryz.prog.info? 73 = some i ∧ i.zero = some (.agg #[.string .empty, .string .empty]) ∧ i.size = 2 ∧ i.bytes = 32 := info_of (by kernel_rfl)

section
variable {o : Oper} {a : Act} {w : World} {K : Act → World → Prop} {Q : Exit → Act → World → Prop}
/-- 'append(l, x)' at suggestions. -/
theorem wp_appp {base : Nat} {v : Value} {xs : List Pk} {y : Pk} {b : Nat} (s x : Operand) (ho : o.op = .call { callee := .builtin .append, args := #[s, x], argTypes := #[72, 72] })
    (hs : a.eval s = v) (hx : a.eval x = .slice (some ⟨b, 0, none⟩) 1 1) (hr : PRow base w v xs) (hd : Blk w b #[.string y.1, .string y.2] 73) (hlen : xs.length ≤ 1000000) (hb : base ≤ w.heap.size)
    (h : ∀ p n c w', PRow base w' (.slice p n c) (xs ++ [y]) → Fr base [73] [] w w' → K (a.put o.dst (.slice p n c)) w') : o.wp Tryz.prog a w K Q := by
  obtain ⟨i, h1, h2, h3, h4⟩ := info73
  obtain ⟨v', w', hrun, hown', hgr, hnil, hat⟩ := run_append_own_at (P := Tryz.prog) w base 72 o.type 73 i (.agg #[.string .empty, .string .empty]) 2 32 (by kernel_rfl) h1 h2 h3 h4 rfl (by decide) v xs.length _ hr
    ⟨b, 0, none⟩ 1 1 (pks [y]) (by simp [pks]) (fun j u hj => by
      rw [add_at, hd.cell]
      simp only [pks, List.flatMap_cons, List.flatMap_nil, List.append_nil] at hj
      rw [← hj]
      rcases j with _ | _ | j <;> rfl)
    (fun u hu => by simp only [pks, List.flatMap_cons, List.flatMap_nil, List.append_nil, List.mem_cons, List.not_mem_nil, or_false] at hu; rcases hu with rfl | rfl <;> rfl) (by simp only [maxLen]; omega) (by omega) (by omega)
  have hP : PRow base w' v' (xs ++ [y]) := by
    unfold PRow; rw [pks_append, List.length_append]; exact hown'
  obtain ⟨p, c, rfl⟩ := hP.form
  unfold Oper.wp execOp
  simp only [ho, resolve, invoke, builtin, Sem.run_bind, Sem.run_pure, Result.andThen_ok, List.map_toArray, List.map_cons, List.map_nil, hs, hx, hrun]
  exact h p _ c w' hP ((Fr.refl base [73] [] w).grown hgr fun k hk => by
    obtain ⟨e1, cs, e2⟩ := row_blk hr k hk
    exact ⟨e1, .inr (.inr ⟨cs, 73, e2, by simp⟩)⟩)
end

/-- What the completer offers: the suggestions whose texts begin with a word. -/
def fit (word : ByteArray) (xs : List Pk) : List Pk := xs.filter fun x => isPre word x.1

/-- What the completer reads: the separators, and the suggestions. -/
def Cpl (base : Nat) (w : World) (sb oc : Nat) (sep : ByteArray) (offs : List Pk) : Prop :=
  (∃ cs, Blk w sb cs 25 ∧ cs[6]? = some (.string sep)) ∧ ∃ v, Blk w oc #[v] 72 ∧ PRow base w v offs

theorem complete_c {base : Nat} {w : World} {sb oc k : Nat} {sep t : ByteArray} {offs : List Pk} (h : Cpl base w sb oc sep offs) (ha : Asc t) (hsep : Asc sep) (hs : t.size ≤ 1000000) (hk : k ≤ t.size) (ho : offs.length ≤ 1000) (hos : ∀ x ∈ offs, x.1.size ≤ 1000000) :
    Calls Tryz.prog 38 #[.agg #[.string t, .int .i64 k], .pointer (some ⟨sb, 0, none⟩), .pointer (some ⟨oc, 0, none⟩)] w fun e w' => (∃ v, e = .returned v ∧ PRow w.heap.size w' v (fit (t.extract (wordAt sep t k) k) offs)) ∧ Fr 0 [] [] w w' := by
  obtain ⟨⟨scs, hSB, h6⟩, v, hB, hP⟩ := h
  have c6 := hSB.cell 6
  rw [h6] at c6
  obtain ⟨o0, -⟩ := hB.c1
  obtain ⟨M, hM⟩ : ∃ M, w.heap.size = M := ⟨_, rfl⟩
  have hsl : sb < w.heap.size := World.block_lt_of_cell? w _ c6
  have hol := hB.lt
  rw [hM] at hsl hol
  obtain ⟨p, c, rfl⟩ := hP.form
  have hlow : ∀ g, (Value.slice p offs.length c).ownBlock = some g → g < M := fun g hg => by
    obtain ⟨-, cs, e⟩ := row_blk hP g hg
    have := e.lt
    omega
  go_enter Tryz.func38, Tryz.ntmps38
  go_wp2_with (fail)
  have hd := Blk.new' (w := w) hM.symm #[.string t, .int .i64 k] 75
  refine (getWord_c hd ha hsep hs hk).mono ?_
  rintro e w1 ⟨rfl, hF1⟩
  have hFa : Fr M [73] [] w w1 := ((Fr.refl M [73] [] w).alloc _).ext hF1
  have hB1 := hF1.blk0 (hB.alloc (.cells #[.string t, .int .i64 k] 75))
  have hP1 := (hP.fr0 ((Fr.refl 0 [] [] w).alloc (.cells #[.string t, .int .i64 k] 75))).fr0 hF1
  obtain ⟨b0, -⟩ := hB1.c1
  have bl := hB1.lt
  go_wp2_with (fail)
  obtain ⟨word, hw⟩ : ∃ word, t.extract (wordAt sep t k) k = word := ⟨_, rfl⟩
  have hws : word.size ≤ 1000000 := by rw [← hw]; simp; omega
  rw [hw]
  go_loopw [5, 14] (fun v5 v14 w' => ∃ i : Nat, i ≤ offs.length ∧ v14 = .int .i64 i ∧ PRow M w' v5 (fit word (offs.take i)) ∧ Fr M [73] [] w w' ∧ PRow base w' (.slice p offs.length c) offs ∧ M ≤ w'.heap.size) (fun _ v14 _ => offs.length - (intOf v14).toNat)
  case atStart => exact ⟨0, by omega, rfl, PRow.nil _ _, hFa, hP1, by have := hFa.size; omega⟩
  case round =>
    obtain ⟨i, hi, rfl, hV, hF, hO, hMs⟩ := hrel
    have hB2 := hF.blk hB (.inr ⟨by simp, by simp⟩)
    obtain ⟨b0, -⟩ := hB2.c1
    have bl := hB2.lt
    obtain ⟨p5, n5, c5, rfl⟩ := hV.form'
    by_cases hlt : i < offs.length
    · obtain ⟨g, cg, eg, e1, e2, hbg, hgl⟩ := hO.get i hlt
      simp only [Value.slice.injEq] at eg
      obtain ⟨rfl, -, rfl⟩ := eg
      have hos1 := hos offs[i] (List.getElem_mem hlt)
      have d1 : decide ((i : Int) < offs.length) = true := by simpa using hlt
      have d2 : (i : Int) < offs.length := by omega
      go_wp2_with (fail)
      refine (hasPrefix_c offs[i].1 word (by omega) (by omega) _).mono ?_
      have htk : offs.take (i + 1) = offs.take i ++ [offs[i]] := by rw [List.take_succ_eq_append_getElem hlt]
      cases hb : isPre word offs[i].1 with
      | true =>
        have hft : fit word (offs.take (i + 1)) = fit word (offs.take i) ++ [offs[i]] := by
          unfold fit; rw [htk, List.filter_append]; simp [hb]
        have HFT := Lib.hid hft
        clear hft htk hb
        rintro e w2 ⟨rfl, rfl⟩
        have hl5 : (fit word (offs.take i)).length ≤ 1000000 := by
          have := List.length_filter_le (fun x : Pk => isPre word x.1) (offs.take i)
          unfold fit; rw [List.length_take] at this; omega
        go_wp2_with (first | (refine wpList_plain rfl (fun K hK => ?_); refine wp_appp (y := offs[i]) _ _ rfl rfl rfl ((hV.fr0 ((Fr.refl 0 [] [] _).alloc _)).fr0 ((Fr.refl 0 [] [] _).alloc _)) (Blk.new' (by simp) _ _) hl5 (by simp; omega) ?_; intro q5 m5 k5 w4 hV4 hF4; refine hK _ _ ?_; clear hK K))
        have hFb : Fr M [73] [] wr w4 := (((Fr.refl _ _ _ _).alloc _).alloc _).into hF4 (by simp) (by simp)
        go_roundw
        case rel =>
          refine ⟨i + 1, by omega, by simp, ?_, hF.into hFb (by simp) (by simp), hO.low hFb hlow, by have := hFb.size; omega⟩
          rw [HFT.out]; exact hV4
        case measure => simp [intOf]; omega
      | false =>
        have hft : fit word (offs.take (i + 1)) = fit word (offs.take i) := by
          unfold fit; rw [htk, List.filter_append]; simp [hb]
        have HFT := Lib.hid hft
        clear hft htk hb
        rintro e w2 ⟨rfl, rfl⟩
        go_wp2
        go_roundw
        case rel =>
          refine ⟨i + 1, by omega, by simp, ?_, hF.alloc _, hO.fr0 ((Fr.refl 0 [] [] _).alloc _), by simp; omega⟩
          rw [HFT.out]; exact hV.fr0 ((Fr.refl 0 [] [] _).alloc _)
        case measure => simp [intOf]; omega
    · have d1 : decide ((i : Int) < offs.length) = false := by simpa using hlt
      have e : i = offs.length := by omega
      have hl : offs.take i = offs := by rw [e]; simp
      rw [hl] at hV
      have E := Lib.hid e
      clear e hl
      go_wp2_with (fail)
      go_ret
      rw [hM]
      exact ⟨⟨_, rfl, by rw [hw]; exact hV⟩, Fr.fresh (by rw [hM]; exact hF)⟩
end Go.Proofs.YtiepopbmbgfhkaaGreat

namespace Go.Proofs.YtiepopbmbgfhkaaGreat
open Go.RowKit
open List renaming setIfInBounds_toArray → zq1, set_cons_zero → zq2, set_cons_succ → zq3
open Int renaming toNat_natCast → zq4, toNat_sub → zq5, toNat_zero → zq6
set_option maxHeartbeats 1000000
set_option maxRecDepth 20000
set_option linter.unusedVariables false
set_option linter.unusedSimpArgs false

/-- What does not change of a completion manager: the blocks that its completer reads, how many are shown at most, the separators, whether it is asked at first, and the suggestions. -/
structure Cp where
  sb : Nat
  oc : Nat
  most : Nat
  sep : ByteArray
  start : Bool
  offs : List Pk

structure CpOk (q : Cp) : Prop where
  sep : Asc q.sep
  len : q.offs.length ≤ 1000
  siz : ∀ x ∈ q.offs, x.1.size ≤ 1000000
  most1 : 1 ≤ q.most
  most : q.most ≤ 1000

def cmCells (q : Cp) (sel vs : Int) (v : Value) : Array Value :=
  #[.int .i64 sel, v, .int .u16 q.most, .func (.func 38) #[] #[.pointer (some ⟨q.sb, 0, none⟩), .pointer (some ⟨q.oc, 0, none⟩)], .int .i64 vs, .string q.sep, .bool q.start]

/-- The completion manager at c: which suggestion is selected, the first one that is shown, and the suggestions. -/
def Cm (base : Nat) (w : World) (c : Nat) (q : Cp) (sel vs : Int) (tmp : List Pk) : Prop :=
  base ≤ c ∧ Cpl base w q.sb q.oc q.sep q.offs ∧ ∃ v, Blk w c (cmCells q sel vs v) 87 ∧ PRow base w v tmp

/-- The cells of a completion manager. -/
structure CmC (w : World) (c : Nat) (q : Cp) (sel vs : Int) (v : Value) : Prop where
  c0 : w.cell? ⟨c, 0, none⟩ = some (.int .i64 sel)
  c1 : w.cell? ⟨c, 1, none⟩ = some v
  c2 : w.cell? ⟨c, 2, none⟩ = some (.int .u16 q.most)
  c3 : w.cell? ⟨c, 3, none⟩ = some (.func (.func 38) #[] #[.pointer (some ⟨q.sb, 0, none⟩), .pointer (some ⟨q.oc, 0, none⟩)])
  c4 : w.cell? ⟨c, 4, none⟩ = some (.int .i64 vs)
  c5 : w.cell? ⟨c, 5, none⟩ = some (.string q.sep)
  c6 : w.cell? ⟨c, 6, none⟩ = some (.bool q.start)
  f0 : w.frozen? ⟨c, 0, none⟩ = false
  f1 : w.frozen? ⟨c, 1, none⟩ = false
  f4 : w.frozen? ⟨c, 4, none⟩ = false
  lt : c < w.heap.size
theorem cmC {w : World} {c : Nat} {q : Cp} {sel vs : Int} {v : Value} (h : Blk w c (cmCells q sel vs v) 87) : CmC w c q sel vs v :=
  ⟨h.cell 0, h.cell 1, h.cell 2, h.cell 3, h.cell 4, h.cell 5, h.cell 6, h.frozen 0, h.frozen 1, h.frozen 4, h.lt⟩

theorem Cpl.fr {base base' : Nat} {w w1 : World} {sb oc : Nat} {sep : ByteArray} {offs : List Pk} {ts bs : List Nat} (h : Cpl base w sb oc sep offs) (hF : Fr base' ts bs w w1) (h1 : 25 ∉ ts ∧ 72 ∉ ts ∧ 73 ∉ ts) (h3 : ∀ b ∈ bs, ∃ cs t, Blk w b cs t ∧ t ≠ 25 ∧ t ≠ 72 ∧ t ≠ 73) : Cpl base w1 sb oc sep offs := by
  obtain ⟨⟨cs, hSB, h6⟩, v, hB, hP⟩ := h
  refine ⟨⟨cs, hF.blk hSB (.inr ⟨fun hm => ?_, h1.1⟩), h6⟩, v, hF.blk hB (.inr ⟨fun hm => ?_, h1.2.1⟩), hP.fr hF h1.2.2 fun b hb => ?_⟩
  · obtain ⟨ds, t, e1, e2, e3, e4⟩ := h3 _ hm
    exact e2 (e1.inj hSB).2
  · obtain ⟨ds, t, e1, e2, e3, e4⟩ := h3 _ hm
    exact e3 (e1.inj hB).2
  · obtain ⟨ds, t, e1, e2, e3, e4⟩ := h3 _ hb
    exact ⟨ds, t, e1, e4⟩
theorem Cpl.fr0 {base base' : Nat} {w w1 : World} {sb oc : Nat} {sep : ByteArray} {offs : List Pk} (h : Cpl base w sb oc sep offs) (hF : Fr base' [] [] w w1) : Cpl base w1 sb oc sep offs :=
  h.fr hF (by simp) (by simp)
theorem Cm.fr0 {base base' : Nat} {w w1 : World} {c : Nat} {q : Cp} {sel vs : Int} {tmp : List Pk} (h : Cm base w c q sel vs tmp) (hF : Fr base' [] [] w w1) : Cm base w1 c q sel vs tmp := by
  obtain ⟨h1, h2, v, h3, h4⟩ := h
  exact ⟨h1, h2.fr0 hF, v, hF.blk0 h3, h4.fr0 hF⟩
theorem Cm.ren {base : Nat} {w : World} {c : Nat} {q : Cp} {sel vs : Int} {tmp : List Pk} (h : Cm base w c q sel vs tmp) : ∃ p k, CmC w c q sel vs (.slice p tmp.length k) ∧ Blk w c (cmCells q sel vs (.slice p tmp.length k)) 87 ∧ PRow base w (.slice p tmp.length k) tmp ∧ base ≤ c := by
  obtain ⟨h1, h2, v, h3, h4⟩ := h
  obtain ⟨p, k, rfl⟩ := h4.form
  exact ⟨p, k, cmC h3, h3, h4, h1⟩

/-- A cell of the manager's own block is written. -/
theorem Cm.put {base : Nat} {w : World} {c : Nat} {q : Cp} {sel vs : Int} {tmp : List Pk} (h : Cm base w c q sel vs tmp) {i : Nat} {x : Value} {sel' vs' : Int} {tmp' : List Pk} {v v' : Value} (hB : Blk w c (cmCells q sel vs v) 87) (hc : (cmCells q sel vs v).setIfInBounds i x = cmCells q sel' vs' v') (hP : PRow base w v' tmp') :
    Cm base (w.setCell ⟨c, i, none⟩ x) c q sel' vs' tmp' ∧ Fr base [] [c] w (w.setCell ⟨c, i, none⟩ x) := by
  obtain ⟨h1, h2, -⟩ := h
  have hF : Fr base [] [c] w (w.setCell ⟨c, i, none⟩ x) := (Fr.refl _ _ _ _).setCell (a := ⟨c, i, none⟩) h1 (.inl (by simp)) _
  have hb : ∀ b ∈ [c], ∃ cs t, Blk w b cs t ∧ t ≠ 25 ∧ t ≠ 72 ∧ t ≠ 73 := fun b hb => by simp only [List.mem_singleton] at hb; subst hb; exact ⟨_, 87, hB, by decide, by decide, by decide⟩
  refine ⟨⟨h1, h2.fr hF (by simp) hb, v', ?_, hP.fr hF (by simp) fun b hm => ?_⟩, hF⟩
  · rw [← hc]; exact hB.set i x
  · obtain ⟨ds, t, e1, e2, e3, e4⟩ := hb b hm
    exact ⟨ds, t, e1, e4⟩

theorem completing_c {base : Nat} {w : World} {c : Nat} {q : Cp} {sel vs : Int} {tmp : List Pk} (h : Cm base w c q sel vs tmp) :
    Calls Tryz.prog 86 #[.pointer (some ⟨c, 0, none⟩)] w fun e w' => e = .returned (.bool (sel != -1)) ∧ w = w' := by
  obtain ⟨p, k, ⟨c0, c1, c2, c3, c4, c5, c6, f0, f1, f4, hlt⟩, hB, hP, hb⟩ := h.ren
  go_enter Tryz.func86, Tryz.ntmps86
  go_wp2
  go_ret
  exact ⟨rfl, rfl⟩

theorem getSuggestions_c {base : Nat} {w : World} {c : Nat} {q : Cp} {sel vs : Int} {tmp : List Pk} (h : Cm base w c q sel vs tmp) :
    Calls Tryz.prog 113 #[.pointer (some ⟨c, 0, none⟩)] w fun e w' => (∃ p k, e = .returned (.slice p tmp.length k) ∧ PRow base w (.slice p tmp.length k) tmp) ∧ w = w' := by
  obtain ⟨p, k, ⟨c0, c1, c2, c3, c4, c5, c6, f0, f1, f4, hlt⟩, hB, hP, hb⟩ := h.ren
  go_enter Tryz.func113, Tryz.ntmps113
  go_wp2
  go_ret
  exact ⟨⟨p, k, rfl, hP⟩, rfl⟩

theorem newDoc_c (w : World) : Calls Tryz.prog 146 #[] w fun e w' => ∃ d, e = .returned (.pointer (some ⟨d, 0, none⟩)) ∧ Blk w' d #[.string .empty, .int .i64 (0 : Nat)] 75 ∧ Fr 0 [] [] w w' := by
  go_enter Tryz.func146, Tryz.ntmps146
  go_wp2
  go_ret
  exact ⟨_, rfl, Blk.new w _ _, (Fr.refl _ _ _ _).alloc _⟩

theorem update_c {base : Nat} {w : World} {c k : Nat} {q : Cp} {sel vs : Int} {tmp : List Pk} {t : ByteArray} (h : Cm base w c q sel vs tmp) (hq : CpOk q) (ha : Asc t) (hs : t.size ≤ 1000000) (hk : k ≤ t.size) :
    Calls Tryz.prog 45 #[.pointer (some ⟨c, 0, none⟩), .agg #[.string t, .int .i64 k]] w fun e w' => e = .returned (.tuple #[]) ∧ Cm base w' c q sel vs (fit (t.extract (wordAt q.sep t k) k) q.offs) ∧ Fr base [] [c] w w' := by
  obtain ⟨p, kk, ⟨c0, c1, c2, c3, c4, c5, c6, f0, f1, f4, hlt⟩, hB, hP, hb⟩ := h.ren
  obtain ⟨M, hM⟩ : ∃ M, w.heap.size = M := ⟨_, rfl⟩
  go_enter Tryz.func45, Tryz.ntmps45
  go_wp2_with (fail)
  have hF0 : Fr 0 [] [] w (w.alloc (.cells #[.string t, .int .i64 k] 75)).drew := ((Fr.refl 0 [] [] w).alloc _).drew
  have h0 := h.fr0 hF0
  have hd := (Blk.new' (w := w) hM.symm #[.string t, .int .i64 k] 75).drew
  obtain ⟨p1, kk1, ⟨c0, c1, c2, c3, c4, c5, c6, f0, f1, f4, hlt⟩, hB0, hP0, hb⟩ := h0.ren
  obtain ⟨d0, d1, -⟩ := hd.c2
  have hS : (fun w' : World => w'.cell? ⟨c, 3, none⟩ = some (.func (.func 38) #[] #[.pointer (some ⟨q.sb, 0, none⟩), .pointer (some ⟨q.oc, 0, none⟩)]) ∧ w'.cell? ⟨M, 0, none⟩ = some (.string t) ∧ w'.cell? ⟨M, 1, none⟩ = some (.int .i64 k)) (w.alloc (.cells #[.string t, .int .i64 k] 75)).drew := ⟨c3, d0, d1⟩
  refine wp_region_plan [4, 5] [6, 9] (fun w' => w'.cell? ⟨c, 3, none⟩ = some (.func (.func 38) #[] #[.pointer (some ⟨q.sb, 0, none⟩), .pointer (some ⟨q.oc, 0, none⟩)]) ∧ w'.cell? ⟨M, 0, none⟩ = some (.string t) ∧ w'.cell? ⟨M, 1, none⟩ = some (.int .i64 k)) (.pure 0 (.pure 1 (.pure 2 (.pure 3 (.take 4 (.take 5 (.go 6 (.pure 7 (.pure 8 (.go 9 .done)))))))))) hmix (by kernel_rfl) ?_
  repeat (first | (refine plan_move rfl rfl rfl ?_; (try simp only [Act.put, zq1, zq2, zq3, zq4, zq5, zq6])) | (refine plan_pure (v := ?_) rfl rfl ?_ ?_; rotate_left; (intro w'; go_simp <;> with_reducible rfl); (try simp only [Act.put, zq1, zq2, zq3, zq4, zq5, zq6])) | (refine plan_take (v := ?_) rfl hS rfl ?_ ?_; rotate_left; (intro w' hSw; (try dsimp only at hSw); go_simp <;> with_reducible rfl); (try simp only [Act.put, zq1, zq2, zq3, zq4, zq5, zq6])))
  refine plan_go rfl (by kernel_rfl) rfl (fun K hK => ?_)
  go_simp; refine (complete_c h0.2.1 ha hq.sep hs hk hq.len hq.siz).mono ?_; rintro e w1 ⟨⟨v, rfl, hPv⟩, hF1⟩; have h1 := h0.fr0 hF1; obtain ⟨pv, nv, kv, rfl⟩ := hPv.form'; obtain ⟨p2, kk2, ⟨c0, c1, c2, c3, c4, c5, c6, f0, f1, f4, hlt⟩, hB1, hP1, hb⟩ := h1.ren; refine hK _ _ ?_; clear hK K; (try simp only [Act.put, zq1, zq2, zq3, zq4, zq5, zq6])
  repeat (first | (refine plan_pure (v := ?_) rfl rfl ?_ ?_; rotate_left; (intro w'; go_simp <;> with_reducible rfl); (try simp only [Act.put, zq1, zq2, zq3, zq4, zq5, zq6])))
  refine plan_go rfl (by kernel_rfl) rfl (fun K hK => ?_)
  go_simp; refine hK _ _ ?_; clear hK K; (try simp only [Act.put, zq1, zq2, zq3, zq4, zq5, zq6])
  refine plan_done ?_
  go_wp2
  go_end0
  have hbs : base ≤ (w.alloc (.cells #[.string t, .int .i64 k] 75)).drew.heap.size := by
    have := h.ren
    obtain ⟨_, _, e1, _, _, e2⟩ := this
    have := e1.lt
    simp
    omega
  obtain ⟨q1, q2⟩ := h1.put (i := 1) (x := .slice pv nv kv) (v' := .slice pv nv kv) hB1 rfl (hPv.lower hbs)
  exact ⟨rfl, q1, ((Fr.refl base [] [c] w).ext hF0 |>.ext hF1).into q2 (by simp) (by simp)⟩

theorem isPre_empty (s : ByteArray) : isPre .empty s = true := by
  unfold isPre
  have : s.extract 0 ByteArray.empty.size = .empty := extract_empty _ _ _ (by simp)
  rw [this]
  simp
theorem fit_empty (n : Nat) (offs : List Pk) : fit (ByteArray.empty.extract n 0) offs = offs := by
  rw [extract_empty _ _ _ (by omega)]
  unfold fit
  simp [isPre_empty]

theorem reset_c {base : Nat} {w : World} {c : Nat} {q : Cp} {sel vs : Int} {tmp : List Pk} (h : Cm base w c q sel vs tmp) (hq : CpOk q) :
    Calls Tryz.prog 122 #[.pointer (some ⟨c, 0, none⟩)] w fun e w' => e = .returned (.tuple #[]) ∧ Cm base w' c q (-1) 0 q.offs ∧ Fr base [] [c] w w' := by
  obtain ⟨p, kk, ⟨c0, c1, c2, c3, c4, c5, c6, f0, f1, f4, hlt⟩, hB, hP, hb⟩ := h.ren
  obtain ⟨h1, hF1⟩ := h.put (i := 0) (x := .int .i64 (-1)) (sel' := -1) (vs' := vs) (v' := .slice p tmp.length kk) hB rfl hP
  obtain ⟨p1, kk1, C1, hB1, hP1, -⟩ := h1.ren
  obtain ⟨h2, hF2⟩ := h1.put (i := 4) (x := .int .i64 0) (sel' := -1) (vs' := 0) (v' := .slice p1 tmp.length kk1) hB1 rfl hP1
  go_enter Tryz.func122, Tryz.ntmps122
  go_wp2_with (fail)
  refine (newDoc_c _).mono ?_
  rintro e w3 ⟨d, rfl, hd, hF3⟩
  have h3 := h2.fr0 hF3
  obtain ⟨d0, d1, -⟩ := hd.c2
  have dlt := hd.lt
  go_wp2_with (fail)
  refine (update_c (k := 0) h3 hq asc_empty (by simp) (by omega)).mono ?_
  rintro e w4 ⟨rfl, h4, hF4⟩
  rw [fit_empty] at h4
  go_wp2
  go_end0
  exact ⟨rfl, h4, ((hF1.trans hF2).ext hF3).into hF4 (by simp) (by simp)⟩

theorem cupd_reset {base : Nat} {w : World} {c : Nat} {q : Cp} {sel vs : Int} {tmp : List Pk} (h : Cm base w c q sel vs tmp) (hq : CpOk q) (ht : tmp.length ≤ 1000) (hsel : (tmp.length : Int) ≤ sel) :
    Calls Tryz.prog 144 #[.pointer (some ⟨c, 0, none⟩)] w fun e w' => e = .returned (.tuple #[]) ∧ Cm base w' c q (-1) 0 q.offs ∧ Fr base [] [c] w w' := by
  obtain ⟨p, kk, ⟨c0, c1, c2, c3, c4, c5, c6, f0, f1, f4, hlt⟩, hB, hP, hb⟩ := h.ren
  have hw : IntKind.i64.wrap (q.most : Int) = q.most := wrap_in (by omega) (by have := hq.most; omega)
  have d2 : decide ((tmp.length : Int) ≤ sel) = true := by simpa using hsel
  have hm : (if tmp.length < q.most then 1 else 0) = (if tmp.length < q.most then 1 else 0) := rfl
  by_cases hlt2 : tmp.length < q.most
  · have d1 : decide ((tmp.length : Int) < q.most) = true := by simpa using hlt2
    go_enter Tryz.func144, Tryz.ntmps144
    go_wp2_with (fail)
    go_quiet (fail)
    go_wp2_with (fail)
    refine (reset_c (h.fr0 ((Fr.refl 0 [] [] w).drewN _)) hq).mono ?_
    rintro e w3 ⟨rfl, h3, hF3⟩
    go_wp2
    go_end0
    exact ⟨rfl, h3, ((Fr.refl _ _ _ _).drewN _).trans hF3⟩
  · have d1 : decide ((tmp.length : Int) < q.most) = false := by simpa using hlt2
    go_enter Tryz.func144, Tryz.ntmps144
    go_wp2_with (fail)
    go_quiet (fail)
    go_wp2_with (fail)
    refine (reset_c (h.fr0 ((Fr.refl 0 [] [] w).drewN _)) hq).mono ?_
    rintro e w3 ⟨rfl, h3, hF3⟩
    go_wp2
    go_end0
    exact ⟨rfl, h3, ((Fr.refl _ _ _ _).drewN _).trans hF3⟩

theorem cupd_keep {base : Nat} {w : World} {c : Nat} {q : Cp} {sel vs : Int} {tmp : List Pk} (h : Cm base w c q sel vs tmp) (hq : CpOk q) (ht : tmp.length ≤ 1000) (hsel : sel < (tmp.length : Int)) (hm1 : -1 ≤ sel) :
    Calls Tryz.prog 144 #[.pointer (some ⟨c, 0, none⟩)] w fun e w' => e = .returned (.tuple #[]) ∧ Cm base w' c q sel vs tmp ∧ Fr base [] [c] w w' := by
  obtain ⟨p, kk, ⟨c0, c1, c2, c3, c4, c5, c6, f0, f1, f4, hlt⟩, hB, hP, hb⟩ := h.ren
  have hw : IntKind.i64.wrap (q.most : Int) = q.most := wrap_in (by omega) (by have := hq.most; omega)
  have d2 : decide ((tmp.length : Int) ≤ sel) = false := by simpa using hsel
  have d3 : decide (sel < -1) = false := by simpa using hm1
  by_cases hlt2 : tmp.length < q.most
  · have d1 : decide ((tmp.length : Int) < q.most) = true := by simpa using hlt2
    go_enter Tryz.func144, Tryz.ntmps144
    go_wp2_with (fail)
    go_quiet (fail)
    go_wp2_with (fail)
    go_end0
    exact ⟨rfl, h.fr0 ((Fr.refl 0 [] [] w).drewN _), (Fr.refl _ _ _ _).drewN _⟩
  · have d1 : decide ((tmp.length : Int) < q.most) = false := by simpa using hlt2
    go_enter Tryz.func144, Tryz.ntmps144
    go_wp2_with (fail)
    go_quiet (fail)
    go_wp2_with (fail)
    go_end0
    exact ⟨rfl, h.fr0 ((Fr.refl 0 [] [] w).drewN _), (Fr.refl _ _ _ _).drewN _⟩

/-- How many suggestions are shown. -/
def shown (q : Cp) (tmp : List Pk) : Nat := min q.most tmp.length

theorem cupd_wrap {base : Nat} {w : World} {c : Nat} {q : Cp} {sel vs : Int} {tmp : List Pk} (h : Cm base w c q sel vs tmp) (hq : CpOk q) (ht : tmp.length ≤ 1000) (hsel : sel < -1) :
    Calls Tryz.prog 144 #[.pointer (some ⟨c, 0, none⟩)] w fun e w' => e = .returned (.tuple #[]) ∧ Cm base w' c q (tmp.length - 1) ((tmp.length - shown q tmp : Nat)) tmp ∧ Fr base [] [c] w w' := by
  obtain ⟨p, kk, ⟨c0, c1, c2, c3, c4, c5, c6, f0, f1, f4, hlt⟩, hB, hP, hb⟩ := h.ren
  have hw : IntKind.i64.wrap (q.most : Int) = q.most := wrap_in (by omega) (by have := hq.most; omega)
  have d2 : decide ((tmp.length : Int) ≤ sel) = false := by simp; omega
  have d3 : decide (sel < -1) = true := by simpa using hsel
  have hf : ∀ n, Fr 0 [] [] w (w.drewN n) := fun n => (Fr.refl 0 [] [] w).drewN n
  have key : ∀ n, Cm base (((w.drewN n).setCell ⟨c, 0, none⟩ (.int .i64 (tmp.length - 1))).setCell ⟨c, 4, none⟩ (.int .i64 (tmp.length - shown q tmp : Nat))) c q (tmp.length - 1) ((tmp.length - shown q tmp : Nat)) tmp ∧ Fr base [] [c] w (((w.drewN n).setCell ⟨c, 0, none⟩ (.int .i64 (tmp.length - 1))).setCell ⟨c, 4, none⟩ (.int .i64 (tmp.length - shown q tmp : Nat))) := by
    intro n
    have h0 := h.fr0 (hf n)
    obtain ⟨h1, hF1⟩ := h0.put (i := 0) (x := .int .i64 (tmp.length - 1)) (sel' := tmp.length - 1) (vs' := vs) (v' := .slice p tmp.length kk) hB rfl hP
    obtain ⟨p1, kk1, C1, hB1, hP1, -⟩ := h1.ren
    obtain ⟨h2, hF2⟩ := h1.put (i := 4) (x := .int .i64 (tmp.length - shown q tmp : Nat)) (sel' := tmp.length - 1) (vs' := (tmp.length - shown q tmp : Nat)) (v' := .slice p1 tmp.length kk1) hB1 rfl hP1
    exact ⟨h2, ((Fr.refl base [] [c] w).drewN n).trans (hF1.trans hF2)⟩
  by_cases hlt2 : tmp.length < q.most
  · have d1 : decide ((tmp.length : Int) < q.most) = true := by simpa using hlt2
    have hsh : tmp.length - shown q tmp = 0 := by unfold shown; omega
    rw [hsh] at key ⊢
    go_enter Tryz.func144, Tryz.ntmps144
    go_wp2_with (fail)
    go_quiet (fail)
    go_wp2_with (fail)
    go_end0
    exact ⟨rfl, key nq⟩
  · have d1 : decide ((tmp.length : Int) < q.most) = false := by simpa using hlt2
    have hsh : ((tmp.length - shown q tmp : Nat) : Int) = (tmp.length : Int) - q.most := by unfold shown; omega
    rw [hsh] at key ⊢
    go_enter Tryz.func144, Tryz.ntmps144
    go_wp2_with (fail)
    go_quiet (fail)
    go_wp2_with (fail)
    go_end0
    exact ⟨rfl, key nq⟩

theorem Cm.putSel {base : Nat} {w : World} {c : Nat} {q : Cp} {sel vs : Int} {tmp : List Pk} (h : Cm base w c q sel vs tmp) (x : Int) : Cm base (w.setCell ⟨c, 0, none⟩ (.int .i64 x)) c q x vs tmp ∧ Fr base [] [c] w (w.setCell ⟨c, 0, none⟩ (.int .i64 x)) := by
  obtain ⟨p, kk, C, hB, hP, hb⟩ := h.ren
  exact h.put (v' := .slice p tmp.length kk) hB rfl hP
theorem Cm.putVs {base : Nat} {w : World} {c : Nat} {q : Cp} {sel vs : Int} {tmp : List Pk} (h : Cm base w c q sel vs tmp) (x : Int) : Cm base (w.setCell ⟨c, 4, none⟩ (.int .i64 x)) c q sel x tmp ∧ Fr base [] [c] w (w.setCell ⟨c, 4, none⟩ (.int .i64 x)) := by
  obtain ⟨p, kk, C, hB, hP, hb⟩ := h.ren
  exact h.put (v' := .slice p tmp.length kk) hB rfl hP

/-- What the manager's 'update' leaves. -/
def updS (q : Cp) (sel vs : Int) (tmp : List Pk) : Int × Int × List Pk :=
  if (tmp.length : Int) ≤ sel then (-1, 0, q.offs) else if sel < -1 then ((tmp.length : Int) - 1, ((tmp.length - shown q tmp : Nat) : Int), tmp) else (sel, vs, tmp)

theorem cupd_c {base : Nat} {w : World} {c : Nat} {q : Cp} {sel vs : Int} {tmp : List Pk} (h : Cm base w c q sel vs tmp) (hq : CpOk q) (ht : tmp.length ≤ 1000) :
    Calls Tryz.prog 144 #[.pointer (some ⟨c, 0, none⟩)] w fun e w' => e = .returned (.tuple #[]) ∧ Cm base w' c q (updS q sel vs tmp).1 (updS q sel vs tmp).2.1 (updS q sel vs tmp).2.2 ∧ Fr base [] [c] w w' := by
  unfold updS
  by_cases h1 : (tmp.length : Int) ≤ sel
  · rw [if_pos h1]; exact cupd_reset h hq ht h1
  · rw [if_neg h1]
    by_cases h2 : sel < -1
    · rw [if_pos h2]; exact cupd_wrap h hq ht h2
    · rw [if_neg h2]
      have h3 : sel < (tmp.length : Int) := by omega
      have h4 : -1 ≤ sel := by omega
      exact cupd_keep h hq ht h3 h4

/-- What 'Next', 'Previous' make of a completion manager: what is selected, the first one that is shown, the suggestions. -/
def nextS (q : Cp) (sel vs : Int) (tmp : List Pk) : Int × Int × List Pk := updS q (sel + 1) (if vs + q.most - 1 = sel then vs + 1 else vs) tmp
def prevS (q : Cp) (sel vs : Int) (tmp : List Pk) : Int × Int × List Pk := updS q (sel - 1) (if vs = sel ∧ 0 < sel then vs - 1 else vs) tmp

theorem next_c {base : Nat} {w : World} {c : Nat} {q : Cp} {sel vs : Int} {tmp : List Pk} (h : Cm base w c q sel vs tmp) (hq : CpOk q) (ht : tmp.length ≤ 1000) (hs1 : -10 ≤ sel) (hs2 : sel ≤ 1000) (hv1 : -10 ≤ vs) (hv2 : vs ≤ 1000) :
    Calls Tryz.prog 119 #[.pointer (some ⟨c, 0, none⟩)] w fun e w' => e = .returned (.tuple #[]) ∧ Cm base w' c q (nextS q sel vs tmp).1 (nextS q sel vs tmp).2.1 (nextS q sel vs tmp).2.2 ∧ Fr base [] [c] w w' := by
  obtain ⟨p, kk, ⟨c0, c1, c2, c3, c4, c5, c6, f0, f1, f4, hlt⟩, hB, hP, hb⟩ := h.ren
  have hmm := hq.most
  have hw : IntKind.i64.wrap (q.most : Int) = q.most := wrap_in (by omega) (by omega)
  unfold nextS
  by_cases hv : vs + q.most - 1 = sel
  · have d1 : (vs + (q.most : Int) - 1 == sel) = true := by simpa using hv
    rw [if_pos hv]
    clear hv
    obtain ⟨h1, hF1⟩ := h.putVs (vs + 1)
    obtain ⟨h2, hF2⟩ := h1.putSel (sel + 1)
    go_enter Tryz.func119, Tryz.ntmps119
    go_wp2_with (fail)
    go_quiet (fail)
    go_wp2_with (fail)
    refine (cupd_c (h2.fr0 ((Fr.refl 0 [] [] _).drewN _)) hq ht).mono ?_
    rintro e w3 ⟨rfl, h3, hF3⟩
    go_wp2
    go_end0
    exact ⟨rfl, h3, ((hF1.trans hF2).drewN _).trans hF3⟩
  · have d1 : (vs + (q.most : Int) - 1 == sel) = false := by simpa using hv
    rw [if_neg hv]
    clear hv
    obtain ⟨h2, hF2⟩ := h.putSel (sel + 1)
    go_enter Tryz.func119, Tryz.ntmps119
    go_wp2_with (fail)
    go_quiet (fail)
    go_wp2_with (fail)
    refine (cupd_c (h2.fr0 ((Fr.refl 0 [] [] _).drewN _)) hq ht).mono ?_
    rintro e w3 ⟨rfl, h3, hF3⟩
    go_wp2
    go_end0
    exact ⟨rfl, h3, (hF2.drewN _).trans hF3⟩

theorem prev_c {base : Nat} {w : World} {c : Nat} {q : Cp} {sel vs : Int} {tmp : List Pk} (h : Cm base w c q sel vs tmp) (hq : CpOk q) (ht : tmp.length ≤ 1000) (hs1 : -10 ≤ sel) (hs2 : sel ≤ 1000) (hv1 : -10 ≤ vs) (hv2 : vs ≤ 1000) :
    Calls Tryz.prog 120 #[.pointer (some ⟨c, 0, none⟩)] w fun e w' => e = .returned (.tuple #[]) ∧ Cm base w' c q (prevS q sel vs tmp).1 (prevS q sel vs tmp).2.1 (prevS q sel vs tmp).2.2 ∧ Fr base [] [c] w w' := by
  obtain ⟨p, kk, ⟨c0, c1, c2, c3, c4, c5, c6, f0, f1, f4, hlt⟩, hB, hP, hb⟩ := h.ren
  unfold prevS
  by_cases hv : vs = sel
  · have d1 : (vs == sel) = true := by simpa using hv
    by_cases hs0 : 0 < sel
    · have d2 : decide (0 < sel) = true := by simpa using hs0
      rw [if_pos ⟨hv, hs0⟩]
      have HV := Lib.hid hv
      clear hv
      obtain ⟨h1, hF1⟩ := h.putVs (vs - 1)
      obtain ⟨h2, hF2⟩ := h1.putSel (sel - 1)
      go_enter Tryz.func120, Tryz.ntmps120
      go_wp2_with (fail)
      go_quiet (fail)
      go_wp2_with (fail)
      refine (cupd_c (h2.fr0 ((Fr.refl 0 [] [] _).drewN _)) hq ht).mono ?_
      rintro e w3 ⟨rfl, h3, hF3⟩
      go_wp2
      go_end0
      exact ⟨rfl, h3, ((hF1.trans hF2).drewN _).trans hF3⟩
    · have d2 : decide (0 < sel) = false := by simpa using hs0
      rw [if_neg (fun e => hs0 e.2)]
      have HV := Lib.hid hv
      clear hv
      obtain ⟨h2, hF2⟩ := h.putSel (sel - 1)
      go_enter Tryz.func120, Tryz.ntmps120
      go_wp2_with (fail)
      go_quiet (fail)
      go_wp2_with (fail)
      refine (cupd_c (h2.fr0 ((Fr.refl 0 [] [] _).drewN _)) hq ht).mono ?_
      rintro e w3 ⟨rfl, h3, hF3⟩
      go_wp2
      go_end0
      exact ⟨rfl, h3, (hF2.drewN _).trans hF3⟩
  · have d1 : (vs == sel) = false := by simpa using hv
    rw [if_neg (fun e => hv e.1)]
    clear hv
    obtain ⟨h2, hF2⟩ := h.putSel (sel - 1)
    go_enter Tryz.func120, Tryz.ntmps120
    go_wp2_with (fail)
    go_quiet (fail)
    go_wp2_with (fail)
    refine (cupd_c (h2.fr0 ((Fr.refl 0 [] [] _).drewN _)) hq ht).mono ?_
    rintro e w3 ⟨rfl, h3, hF3⟩
    go_wp2
    go_end0
    exact ⟨rfl, h3, (hF2.drewN _).trans hF3⟩
end Go.Proofs.YtiepopbmbgfhkaaGreat
