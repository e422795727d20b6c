/-
  Rows of suggestions; the completer; the completion manager.
-/
import Derived.Test.YtiepopbmbgfhkaaGreatB3
namespace Go.Proofs.YtiepopbmbgfhkaaGreat
open Go.RowKit
set_option maxHeartbeats 1000000
set_option maxRecDepth 20000
set_option linter.unusedVariables false
set_option linter.unusedSimpArgs false

/-- A suggestion: text and description. -/
abbrev Pk := ByteArray × ByteArray
def pks (xs : List Pk) : List Value := xs.flatMap fun x => [.string x.1, .string x.2]
theorem pks_append (xs ys : List Pk) : pks (xs ++ ys) = pks xs ++ pks ys := by simp [pks]
theorem pks_length (xs : List Pk) : (pks xs).length = xs.length * 2 := by
  induction xs with
  | nil => rfl
  | cons x xs ih => simp only [pks, List.flatMap_cons, List.length_append, List.length_cons, List.length_nil] at *; omega
theorem pks_get (xs : List Pk) (i : Nat) (hi : i < xs.length) : (pks xs)[i * 2]? = some (.string xs[i].1) ∧ (pks xs)[i * 2 + 1]? = some (.string xs[i].2) := by
  induction xs generalizing i with
  | nil => simp at hi
  | cons x xs ih =>
    cases i with
    | zero => simp [pks]
    | succ i =>
      have := ih i (by simpa using hi)
      rw [show (i + 1) * 2 = i * 2 + 2 by omega, show i * 2 + 2 + 1 = i * 2 + 1 + 2 by omega]
      simpa [pks] using this

/-- A slice of suggestions that the call owns. -/
def PRow (base : Nat) (w : World) (v : Value) (xs : List Pk) : Prop := w.ownsRow base 73 2 v xs.length (pks xs)

section
variable {base : Nat} {w w1 : World} {v : Value} {xs : List Pk}
theorem PRow.nil (base : Nat) (w : World) : PRow base w (.slice none 0 0) [] := ⟨rfl, .inl ⟨rfl, rfl⟩⟩
theorem PRow.form (h : PRow base w v xs) : ∃ p c, v = .slice p xs.length c := by
  obtain ⟨h1, ⟨rfl, h2⟩ | ⟨g, cap, cur, rfl, hb, hg, hn, hcap, hsz, ht⟩⟩ := h
  · exact ⟨none, 0, by rw [h2]⟩
  · exact ⟨_, _, rfl⟩
theorem PRow.form' (h : PRow base w v xs) : ∃ p n c, v = .slice p n c := by
  obtain ⟨p, c, e⟩ := h.form
  exact ⟨p, _, c, e⟩
theorem PRow.get (h : PRow base w v xs) (i : Nat) (hi : i < xs.length) : ∃ g c, v = .slice (some ⟨g, 0, none⟩) xs.length c ∧ w.cell? ⟨g, i * 2, none⟩ = some (.string xs[i].1) ∧ w.cell? ⟨g, i * 2 + 1, none⟩ = some (.string xs[i].2) ∧ base ≤ g ∧ g < w.heap.size := by
  obtain ⟨h1, ⟨rfl, h2⟩ | ⟨g, cap, cur, rfl, hb, hg, hn, hcap, hsz, ht⟩⟩ := h
  · omega
  · have hB : Blk w g cur 73 := hg
    obtain ⟨e1, e2⟩ := pks_get xs i hi
    rw [← ht, List.getElem?_take, if_pos (by omega)] at e1 e2
    refine ⟨g, cap, rfl, ?_, ?_, hb, hB.lt⟩
    · rw [hB.cell]; simpa using e1
    · rw [hB.cell]; simpa using e2
theorem PRow.fr {base' : Nat} {ts bs : List Nat} (h : PRow base w v xs) (hF : Fr base' ts bs w w1) (h1 : 73 ∉ ts) (h2 : ∀ b ∈ bs, ∃ cs t, Blk w b cs t ∧ t ≠ 73) : PRow base w1 v xs :=
  hF.row h fun g hg => .inr ⟨fun hm => by
    obtain ⟨cs, t, e1, e2⟩ := h2 g hm
    obtain ⟨-, cs', e3⟩ := row_blk h g hg
    exact e2 (e1.inj e3).2, h1⟩
theorem PRow.fr0 {base' : Nat} (h : PRow base w v xs) (hF : Fr base' [] [] w w1) : PRow base w1 v xs := h.fr hF (by simp) (by simp)
theorem PRow.low {base' : Nat} {ts bs : List Nat} (h : PRow base w v xs) (hF : Fr base' ts bs w w1) (hl : ∀ g, v.ownBlock = some g → g < base') : PRow base w1 v xs :=
  hF.row h fun g hg => .inl (hl g hg)
theorem PRow.lower {base' : Nat} (h : PRow base w v xs) (hb : base' ≤ base) : PRow base' w v xs := by
  obtain ⟨h1, h2 | ⟨g, cap, cur, e, hb', r⟩⟩ := h
  · exact ⟨h1, .inl h2⟩
  · exact ⟨h1, .inr ⟨g, cap, cur, e, by omega, r⟩⟩
end

theorem info73 : ∃ i, Tryz.prog.info? 73 = some i ∧ i.zero = some (.agg #[.string .empty, .string .empty]) ∧ i.size = 2 ∧ i.bytes = 32 := info_of (by kernel_rfl)

section
variable {o : Oper} {a : Act} {w : World} {K : Act → World → Prop} {Q : Exit → Act → World → Prop}
/-- 'append(l, x)' at suggestions. -/
theorem wp_appp {base : Nat} {v : Value} {xs : List Pk} {y : Pk} {b : Nat} (s x : Operand) (ho : o.op = .call { callee := .builtin .append, args := #[s, x], argTypes := #[72, 72] })
    (hs : a.eval s = v) (hx : a.eval x = .slice (some ⟨b, 0, none⟩) 1 1) (hr : PRow base w v xs) (hd : Blk w b #[.string y.1, .string y.2] 73) (hlen : xs.length ≤ 1000000) (hb : base ≤ w.heap.size)
    (h : ∀ p n c w', PRow base w' (.slice p n c) (xs ++ [y]) → Fr base [73] [] w w' → K (a.put o.dst (.slice p n c)) w') : o.wp Tryz.prog a w K Q := by
  obtain ⟨i, h1, h2, h3, h4⟩ := info73
  obtain ⟨v', w', hrun, hown', hgr, hnil, hat⟩ := run_append_own_at (P := Tryz.prog) w base 72 o.type 73 i (.agg #[.string .empty, .string .empty]) 2 32 (by kernel_rfl) h1 h2 h3 h4 rfl (by decide) v xs.length _ hr
    ⟨b, 0, none⟩ 1 1 (pks [y]) (by simp [pks]) (fun j u hj => by
      rw [add_at, hd.cell]
      simp only [pks, List.flatMap_cons, List.flatMap_nil, List.append_nil] at hj
      rw [← hj]
      rcases j with _ | _ | j <;> rfl)
    (fun u hu => by simp only [pks, List.flatMap_cons, List.flatMap_nil, List.append_nil, List.mem_cons, List.not_mem_nil, or_false] at hu; rcases hu with rfl | rfl <;> rfl) (by simp only [maxLen]; omega) (by omega) (by omega)
  have hP : PRow base w' v' (xs ++ [y]) := by
    unfold PRow; rw [pks_append, List.length_append]; exact hown'
  obtain ⟨p, c, rfl⟩ := hP.form
  unfold Oper.wp execOp
  simp only [ho, resolve, invoke, builtin, Sem.run_bind, Sem.run_pure, Result.andThen_ok, List.map_toArray, List.map_cons, List.map_nil, hs, hx, hrun]
  exact h p _ c w' hP ((Fr.refl base [73] [] w).grown hgr fun k hk => by
    obtain ⟨e1, cs, e2⟩ := row_blk hr k hk
    exact ⟨e1, .inr (.inr ⟨cs, 73, e2, by simp⟩)⟩)
end

/-- What the completer offers: the suggestions whose texts begin with a word. -/
def fit (word : ByteArray) (xs : List Pk) : List Pk := xs.filter fun x => isPre word x.1

/-- What the completer reads: the separators, and the suggestions. -/
def Cpl (base : Nat) (w : World) (sb oc : Nat) (sep : ByteArray) (offs : List Pk) : Prop :=
  (∃ cs, Blk w sb cs 25 ∧ cs[6]? = some (.string sep)) ∧ ∃ v, Blk w oc #[v] 72 ∧ PRow base w v offs

theorem complete_c {base : Nat} {w : World} {sb oc k : Nat} {sep t : ByteArray} {offs : List Pk} (h : Cpl base w sb oc sep offs) (ha : Asc t) (hsep : Asc sep) (hs : t.size ≤ 1000000) (hk : k ≤ t.size) (ho : offs.length ≤ 1000) (hos : ∀ x ∈ offs, x.1.size ≤ 1000000) :
    Calls Tryz.prog 38 #[.agg #[.string t, .int .i64 k], .pointer (some ⟨sb, 0, none⟩), .pointer (some ⟨oc, 0, none⟩)] w fun e w' => (∃ v, e = .returned v ∧ PRow w.heap.size w' v (fit (t.extract (wordAt sep t k) k) offs)) ∧ Fr 0 [] [] w w' := by
  obtain ⟨⟨scs, hSB, h6⟩, v, hB, hP⟩ := h
  have c6 := hSB.cell 6
  rw [h6] at c6
  obtain ⟨o0, -⟩ := hB.c1
  obtain ⟨M, hM⟩ : ∃ M, w.heap.size = M := ⟨_, rfl⟩
  have hsl : sb < w.heap.size := World.block_lt_of_cell? w _ c6
  have hol := hB.lt
  rw [hM] at hsl hol
  obtain ⟨p, c, rfl⟩ := hP.form
  have hlow : ∀ g, (Value.slice p offs.length c).ownBlock = some g → g < M := fun g hg => by
    obtain ⟨-, cs, e⟩ := row_blk hP g hg
    have := e.lt
    omega
  go_enter Tryz.func38, Tryz.ntmps38
  go_wp2_with (fail)
  have hd := Blk.new' (w := w) hM.symm #[.string t, .int .i64 k] 75
  refine (getWord_c hd ha hsep hs hk).mono ?_
  rintro e w1 ⟨rfl, hF1⟩
  have hFa : Fr M [73] [] w w1 := ((Fr.refl M [73] [] w).alloc _).ext hF1
  have hB1 := hF1.blk0 (hB.alloc (.cells #[.string t, .int .i64 k] 75))
  have hP1 := (hP.fr0 ((Fr.refl 0 [] [] w).alloc (.cells #[.string t, .int .i64 k] 75))).fr0 hF1
  obtain ⟨b0, -⟩ := hB1.c1
  have bl := hB1.lt
  go_wp2_with (fail)
  obtain ⟨word, hw⟩ : ∃ word, t.extract (wordAt sep t k) k = word := ⟨_, rfl⟩
  have hws : word.size ≤ 1000000 := by rw [← hw]; simp; omega
  rw [hw]
  go_loopw [5, 14] (fun v5 v14 w' => ∃ i : Nat, i ≤ offs.length ∧ v14 = .int .i64 i ∧ PRow M w' v5 (fit word (offs.take i)) ∧ Fr M [73] [] w w' ∧ PRow base w' (.slice p offs.length c) offs ∧ M ≤ w'.heap.size) (fun _ v14 _ => offs.length - (intOf v14).toNat)
  case atStart => exact ⟨0, by omega, rfl, PRow.nil _ _, hFa, hP1, by have := hFa.size; omega⟩
  case round =>
    obtain ⟨i, hi, rfl, hV, hF, hO, hMs⟩ := hrel
    have hB2 := hF.blk hB (.inr ⟨by simp, by simp⟩)
    obtain ⟨b0, -⟩ := hB2.c1
    have bl := hB2.lt
    obtain ⟨p5, n5, c5, rfl⟩ := hV.form'
    by_cases hlt : i < offs.length
    · obtain ⟨g, cg, eg, e1, e2, hbg, hgl⟩ := hO.get i hlt
      simp only [Value.slice.injEq] at eg
      obtain ⟨rfl, -, rfl⟩ := eg
      have hos1 := hos offs[i] (List.getElem_mem hlt)
      have d1 : decide ((i : Int) < offs.length) = true := by simpa using hlt
      have d2 : (i : Int) < offs.length := by omega
      go_wp2_with (fail)
      refine (hasPrefix_c offs[i].1 word (by omega) (by omega) _).mono ?_
      have htk : offs.take (i + 1) = offs.take i ++ [offs[i]] := by rw [List.take_succ_eq_append_getElem hlt]
      cases hb : isPre word offs[i].1 with
      | true =>
        have hft : fit word (offs.take (i + 1)) = fit word (offs.take i) ++ [offs[i]] := by
          unfold fit; rw [htk, List.filter_append]; simp [hb]
        have HFT := Lib.hid hft
        clear hft htk hb
        rintro e w2 ⟨rfl, rfl⟩
        have hl5 : (fit word (offs.take i)).length ≤ 1000000 := by
          have := List.length_filter_le (fun x : Pk => isPre word x.1) (offs.take i)
          unfold fit; rw [List.length_take] at this; omega
        go_wp2_with (first | (refine wpList_plain rfl (fun K hK => ?_); refine wp_appp (y := offs[i]) _ _ rfl rfl rfl ((hV.fr0 ((Fr.refl 0 [] [] _).alloc _)).fr0 ((Fr.refl 0 [] [] _).alloc _)) (Blk.new' (by simp) _ _) hl5 (by simp; omega) ?_; intro q5 m5 k5 w4 hV4 hF4; refine hK _ _ ?_; clear hK K))
        have hFb : Fr M [73] [] wr w4 := (((Fr.refl _ _ _ _).alloc _).alloc _).into hF4 (by simp) (by simp)
        go_roundw
        case rel =>
          refine ⟨i + 1, by omega, by simp, ?_, hF.into hFb (by simp) (by simp), hO.low hFb hlow, by have := hFb.size; omega⟩
          rw [HFT.out]; exact hV4
        case measure => simp [intOf]; omega
      | false =>
        have hft : fit word (offs.take (i + 1)) = fit word (offs.take i) := by
          unfold fit; rw [htk, List.filter_append]; simp [hb]
        have HFT := Lib.hid hft
        clear hft htk hb
        rintro e w2 ⟨rfl, rfl⟩
        go_wp2
        go_roundw
        case rel =>
          refine ⟨i + 1, by omega, by simp, ?_, hF.alloc _, hO.fr0 ((Fr.refl 0 [] [] _).alloc _), by simp; omega⟩
          rw [HFT.out]; exact hV.fr0 ((Fr.refl 0 [] [] _).alloc _)
        case measure => simp [intOf]; omega
    · have d1 : decide ((i : Int) < offs.length) = false := by simpa using hlt
      have e : i = offs.length := by omega
      have hl : offs.take i = offs := by rw [e]; simp
      rw [hl] at hV
      have E := Lib.hid e
      clear e hl
      go_wp2_with (fail)
      go_ret
      rw [hM]
      exact ⟨⟨_, rfl, by rw [hw]; exact hV⟩, Fr.fresh (by rw [hM]; exact hF)⟩
end Go.Proofs.YtiepopbmbgfhkaaGreat
