/-
  formatSuggestions: suggestions as they are shown.
  The scroll bar's numbers: floats; clamp; the closure that tells its rows.
-/
import Derived.Test.YtiepopbmbgfhkaaGreatQ30
import Derived.Laws.FloatArith
namespace Go.Proofs.YtiepopbmbgfhkaaGreat
open Go.RowKit
open List renaming setIfInBounds_toArray → zq1, set_cons_zero → zq2, set_cons_succ → zq3
open Int renaming toNat_natCast → zq4, toNat_sub → zq5, toNat_zero → zq6
set_option maxHeartbeats 4000000
set_option maxRecDepth 20000
set_option linter.unusedVariables false
set_option linter.unusedSimpArgs false

/-- Suggestions in a block of their own. -/
def PB (w : World) (g : Nat) (xs : List Pk) : Prop := Blk w g (pks xs).toArray 73
theorem PB.lt {w : World} {g : Nat} {xs : List Pk} (h : PB w g xs) : g < w.heap.size := Blk.lt h
theorem PB.get {w : World} {g : Nat} {xs : List Pk} (h : PB w g xs) (i : Nat) (hi : i < xs.length) : w.cell? ⟨g, i * 2, none⟩ = some (.string xs[i].1) ∧ w.cell? ⟨g, i * 2 + 1, none⟩ = some (.string xs[i].2) ∧ w.frozen? ⟨g, i * 2, none⟩ = false ∧ w.frozen? ⟨g, i * 2 + 1, none⟩ = false := by
  obtain ⟨e1, e2⟩ := pks_get xs i hi
  refine ⟨?_, ?_, Blk.frozen h _, Blk.frozen h _⟩
  · rw [Blk.cell h]; simpa using e1
  · rw [Blk.cell h]; simpa using e2
theorem pks_set (xs : List Pk) (i : Nat) (y : Pk) : ((pks xs).set (i * 2) (.string y.1)).set (i * 2 + 1) (.string y.2) = if i < xs.length then pks (xs.set i y) else pks xs := by
  induction xs generalizing i with
  | nil => simp [pks]
  | cons x xs ih =>
    cases i with
    | zero => simp [pks]
    | succ i =>
      have e1 : (i + 1) * 2 = i * 2 + 1 + 1 := by omega
      have e2 : pks (x :: xs) = .string x.1 :: .string x.2 :: pks xs := rfl
      rw [e1, e2, List.set_cons_succ, List.set_cons_succ, List.set_cons_succ, List.set_cons_succ, ih i]
      by_cases h : i < xs.length
      · rw [if_pos h, if_pos (by simpa using h), List.set_cons_succ]; rfl
      · rw [if_neg h, if_neg (by simpa using h)]
theorem PB.set {w : World} {g : Nat} {xs : List Pk} (h : PB w g xs) (i : Nat) (hi : i < xs.length) (y : Pk) : PB ((w.setCell ⟨g, i * 2, none⟩ (.string y.1)).setCell ⟨g, i * 2 + 1, none⟩ (.string y.2)) g (xs.set i y) := by
  have h2 := (Blk.set h (i * 2) (.string y.1)).set (i * 2 + 1) (.string y.2)
  simp only [List.setIfInBounds_toArray] at h2
  rw [pks_set, if_pos hi] at h2
  exact h2
theorem PB.fr {w w1 : World} {g : Nat} {xs : List Pk} {base : Nat} {ts bs : List Nat} (h : PB w g xs) (hF : Fr base ts bs w w1) (hb : g < base ∨ (g ∉ bs ∧ 73 ∉ ts)) : PB w1 g xs := hF.blk h hb
theorem PB.fr0 {w w1 : World} {g : Nat} {xs : List Pk} {base : Nat} (h : PB w g xs) (hF : Fr base [] [] w w1) : PB w1 g xs := hF.blk0 h

theorem made_pks (n : Nat) : madeCells (Value.agg #[.string .empty, .string .empty]).cells (n * 2) = (pks (List.replicate n (.empty, .empty))).toArray := by
  have e1 : ∀ n, pks (List.replicate n (ByteArray.empty, ByteArray.empty)) = List.replicate (n * 2) (Value.string .empty) := by
    intro n
    induction n with
    | zero => rfl
    | succ n ih =>
      rw [List.replicate_succ, show (n + 1) * 2 = n * 2 + 1 + 1 by omega, List.replicate_succ, List.replicate_succ, ← ih]
      rfl
  rw [e1]
  apply Array.ext
  · simp [size_madeCells]
  · intro i h1 h2
    have hz : (Value.agg #[.string .empty, .string .empty]).cells = #[Value.string .empty, Value.string .empty] := rfl
    have : i % 2 = 0 ∨ i % 2 = 1 := by omega
    have h3 : ∀ (z : Array Value) (h : i < (madeCells z (n * 2)).size), z = #[Value.string .empty, Value.string .empty] → (madeCells z (n * 2))[i] = Value.string .empty := by
      intro z h e
      subst e
      unfold madeCells
      rcases this with e | e <;> simp [e]
    rw [h3 _ h1 hz]
    simp

/-- 'make([]Suggest, n)' -/
theorem wp_makep {o : Oper} {a : Act} {w : World} {K : Act → World → Prop} {Q : Exit → Act → World → Prop} (n : Nat) (l c : Operand) (ho : o.op = Op.makeSlice 72 l c) (hl : a.eval l = .int .i64 n) (hc : a.eval c = .int .i64 n) (hn : n ≤ 1000000)
    (h : ∀ w', PB w' w.heap.size (List.replicate n (.empty, .empty)) → Fr 0 [] [] w w' → w.heap.size < w'.heap.size → K (a.put o.dst (.slice (some ⟨w.heap.size, 0, none⟩) n n)) w') : o.wp Tryz.prog a w K Q := by
  obtain ⟨i, h1, h2, h3, h4⟩ := info73
  obtain ⟨w', hrun, r1, r2⟩ := run_make_full (P := Tryz.prog) w 0 72 73 i (.agg #[.string .empty, .string .empty]) 2 (by kernel_rfl) h1 h2 h3 .i64 .i64 n (by rw [h4]; omega) (by simp only [maxLen]; omega) (by omega)
  unfold Oper.wp
  simp [execOp, ho, hl, hc, hrun, Result.andThen]
  have hP : PB w' w.heap.size (List.replicate n (.empty, .empty)) := by
    obtain ⟨q1, ⟨q2, -⟩ | ⟨g, cap, cur, q2, q3, q4, q5, q6, q7, q8⟩⟩ := r1
    · cases q2
    · simp only [Value.slice.injEq, Option.some.injEq, Addr.mk.injEq, and_true, true_and] at q2
      obtain ⟨rfl, rfl⟩ := q2
      have e : cur.toList = (madeCells (Value.agg #[.string .empty, .string .empty]).cells (n * 2)).toList := by
        rw [← q8, List.take_of_length_le]
        simp [q7]
      have e2 : cur = (madeCells (Value.agg #[.string .empty, .string .empty]).cells (n * 2)) := Array.toList_inj.1 e
      have e3 : madeCells (Value.agg #[.string .empty, .string .empty]).cells (n * 2) = (pks (List.replicate n (.empty, .empty))).toArray := made_pks n
      unfold PB
      rw [← e3, ← e2]
      exact q4
  exact h w' hP ((Fr.refl _ _ _ _).grown r2 (by simp)) hP.lt

/-- The cells of suggestions that are read. -/
def PIn (w : World) (g : Nat) (xs : List Pk) : Prop := ∀ i (hi : i < xs.length), w.cell? ⟨g, i * 2, none⟩ = some (.string xs[i].1) ∧ w.cell? ⟨g, i * 2 + 1, none⟩ = some (.string xs[i].2)
theorem PRow.pin {base : Nat} {w : World} {v : Value} {xs : List Pk} (h : PRow base w v xs) (hne : xs ≠ []) : ∃ g c, v = .slice (some ⟨g, 0, none⟩) xs.length c ∧ PIn w g xs ∧ g < w.heap.size := by
  have h0 : 0 < xs.length := by cases xs; exact absurd rfl hne; simp
  obtain ⟨g, c, rfl, -, -, -, hlt⟩ := h.get 0 h0
  refine ⟨g, c, rfl, fun i hi => ?_, hlt⟩
  obtain ⟨g', c', e, e1, e2, -⟩ := h.get i hi
  simp only [Value.slice.injEq, Option.some.injEq, Addr.mk.injEq] at e
  obtain ⟨⟨rfl, -⟩, -⟩ := e
  exact ⟨e1, e2⟩
theorem PIn.fr0 {w w1 : World} {g : Nat} {xs : List Pk} {base : Nat} (h : PIn w g xs) (hF : Fr base [] [] w w1) : PIn w1 g xs := fun i hi => ⟨hF.cell0 (h i hi).1, hF.cell0 (h i hi).2⟩

/-- What is asked of suggestions that are shown. -/
def Shw (fs : List Pk) (n : Nat) : Prop := fs.length = n ∧ ∀ x ∈ fs, Prn x.1 ∧ x.1.size ≤ 200 ∧ Prn x.2 ∧ x.2.size ≤ 200

/-- What formatSuggestions leaves. -/
def FsPost (n : Nat) (max : Int) (w : World) (e : Ending) (w' : World) : Prop :=
  ∃ (g W : Nat) (fs : List Pk), e = .returned (.tuple #[.slice (some ⟨g, 0, none⟩) n n, .int .i64 W]) ∧ PB w' g fs ∧ Shw fs n ∧ w.heap.size ≤ g ∧ (W : Int) ≤ max ∧ Fr 0 [] [] w w'

theorem formatSuggestions_c {base : Nat} {w : World} {v : Value} {xs : List Pk} (max : Int) (h : PRow base w v xs) (hx : ∀ x ∈ xs, Prn x.1 ∧ x.1.size ≤ 100 ∧ Prn x.2 ∧ x.2.size ≤ 100) (hx0 : ∀ x ∈ xs, x.1.size ≠ 0) (hne : xs ≠ []) (hl : xs.length ≤ 1000) (hm : max ≤ 120) (hm0 : 6 ≤ max) :
    Calls Tryz.prog 114 #[v, .int .i64 max] w (FsPost xs.length max w) := by
  obtain ⟨vg, vc, rfl, hP, hvl⟩ := h.pin hne
  obtain ⟨n, hn⟩ : ∃ n, xs.length = n := ⟨_, rfl⟩
  have hn0 : 0 < n := by rw [← hn]; cases xs; exact absurd rfl hne; simp
  rw [hn] at hl ⊢
  have hn2 : (xs.map Prod.fst).length = n := by simpa using hn
  have hn3 : (xs.map Prod.snd).length = n := by simpa using hn
  have HN := Lib.hid hn
  obtain ⟨N0, hN0⟩ : ∃ N, w.heap.size = N := ⟨_, rfl⟩
  go_enter Tryz.func114, Tryz.ntmps114
  go_wp2_with (first | (refine wpList_plain rfl (fun K hK => ?_); refine wp_makep n _ _ rfl rfl rfl (by omega) ?_; intro w1 hB1 hF1 hlt1; refine hK _ _ ?_; clear hK K) | (refine wpList_plain rfl (fun K hK => ?_); refine wp_makes n _ _ rfl rfl rfl (by omega) ?_; intro w2 hS2 hF2 hlt2; refine hK _ _ ?_; clear hK K))
  rw [hN0] at hB1
  obtain ⟨N1, hN1⟩ : ∃ N, w1.heap.size = N := ⟨_, rfl⟩
  rw [hN1] at hS2
  have hN01 : N0 < N1 := by omega
  have hF02 := hF1.trans hF2
  have hB2 := hB1.fr0 hF2
  have hsz2 := hF02.size
  clear hF1 hF2 hB1 hlt1 hlt2
  have hS2' : SRow w2 N1 (.slice (some ⟨N1, 0, none⟩) n n) (filled (xs.map Prod.fst) 0) := by unfold filled; rw [hn2]; simpa using hS2
  clear hS2
  go_loopw [8] (fun v8 w' => ∃ i : Nat, i ≤ n ∧ v8 = .int .i64 i ∧ SRow w' N1 (.slice (some ⟨N1, 0, none⟩) n n) (filled (xs.map Prod.fst) i) ∧ PB w' N0 (List.replicate n (.empty, .empty)) ∧ Fr 0 [] [] w w') (fun v8 _ => n - (intOf v8).toNat)
  case atStart => exact ⟨0, by omega, rfl, hS2', hB2, hF02⟩
  clear hS2' hB2 hF02
  obtain ⟨i, hi, rfl, hS, hB, hF⟩ := hrel
  by_cases hlt : i < n
  · have d1 : decide ((i : Int) < n) = true := by simpa using hlt
    have d2 : (i : Int) < n := by omega
    have hxi : i < xs.length := by rw [HN.out]; exact hlt
    obtain ⟨e1, -⟩ := hP.fr0 hF i hxi
    obtain ⟨t, ht⟩ : ∃ t, xs[i].1 = t := ⟨_, rfl⟩
    rw [ht] at e1
    have hset := filled_set (xs.map Prod.fst) i (by rw [hn2]; exact hlt)
    rw [List.getElem_map, ht] at hset
    have HSET := Lib.hid hset
    clear hset ht
    obtain ⟨e2, e3⟩ := hS.get i (by simp [filled, hn2]; omega)
    have slt := hS.lt
    go_wp2_with (fail)
    go_roundw
    case rel =>
      have hfs : Fr 0 [] [N1] wr (wr.setCell ⟨N1, i, none⟩ (.string t)) := (Fr.refl _ _ _ _).setCell (Nat.zero_le _) (.inl (by simp)) _
      have h9 := hS.set i t
      rw [HSET.out] at h9
      exact ⟨i + 1, by omega, by simp, h9, hB.fr hfs (.inr ⟨by simp; omega, by simp⟩), hF.setCell (a := ⟨N1, i, none⟩) (Nat.zero_le _) (.inr (.inl (by show w.heap.size ≤ N1; omega))) _⟩
    case measure => simp [intOf]; omega
  · have d1 : decide ((i : Int) < n) = false := by simpa using hlt
    have d2 : ¬ (i : Int) < n := by omega
    have ei : filled (xs.map Prod.fst) i = xs.map Prod.fst := by unfold filled; rw [hn2, List.take_of_length_le (by omega), show n - i = 0 by omega]; simp
    rw [ei] at hS
    clear ei
    go_wp2_with (first | (refine wpList_plain rfl (fun K hK => ?_); refine wp_makes n _ _ rfl rfl rfl (by omega) ?_; intro w3 hS3 hF3 hlt3; refine hK _ _ ?_; clear hK K))
    obtain ⟨N2, hN2⟩ : ∃ N, wr.heap.size = N := ⟨_, rfl⟩
    rw [hN2] at hS3
    have hN12 : N1 < N2 := by have := hS.lt; omega
    have hF03 := hF.trans hF3
    have hB3 := hB.fr0 hF3
    have hL3 := hS.fr0 hF3
    clear hF hF3 hB hS hlt3
    have hS3' : SRow w3 N2 (.slice (some ⟨N2, 0, none⟩) n n) (filled (xs.map Prod.snd) 0) := by unfold filled; rw [hn3]; simpa using hS3
    clear hS3
    go_loopw [10] (fun v10 w' => ∃ i : Nat, i ≤ n ∧ v10 = .int .i64 i ∧ SRow w' N2 (.slice (some ⟨N2, 0, none⟩) n n) (filled (xs.map Prod.snd) i) ∧ SRow w' N1 (.slice (some ⟨N1, 0, none⟩) n n) (xs.map Prod.fst) ∧ PB w' N0 (List.replicate n (.empty, .empty)) ∧ Fr 0 [] [] w w') (fun v10 _ => n - (intOf v10).toNat)
    case atStart => exact ⟨0, by omega, rfl, hS3', hL3, hB3, hF03⟩
    clear hS3' hL3 hB3 hF03 hlt d1 d2 hi
    obtain ⟨i, hi, rfl, hS, hL, hB, hF⟩ := hrel
    by_cases hlt : i < n
    · have d1 : decide ((i : Int) < n) = true := by simpa using hlt
      have d2 : (i : Int) < n := by omega
      have hxi : i < xs.length := by rw [HN.out]; exact hlt
      obtain ⟨-, e1⟩ := hP.fr0 hF i hxi
      obtain ⟨t, ht⟩ : ∃ t, xs[i].2 = t := ⟨_, rfl⟩
      rw [ht] at e1
      have hset := filled_set (xs.map Prod.snd) i (by rw [hn3]; exact hlt)
      rw [List.getElem_map, ht] at hset
      have HSET := Lib.hid hset
      clear hset ht
      obtain ⟨e2, e3⟩ := hS.get i (by simp [filled, hn3]; omega)
      have slt := hS.lt
      go_wp2_with (fail)
      go_roundw
      case rel =>
        have hfs : Fr 0 [] [N2] wr (wr.setCell ⟨N2, i, none⟩ (.string t)) := (Fr.refl _ _ _ _).setCell (Nat.zero_le _) (.inl (by simp)) _
        have h9 := hS.set i t
        rw [HSET.out] at h9
        exact ⟨i + 1, by omega, by simp, h9, hL.fr hfs (.inr ⟨by simp; omega, by simp⟩), hB.fr hfs (.inr ⟨by simp; omega, by simp⟩), hF.setCell (a := ⟨N2, i, none⟩) (Nat.zero_le _) (.inr (.inl (by show w.heap.size ≤ N2; omega))) _⟩
      case measure => simp [intOf]; omega
    · have d1 : decide ((i : Int) < n) = false := by simpa using hlt
      have d2 : ¬ (i : Int) < n := by omega
      have ei : filled (xs.map Prod.snd) i = xs.map Prod.snd := by unfold filled; rw [hn3, List.take_of_length_le (by omega), show n - i = 0 by omega]; simp
      rw [ei] at hS
      have hft := formatTexts_n hn2 max hL (fun x h9 => by obtain ⟨y, hy, rfl⟩ := List.mem_map.1 h9; exact ⟨(hx y hy).1, (hx y hy).2.1⟩) hl hm (by omega)
      clear ei
      obtain ⟨M4, hM4⟩ : ∃ M, wr.heap.size = M := ⟨_, rfl⟩
      have hl1 := hL.lt
      have hl2 := hS.lt
      have hl0 := hB.lt
      go_wp2_with (fail)
      refine hft.mono ?_
      clear hft
      rintro e w5 ⟨g1, c1, ys1, W1, rfl, hL5, hC1, hg1, hW1, hW1b, hW1c, hF5⟩
      have hR5 := hS.fr hF5 (.inr ⟨by simp; omega, by simp⟩)
      have hB5 := hB.fr hF5 (.inr ⟨by simp; omega, by simp⟩)
      have hF05 : Fr 0 [] [] w w5 := hF.step hF5 (by simp) (fun y hy => .inr (.inl (by simp at hy; omega)))
      have hsz5 := hF5.size
      have hW0 : W1 ≠ 0 := hW1c (by omega) ⟨0, by rw [hn2]; exact hn0, by rw [List.getElem_map]; exact hx0 _ (List.getElem_mem _)⟩
      clear hF hF5 hL hS hB hW1c hi d1 hlt d2
      have d1 : ((W1 : Int) == 0) = false := (int_ne (by omega)).1
      have hft := formatTexts_n hn3 (max - W1) hR5 (fun x h9 => by obtain ⟨y, hy, rfl⟩ := List.mem_map.1 h9; exact ⟨(hx y hy).2.2.1, (hx y hy).2.2.2⟩) hl (by omega) (by omega)
      obtain ⟨M5, hM5⟩ : ∃ M, w5.heap.size = M := ⟨_, rfl⟩
      have hl3 := hL5.lt
      go_wp2_with (fail)
      refine hft.mono ?_
      clear hft
      rintro e w6 ⟨g2, c2, ys2, W2, rfl, hR6, hC2, hg2, hW2, hW2b, -, hF6⟩
      have hL6 := hL5.fr hF6 (.inr ⟨by simp; omega, by simp⟩)
      have hB6 := hB5.fr hF6 (.inr ⟨by simp; omega, by simp⟩)
      have hF06 : Fr 0 [] [] w w6 := hF05.step hF6 (by simp) (fun y hy => .inr (.inl (by simp at hy; omega)))
      clear hF05 hF6 hL5 hR5 hB5
      have hcap1 : n ≤ c1 := by obtain ⟨c9, e9, h9⟩ := hL6.form; simp only [Value.slice.injEq] at e9; omega
      have hshw : Shw (List.replicate n ((.empty, .empty) : Pk)) n := ⟨by simp, fun x h9 => by
        obtain ⟨-, rfl⟩ := List.mem_replicate.1 h9
        have he : Prn .empty := fun i h => absurd h (by simp)
        exact ⟨he, by show (0 : Nat) ≤ 200; omega, he, by show (0 : Nat) ≤ 200; omega⟩⟩
      have hg01 : N0 ≠ g1 := by omega
      have hg02 : N0 ≠ g2 := by omega
      go_wp2_with (fail)
      go_loopw [13] (fun v13 w' => ∃ (i : Nat) (fs : List Pk), i ≤ n ∧ v13 = .int .i64 i ∧ Shw fs n ∧ PB w' N0 fs ∧ SRow w' g1 (.slice (some ⟨g1, 0, none⟩) n c1) ys1 ∧ SRow w' g2 (.slice (some ⟨g2, 0, none⟩) n c2) ys2 ∧ Fr 0 [] [] w w') (fun v13 _ => n - (intOf v13).toNat)
      case atStart => exact ⟨0, _, by omega, rfl, hshw, hB6, hL6, hR6, hF06⟩
      clear hB6 hL6 hR6 hF06 hshw
      obtain ⟨i, fs, hi, rfl, hsh, hB, hL, hR, hF⟩ := hrel
      by_cases hlt : i < n
      · have d1 : decide ((i : Int) < n) = true := by simpa using hlt
        have d2 : (i : Int) < n := by omega
        obtain ⟨e1, -⟩ := hL.get i (by rw [hC1.1]; exact hlt)
        obtain ⟨e2, -⟩ := hR.get i (by rw [hC2.1]; exact hlt)
        have q1 := hC1.2 _ (List.getElem_mem (show i < ys1.length by rw [hC1.1]; exact hlt))
        have q2 := hC2.2 _ (List.getElem_mem (show i < ys2.length by rw [hC2.1]; exact hlt))
        obtain ⟨t1, ht1⟩ : ∃ t, ys1[i]'(by rw [hC1.1]; exact hlt) = t := ⟨_, rfl⟩
        obtain ⟨t2, ht2⟩ : ∃ t, ys2[i]'(by rw [hC2.1]; exact hlt) = t := ⟨_, rfl⟩
        rw [ht1] at e1 q1
        rw [ht2] at e2 q2
        clear ht1 ht2
        have Q := Lib.hid (And.intro q1 q2)
        clear q1 q2
        obtain ⟨e3, e4, e5, e6⟩ := hB.get i (by rw [hsh.1]; exact hlt)
        have blt := hB.lt
        go_wp2_with (fail)
        have hS : (fun w' : World => w'.cell? ⟨g1, i, none⟩ = some (.string t1) ∧ w'.cell? ⟨g2, i, none⟩ = some (.string t2)) wr.drew := ⟨e1, e2⟩
        refine wp_region_plan [5, 9] [12] (fun w' : World => w'.cell? ⟨g1, i, none⟩ = some (.string t1) ∧ w'.cell? ⟨g2, i, none⟩ = some (.string t2)) (.pure 0 (.pure 1 (.pure 2 (.pure 3 (.pure 4 (.take 5 (.pure 6 (.pure 7 (.pure 8 (.take 9 (.pure 10 (.pure 11 (.go 12 .done))))))))))))) hmix (by kernel_rfl) ?_
        repeat (first | (refine plan_move rfl rfl rfl ?_; (try simp only [Act.put, zq1, zq2, zq3, zq4, zq5, zq6])) | (refine plan_pure (v := ?_) rfl rfl ?_ ?_; rotate_left; (intro w'; go_simp <;> with_reducible rfl); (try simp only [Act.put, zq1, zq2, zq3, zq4, zq5, zq6])) | (refine plan_take (v := ?_) rfl hS rfl ?_ ?_; rotate_left; (intro w' hSw; (try dsimp only at hSw); go_simp <;> with_reducible rfl); (try simp only [Act.put, zq1, zq2, zq3, zq4, zq5, zq6])))
        refine plan_go rfl (by kernel_rfl) rfl (fun K hK => ?_)
        go_simp; refine hK _ _ ?_; clear hK K; (try simp only [Act.put, zq1, zq2, zq3, zq4, zq5, zq6])
        refine plan_done ?_
        go_wp2
        go_roundw
        case rel =>
          have hfs : Fr 0 [] [N0] wr ((wr.setCell ⟨N0, i * 2, none⟩ (.string t1)).setCell ⟨N0, i * 2 + 1, none⟩ (.string t2)) := ((Fr.refl _ _ _ _).setCell (a := ⟨N0, i * 2, none⟩) (Nat.zero_le _) (.inl (by simp)) _).setCell (a := ⟨N0, i * 2 + 1, none⟩) (Nat.zero_le _) (.inl (by simp)) _
          have hfw : Fr 0 [] [] w ((wr.setCell ⟨N0, i * 2, none⟩ (.string t1)).setCell ⟨N0, i * 2 + 1, none⟩ (.string t2)) := (hF.setCell (a := ⟨N0, i * 2, none⟩) (Nat.zero_le _) (.inr (.inl (by show w.heap.size ≤ N0; omega))) _).setCell (a := ⟨N0, i * 2 + 1, none⟩) (Nat.zero_le _) (.inr (.inl (by show w.heap.size ≤ N0; omega))) _
          refine ⟨i + 1, fs.set i (t1, t2), by omega, by simp, ⟨by simpa using hsh.1, fun x h9 => ?_⟩, hB.set i (by rw [hsh.1]; exact hlt) (t1, t2), hL.fr hfs.drew (.inr ⟨by simp; omega, by simp⟩), hR.fr hfs.drew (.inr ⟨by simp; omega, by simp⟩), hfw.drew⟩
          rcases List.mem_or_eq_of_mem_set h9 with h9 | rfl
          · exact hsh.2 x h9
          · exact ⟨Q.out.1.1, Q.out.1.2, Q.out.2.1, Q.out.2.2⟩
        case measure => simp [intOf]; omega
      · have d1 : decide ((i : Int) < n) = false := by simpa using hlt
        have d2 : ¬ (i : Int) < n := by omega
        go_wp2_with (fail)
        go_ret2
        exact ⟨N0, W1 + W2, fs, by simp, hB, hsh, by omega, by omega, hF⟩
end Go.Proofs.YtiepopbmbgfhkaaGreat

namespace Go.Proofs.YtiepopbmbgfhkaaGreat
open Go.RowKit
set_option maxHeartbeats 4000000
set_option maxRecDepth 20000
set_option linter.unusedVariables false
set_option linter.unusedSimpArgs false

def flt (n : Nat) : Nat := floatOfInt .f64 (n : Int)
def one : Nat := 4607182418800017408
/-- What clamp gives. -/
def clampF (a b x : Nat) : Nat := if FloatKind.f64.format.order a x == some .lt then a else if FloatKind.f64.format.order x b == some .lt then b else x

theorem clamp_c (a b x : Nat) (w : World) : Calls Tryz.prog 116 #[.float .f64 a, .float .f64 b, .float .f64 x] w fun e w' => e = .returned (.float .f64 (clampF a b x)) ∧ w = w' := by
  unfold clampF
  by_cases h1 : (FloatKind.f64.format.order a x == some .lt) = true
  · rw [if_pos h1]
    go_enter Tryz.func116, Tryz.ntmps116
    go_wp2
    go_ret
    exact ⟨rfl, rfl⟩
  · rw [if_neg h1]
    have h1' : (FloatKind.f64.format.order a x == some .lt) = false := by simpa using h1
    by_cases h2 : (FloatKind.f64.format.order x b == some .lt) = true
    · rw [if_pos h2]
      go_enter Tryz.func116, Tryz.ntmps116
      go_wp2
      go_ret
      exact ⟨rfl, rfl⟩
    · rw [if_neg h2]
      have h2' : (FloatKind.f64.format.order x b == some .lt) = false := by simpa using h2
      go_enter Tryz.func116, Tryz.ntmps116
      go_wp2
      go_ret
      exact ⟨rfl, rfl⟩

/-- The numbers of the bar's height and of its top exist. -/
def barH (a b : Nat) : Bool :=
  match floatBits .quo .f64 (flt a) (flt b) with
  | some d => match floatBits .mul .f64 (flt a) d with
    | some m => (floatToIntVal .f64 (clampF (flt a) one m) .i64).isSome
    | none => false
  | none => false
def barT (a b v : Nat) : Bool :=
  match floatBits .quo .f64 (flt v) (flt b) with
  | some d => match floatBits .mul .f64 (flt a) d with
    | some m => (floatToIntVal .f64 m .i64).isSome
    | none => false
  | none => false
theorem barH_all : ∀ a, a < 13 → ∀ b, b < 13 → b = 0 ∨ barH a b = true := by decide +kernel
theorem barT_all : ∀ a, a < 13 → ∀ b, b < 13 → ∀ v, v < 13 → b = 0 ∨ barT a b v = true := by decide +kernel

structure BarH (a b d m : Nat) (z : Int) : Prop where
  hq : floatBits .quo .f64 (floatOfInt .f64 a) (floatOfInt .f64 b) = some d
  hm : floatBits .mul .f64 (floatOfInt .f64 a) d = some m
  hz : floatToIntVal .f64 (clampF (floatOfInt .f64 a) one m) .i64 = some z
structure BarT (a b v d m : Nat) (z : Int) : Prop where
  hq : floatBits .quo .f64 (floatOfInt .f64 v) (floatOfInt .f64 b) = some d
  hm : floatBits .mul .f64 (floatOfInt .f64 a) d = some m
  hz : floatToIntVal .f64 m .i64 = some z
theorem bar_h {a b : Nat} (ha : a < 13) (hb : b < 13) (h0 : b ≠ 0) : ∃ d m z, BarH a b d m z := by
  have h := (barH_all a ha b hb).resolve_left h0
  unfold barH at h
  split at h
  · rename_i d hd
    split at h
    · rename_i m hm
      obtain ⟨z, hz⟩ := Option.isSome_iff_exists.1 h
      exact ⟨d, m, z, hd, hm, hz⟩
    · cases h
  · cases h
theorem bar_t {a b v : Nat} (ha : a < 13) (hb : b < 13) (hv : v < 13) (h0 : b ≠ 0) : ∃ d m z, BarT a b v d m z := by
  have h := (barT_all a ha b hb v hv).resolve_left h0
  unfold barT at h
  split at h
  · rename_i d hd
    split at h
    · rename_i m hm
      obtain ⟨z, hz⟩ := Option.isSome_iff_exists.1 h
      exact ⟨d, m, z, hd, hm, hz⟩
    · cases h
  · cases h

/-- Some Bool. -/
def BoolPost (w : World) (e : Ending) (w' : World) : Prop := (∃ B : Bool, e = .returned (.bool B)) ∧ w = w'
theorem thumb_c {w : World} {p1 p2 : Nat} {z1 z2 : Int} (row : Int) (h1 : w.cell? ⟨p1, 0, none⟩ = some (.int .i64 z1)) (h2 : w.cell? ⟨p2, 0, none⟩ = some (.int .i64 z2)) :
    Calls Tryz.prog 117 #[.int .i64 row, .pointer (some ⟨p1, 0, none⟩), .pointer (some ⟨p2, 0, none⟩)] w (BoolPost w) := by
  by_cases hz : z1 ≤ row
  · have d1 : decide (z1 ≤ row) = true := by simpa using hz
    go_enter Tryz.func117, Tryz.ntmps117
    go_wp2
    go_ret
    exact ⟨⟨_, rfl⟩, rfl⟩
  · have d1 : decide (z1 ≤ row) = false := by simpa using hz
    go_enter Tryz.func117, Tryz.ntmps117
    go_wp2
    go_ret
    exact ⟨⟨_, rfl⟩, rfl⟩
end Go.Proofs.YtiepopbmbgfhkaaGreat
