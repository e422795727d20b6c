/-
  The set's player: the word ahead of the cursor; the next suggestion.
  The set's player in memory; the word ahead of its cursor.
  The set's player: its history is cleared; it turns over it; it asks for suggestions.
-/
import Derived.Test.YtiepopbmbgfhkaaGreatQ39
import Derived.Test.YtiepopbmbgfhkaaGreatQ38
import Derived.Test.YtiepopbmbgfhkaaGreatQ23
namespace Go.Proofs.YtiepopbmbgfhkaaGreat
open Go.RowKit
set_option maxHeartbeats 4000000
set_option maxRecDepth 20000
set_option linter.unusedVariables false
set_option linter.unusedSimpArgs false

theorem choose1_c (sel : Int) (len : Nat) (hs : -1 ≤ sel) (hs2 : sel ≤ 1000) (hl : len ≤ 1000) (w : World) :
    Calls Tryz.prog 125 #[.int .i64 sel, .int .i64 len, .int .u8 1] w fun e w' => e = .returned (.int .i64 (if sel + 1 < len then sel + 1 else -1)) ∧ w = w' := by
  by_cases h1 : sel + 1 < len
  · have d1 : decide (sel + 1 < (len : Int)) = true := by simpa using h1
    rw [if_pos h1]
    go_enter Tryz.func125, Tryz.ntmps125
    go_wp2_with (fail)
    go_ret
    exact ⟨rfl, rfl⟩
  · have d1 : decide (sel + 1 < (len : Int)) = false := by simpa using h1
    rw [if_neg h1]
    go_enter Tryz.func125, Tryz.ntmps125
    go_wp2_with (fail)
    go_ret
    exact ⟨rfl, rfl⟩
theorem choose2_c (sel : Int) (len : Nat) (hs : -1 ≤ sel) (hs2 : sel ≤ 1000) (hl : len ≤ 1000) (w : World) :
    Calls Tryz.prog 125 #[.int .i64 sel, .int .i64 len, .int .u8 2] w fun e w' => e = .returned (.int .i64 (if sel < 0 then (len : Int) - 1 else sel - 1)) ∧ w = w' := by
  by_cases h1 : sel < 0
  · have d1 : decide (sel < 0) = true := by simpa using h1
    rw [if_pos h1]
    go_enter Tryz.func125, Tryz.ntmps125
    go_wp2_with (fail)
    go_ret
    exact ⟨rfl, rfl⟩
  · have d1 : decide (sel < 0) = false := by simpa using h1
    rw [if_neg h1]
    go_enter Tryz.func125, Tryz.ntmps125
    go_wp2_with (fail)
    go_ret
    exact ⟨rfl, rfl⟩

theorem stepped1_c {q : Cp} {sel vs : Int} {tmp : List Pk} (hm : 1 ≤ q.most) (hm2 : q.most ≤ 10) (hl : tmp.length ≤ 12) (h : Wn q.most tmp.length sel vs) (w : World) :
    Calls Tryz.prog 94 #[.int .i64 sel, .int .i64 vs, .int .i64 tmp.length, .int .i64 q.most, .int .u8 1] w fun e w' => e = .returned (.tuple #[.int .i64 (nextS q sel vs tmp).1, .int .i64 (nextS q sel vs tmp).2.1]) ∧ w = w' := by
  obtain ⟨len, hlen⟩ : ∃ len, tmp.length = len := ⟨_, rfl⟩
  obtain ⟨most, hmost⟩ : ∃ most, q.most = most := ⟨_, rfl⟩
  have hsel : -1 ≤ sel ∧ sel ≤ 12 ∧ 0 ≤ vs ∧ vs ≤ 12 ∧ vs ≤ sel + 1 ∧ (sel < vs + most) := by rcases h with ⟨e, e2⟩ | ⟨n, e, h2, h3, h4, h5, h6⟩ <;> omega
  obtain ⟨s1, s2, s3, s4, s5, s6⟩ := hsel
  have hcs := fun w => choose1_c sel len s1 (by omega) (by omega) w
  unfold nextS updS
  rw [hlen, hmost]
  rw [hlen] at hl
  rw [hmost] at hm hm2
  clear h hlen hmost
  by_cases h1 : sel + 1 < len
  · rw [if_neg (by omega), if_neg (by omega)]
    simp only [if_pos h1] at hcs
    have n1 : ¬ sel + 1 < 0 := by omega
    by_cases h2 : vs + most ≤ sel + 1
    · have e2 : (if vs + (most : Int) - 1 = sel then vs + 1 else vs) = vs + 1 := if_pos (by omega)
      rw [e2]
      clear e2 h1
      by_cases h3 : sel < 0
      · exfalso; omega
      · go_enter Tryz.func94, Tryz.ntmps94
        go_wp2_with (fail)
        refine (hcs _).mono ?_
        rintro e w1 ⟨rfl, rfl⟩
        go_wp2_with (fail)
        go_ret2
        exact ⟨rfl, rfl⟩
    · have e2 : (if vs + (most : Int) - 1 = sel then vs + 1 else vs) = vs := if_neg (by omega)
      rw [e2]
      have n3 : ¬ sel + 1 < vs := by omega
      clear e2 h1
      by_cases h3 : sel < 0
      · go_enter Tryz.func94, Tryz.ntmps94
        go_wp2_with (fail)
        refine (hcs _).mono ?_
        rintro e w1 ⟨rfl, rfl⟩
        go_wp2_with (fail)
        go_ret2
        exact ⟨rfl, rfl⟩
      · go_enter Tryz.func94, Tryz.ntmps94
        go_wp2_with (fail)
        refine (hcs _).mono ?_
        rintro e w1 ⟨rfl, rfl⟩
        go_wp2_with (fail)
        go_ret2
        exact ⟨rfl, rfl⟩
  · rw [if_pos (by omega)]
    simp only [if_neg h1] at hcs
    clear h1
    go_enter Tryz.func94, Tryz.ntmps94
    go_wp2_with (fail)
    refine (hcs _).mono ?_
    rintro e w1 ⟨rfl, rfl⟩
    go_wp2_with (fail)
    go_ret2
    exact ⟨rfl, rfl⟩

theorem stepped2_c {q : Cp} {sel vs : Int} {tmp : List Pk} (hm : 1 ≤ q.most) (hm2 : q.most ≤ 10) (hl : tmp.length ≤ 12) (h : Wn q.most tmp.length sel vs) (w : World) :
    Calls Tryz.prog 94 #[.int .i64 sel, .int .i64 vs, .int .i64 tmp.length, .int .i64 q.most, .int .u8 2] w fun e w' => e = .returned (.tuple #[.int .i64 (prevS q sel vs tmp).1, .int .i64 (prevS q sel vs tmp).2.1]) ∧ w = w' := by
  obtain ⟨len, hlen⟩ : ∃ len, tmp.length = len := ⟨_, rfl⟩
  obtain ⟨most, hmost⟩ : ∃ most, q.most = most := ⟨_, rfl⟩
  have hsel : -1 ≤ sel ∧ sel ≤ 12 ∧ 0 ≤ vs ∧ vs ≤ 12 ∧ vs ≤ sel + 1 ∧ (sel < vs + most) ∧ (sel < 0 → vs = 0) ∧ (0 ≤ sel → sel < len ∧ vs ≤ sel) := by rcases h with ⟨e, e2⟩ | ⟨n, e, h2, h3, h4, h5, h6⟩ <;> omega
  obtain ⟨s1, s2, s3, s4, s5, s6, s7, s8⟩ := hsel
  have hcs := fun w => choose2_c sel len s1 (by omega) (by omega) w
  unfold prevS updS shown
  rw [hlen, hmost]
  rw [hlen] at hl
  rw [hmost] at hm hm2
  clear h hlen hmost
  rw [if_neg (by omega)]
  by_cases h1 : sel < 0
  · rw [if_pos (by omega)]
    simp only [if_pos h1] at hcs ⊢
    by_cases h0 : len = 0
    · subst h0
      go_enter Tryz.func94, Tryz.ntmps94
      go_wp2_with (fail)
      refine (hcs _).mono ?_
      rintro e w1 ⟨rfl, rfl⟩
      go_wp2_with (fail)
      go_ret2
      exact ⟨by simp, rfl⟩
    · have n1 : ¬ (len : Int) - 1 < 0 := by omega
      by_cases hle : (most : Int) ≤ len
      · have hd : ((len - min most len : Nat) : Int) = (len : Int) - (most : Int) := by omega
        rw [hd]
        clear hd
        show Calls _ _ _ _ (fun e w' => e = .returned (.tuple #[.int .i64 ((len : Int) - 1), .int .i64 ((len : Int) - (most : Int))]) ∧ w = w')
        go_enter Tryz.func94, Tryz.ntmps94
        go_wp2_with (fail)
        refine (hcs _).mono ?_
        rintro e w1 ⟨rfl, rfl⟩
        go_wp2_with (fail)
        go_ret2
        exact ⟨rfl, rfl⟩
      · have hd : ((len - min most len : Nat) : Int) = (len : Int) - (len : Int) := by omega
        rw [hd]
        clear hd
        show Calls _ _ _ _ (fun e w' => e = .returned (.tuple #[.int .i64 ((len : Int) - 1), .int .i64 ((len : Int) - (len : Int))]) ∧ w = w')
        go_enter Tryz.func94, Tryz.ntmps94
        go_wp2_with (fail)
        refine (hcs _).mono ?_
        rintro e w1 ⟨rfl, rfl⟩
        go_wp2_with (fail)
        go_ret2
        exact ⟨by simp, rfl⟩
  · rw [if_neg (by omega)]
    simp only [if_neg h1] at hcs
    obtain ⟨h81, h82⟩ := s8 (by omega)
    by_cases h0 : sel = 0
    · subst h0
      have e2 : (if vs = (0 : Int) ∧ (0 : Int) < 0 then vs - 1 else vs) = 0 := by rw [if_neg (by omega)]; omega
      rw [e2]
      clear e2
      have hcs2 : ∀ w, Calls Tryz.prog 125 #[.int .i64 0, .int .i64 len, .int .u8 2] w fun e w' => e = .returned (.int .i64 (-1)) ∧ w = w' := hcs
      clear hcs
      show Calls _ _ _ _ (fun e w' => e = .returned (.tuple #[.int .i64 (-1), .int .i64 (0)]) ∧ w = w')
      go_enter Tryz.func94, Tryz.ntmps94
      go_wp2_with (fail)
      refine (hcs2 _).mono ?_
      rintro e w1 ⟨rfl, rfl⟩
      go_wp2_with (fail)
      go_ret2
      exact ⟨rfl, rfl⟩
    · have n1 : ¬ sel - 1 < 0 := by omega
      have n2 : ¬ vs + (most : Int) ≤ sel - 1 := by omega
      by_cases h2 : vs = sel
      · have e2 : (if vs = sel ∧ 0 < sel then vs - 1 else vs) = vs - 1 := if_pos (by omega)
        rw [e2]
        have n3 : sel - 1 < vs := by omega
        clear e2 h2
        show Calls _ _ _ _ (fun e w' => e = .returned (.tuple #[.int .i64 (sel - 1), .int .i64 (vs - 1)]) ∧ w = w')
        go_enter Tryz.func94, Tryz.ntmps94
        go_wp2_with (fail)
        refine (hcs _).mono ?_
        rintro e w1 ⟨rfl, rfl⟩
        go_wp2_with (fail)
        go_ret2
        exact ⟨rfl, rfl⟩
      · have e2 : (if vs = sel ∧ 0 < sel then vs - 1 else vs) = vs := if_neg (by omega)
        rw [e2]
        have n3 : ¬ sel - 1 < vs := by omega
        clear e2 h2
        show Calls _ _ _ _ (fun e w' => e = .returned (.tuple #[.int .i64 (sel - 1), .int .i64 (vs)]) ∧ w = w')
        go_enter Tryz.func94, Tryz.ntmps94
        go_wp2_with (fail)
        refine (hcs _).mono ?_
        rintro e w1 ⟨rfl, rfl⟩
        go_wp2_with (fail)
        go_ret2
        exact ⟨rfl, rfl⟩
end Go.Proofs.YtiepopbmbgfhkaaGreat

namespace Go.Proofs.YtiepopbmbgfhkaaGreat
open Go.RowKit
set_option maxHeartbeats 4000000
set_option maxRecDepth 20000
set_option linter.unusedVariables false
set_option linter.unusedSimpArgs false

/-- A slice of the set's suggestions that the call owns. -/
def QRow (base : Nat) (w : World) (v : Value) (xs : List Pk) : Prop := w.ownsRow base 29 2 v xs.length (pks xs)
section
variable {base : Nat} {w w1 : World} {v : Value} {xs : List Pk}
theorem QRow.nil (base : Nat) (w : World) : QRow base w (.slice none 0 0) [] := ⟨rfl, .inl ⟨rfl, rfl⟩⟩
theorem QRow.form (h : QRow base w v xs) : ∃ p c, v = .slice p xs.length c := by
  obtain ⟨h1, ⟨rfl, h2⟩ | ⟨g, cap, cur, rfl, hb, hg, hn, hcap, hsz, ht⟩⟩ := h
  · exact ⟨none, 0, by rw [h2]⟩
  · exact ⟨_, _, rfl⟩
theorem QRow.get (h : QRow base w v xs) (i : Nat) (hi : i < xs.length) : ∃ g c, v = .slice (some ⟨g, 0, none⟩) xs.length c ∧ w.cell? ⟨g, i * 2, none⟩ = some (.string xs[i].1) ∧ w.cell? ⟨g, i * 2 + 1, none⟩ = some (.string xs[i].2) ∧ base ≤ g ∧ g < w.heap.size := by
  obtain ⟨h1, ⟨rfl, h2⟩ | ⟨g, cap, cur, rfl, hb, hg, hn, hcap, hsz, ht⟩⟩ := h
  · omega
  · have hB : Blk w g cur 29 := hg
    obtain ⟨e1, e2⟩ := pks_get xs i hi
    rw [← ht, List.getElem?_take, if_pos (by omega)] at e1 e2
    refine ⟨g, cap, rfl, ?_, ?_, hb, hB.lt⟩
    · rw [hB.cell]; simpa using e1
    · rw [hB.cell]; simpa using e2
theorem QRow.fr {base' : Nat} {ts bs : List Nat} (h : QRow base w v xs) (hF : Fr base' ts bs w w1) (h1 : 29 ∉ ts) (h2 : ∀ b ∈ bs, ∃ cs t, Blk w b cs t ∧ t ≠ 29) : QRow base w1 v xs :=
  hF.row h fun g hg => .inr ⟨fun hm => by
    obtain ⟨cs, t, e1, e2⟩ := h2 g hm
    obtain ⟨-, cs', e3⟩ := row_blk h g hg
    exact e2 (e1.inj e3).2, h1⟩
theorem QRow.fr0 {base' : Nat} (h : QRow base w v xs) (hF : Fr base' [] [] w w1) : QRow base w1 v xs := h.fr hF (by simp) (by simp)
end
theorem info29 : ∃ i, Tryz.prog.info? 29 = some i ∧ i.zero = some (.agg #[.string .empty, .string .empty]) ∧ i.size = 2 ∧ i.bytes = 32 := info_of (by kernel_rfl)
section
variable {o : Oper} {a : Act} {w : World} {K : Act → World → Prop} {Q : Exit → Act → World → Prop}
/-- 'append(l, x)' at the set's suggestions. -/
theorem wp_appq {base : Nat} {v : Value} {xs : List Pk} {y : Pk} {b c : Nat} (s x : Operand) (ho : o.op = .call { callee := .builtin .append, args := #[s, x], argTypes := #[22, 22] })
    (hs : a.eval s = v) (hx : a.eval x = .slice (some ⟨b, 0, none⟩) 1 c) (hr : QRow base w v xs) (hd : Blk w b #[.string y.1, .string y.2] 29) (hlen : xs.length ≤ 1000000) (hb : base ≤ w.heap.size)
    (h : ∀ p n c w', QRow base w' (.slice p n c) (xs ++ [y]) → Fr base [29] [] w w' → K (a.put o.dst (.slice p n c)) w') : o.wp Tryz.prog a w K Q := by
  obtain ⟨i, h1, h2, h3, h4⟩ := info29
  obtain ⟨v', w', hrun, hown', hgr, hnil, hat⟩ := run_append_own_at (P := Tryz.prog) w base 22 o.type 29 i (.agg #[.string .empty, .string .empty]) 2 32 (by kernel_rfl) h1 h2 h3 h4 rfl (by decide) v xs.length _ hr
    ⟨b, 0, none⟩ 1 c (pks [y]) (by simp [pks]) (fun j u hj => by
      rw [add_at, hd.cell]
      simp only [pks, List.flatMap_cons, List.flatMap_nil, List.append_nil] at hj
      rw [← hj]
      rcases j with _ | _ | j <;> rfl)
    (fun u hu => by simp only [pks, List.flatMap_cons, List.flatMap_nil, List.append_nil, List.mem_cons, List.not_mem_nil, or_false] at hu; rcases hu with rfl | rfl <;> rfl) (by simp only [maxLen]; omega) (by omega) (by omega)
  have hP : QRow base w' v' (xs ++ [y]) := by
    unfold QRow; rw [pks_append, List.length_append]; exact hown'
  obtain ⟨p, c, rfl⟩ := hP.form
  unfold Oper.wp execOp
  simp only [ho, resolve, invoke, builtin, Sem.run_bind, Sem.run_pure, Result.andThen_ok, List.map_toArray, List.map_cons, List.map_nil, hs, hx, hrun]
  exact h p _ c w' hP ((Fr.refl base [29] [] w).grown hgr fun k hk => by
    obtain ⟨e1, cs, e2⟩ := row_blk hr k hk
    exact ⟨e1, .inr (.inr ⟨cs, 29, e2, by simp⟩)⟩)
end

/-- What a player has in memory besides. -/
structure PV where
  vo : Value
  va : Value
  vk : Value
  vl : Value
  vb : Value
  ga : Nat
  gk : Nat
  bs : List ByteArray
  left : Bool

/-- A session's and a player's cells. -/
def plc (S : Sess) (ov hv : Value) (P : PL) (V : PV) : Array Value :=
  #[.string S.pre, ov, .int .i64 S.most, .int .i64 S.cols, .bool S.down, .bool S.start, .string S.sep, hv, .string S.begun, .bool S.plain, .string S.exit,
    .string P.s.t, .int .i64 P.s.k, .int .i64 P.s.sel, .int .i64 P.s.vs, V.vo, V.va, V.vk, .int .i64 P.s.hsel, V.vl, V.vb, .bool P.over, .bool V.left, .bool P.opn]

/-- What a call may write of a player: itself, rows of texts, rows of suggestions. -/
def PT : List Nat := [63, 9, 29]

structure Rows0 (base : Nat) (w : World) (P : PL) (V : PV) : Prop where
  o : QRow base w V.vo P.s.tmp
  a : SRow w V.ga V.va P.s.hs
  ab : base ≤ V.ga
  l : OS base w V.vl P.s.lines
  b : OS base w V.vb V.bs
  la : V.vl.ownBlock ≠ some V.ga
  ba : V.vb.ownBlock ≠ some V.ga
  lb : ∀ g, V.vl.ownBlock = some g → V.vb.ownBlock ≠ some g
structure RowK (base : Nat) (w : World) (P : PL) (V : PV) : Prop where
  k : SRow w V.gk V.vk P.s.ts
  kb : base ≤ V.gk
  ka : V.gk ≠ V.ga
  kl : V.vl.ownBlock ≠ some V.gk
  kbb : V.vb.ownBlock ≠ some V.gk

/-- A player in memory; nothing is said of its texts as they are edited. -/
structure Ply0 (base : Nat) (w : World) (p : Nat) (S : Sess) (ov hv : Value) (P : PL) (V : PV) : Prop where
  blk : Blk w p (plc S ov hv P V) 63
  bp : base ≤ p
  bw : base ≤ w.heap.size
  rows : Rows0 base w P V
  ino : PkIn w ov S.offs
  inl : ∀ A n c, ov = .slice (some A) n c → A.block < base ∨ S.offs = []
/-- A player in memory. -/
structure Ply (base : Nat) (w : World) (p : Nat) (S : Sess) (ov hv : Value) (P : PL) (V : PV) : Prop extends Ply0 base w p S ov hv P V where
  kept : RowK base w P V

section
variable {base : Nat} {w w1 : World} {p : Nat} {S : Sess} {ov hv : Value} {P : PL} {V : PV}
theorem Rows0.fr {base' : Nat} {bs : List Nat} (h : Rows0 base w P V) (hF : Fr base' [] bs w w1) (h29 : ∀ b ∈ bs, ∃ cs t, Blk w b cs t ∧ t ≠ 29) (ha : V.ga ∉ bs) (hl : ∀ g, V.vl.ownBlock = some g → g ∉ bs) (hb : ∀ g, V.vb.ownBlock = some g → g ∉ bs) : Rows0 base w1 P V :=
  ⟨h.o.fr hF (by simp) h29, h.a.fr hF (.inr ⟨ha, by simp⟩), h.ab, h.l.fr hF hl (by simp), h.b.fr hF hb (by simp), h.la, h.ba, h.lb⟩
theorem Rows0.fr0 {base' : Nat} (h : Rows0 base w P V) (hF : Fr base' [] [] w w1) : Rows0 base w1 P V := h.fr hF (by simp) (by simp) (by simp) (by simp)
theorem RowK.fr {base' : Nat} {bs : List Nat} (h : RowK base w P V) (hF : Fr base' [] bs w w1) (hk : V.gk ∉ bs) : RowK base w1 P V :=
  ⟨h.k.fr hF (.inr ⟨hk, by simp⟩), h.kb, h.ka, h.kl, h.kbb⟩
theorem RowK.fr0 {base' : Nat} (h : RowK base w P V) (hF : Fr base' [] [] w w1) : RowK base w1 P V := h.fr hF (by simp)
theorem PkIn.lowB {v : Value} {ys : List Pk} {base : Nat} {ts bs : List Nat} (h : PkIn w v ys) (hF : Fr base ts bs w w1) (hb : ∀ A n c, v = .slice (some A) n c → A.block < base ∨ ys = []) : PkIn w1 v ys := by
  rcases h with h | ⟨b, o, c, h1, h2⟩
  · exact .inl h
  · by_cases hy : ys = []
    · subst hy
      exact .inl ⟨rfl, .inr ⟨_, _, h1⟩⟩
    · have := (hb _ _ _ h1).resolve_right hy
      exact .inr ⟨b, o, c, h1, fun j hj => ⟨hF.cellB (h2 j hj).1 this, hF.cellB (h2 j hj).2 this⟩⟩
theorem Ply0.fr0 {base' : Nat} (h : Ply0 base w p S ov hv P V) (hF : Fr base' [] [] w w1) : Ply0 base w1 p S ov hv P V :=
  ⟨hF.blk0 h.blk, h.bp, Nat.le_trans h.bw hF.size, h.rows.fr0 hF, h.ino.fr hF, h.inl⟩
theorem Ply.fr0 {base' : Nat} (h : Ply base w p S ov hv P V) (hF : Fr base' [] [] w w1) : Ply base w1 p S ov hv P V :=
  ⟨h.toPly0.fr0 hF, h.kept.fr0 hF⟩
/-- The blocks that a player has are apart from itself. -/
theorem Ply0.apart (h : Ply0 base w p S ov hv P V) : V.ga ≠ p ∧ (∀ g, V.vl.ownBlock = some g → g ≠ p) ∧ (∀ g, V.vb.ownBlock = some g → g ≠ p) := by
  refine ⟨?_, fun g hg e => ?_, fun g hg e => ?_⟩
  · obtain ⟨cur, hc⟩ := h.rows.a.blk
    exact hc.ne h.blk (by decide)
  · obtain ⟨-, cs, hc⟩ := row_blk h.rows.l g hg
    exact hc.ne h.blk (by decide) e
  · obtain ⟨-, cs, hc⟩ := row_blk h.rows.b g hg
    exact hc.ne h.blk (by decide) e
theorem RowK.apart (h : RowK base w P V) {cs : Array Value} (hB : Blk w p cs 63) : V.gk ≠ p := by
  obtain ⟨cur, hc⟩ := h.k.blk
  exact hc.ne hB (by decide)
theorem fr_cell (hb : base ≤ p) (i : Nat) (v : Value) : Fr base [] [p] w (w.setCell ⟨p, i, none⟩ v) := (Fr.refl _ _ _ _).setCell (a := ⟨p, i, none⟩) hb (.inl (by simp)) v
/-- Two players' rows but those that are edited are the same. -/
def PV.same (V' V : PV) : Prop := V'.vo = V.vo ∧ V'.va = V.va ∧ V'.vl = V.vl ∧ V'.vb = V.vb ∧ V'.ga = V.ga ∧ V'.bs = V.bs
/-- A cell of a player is written: its rows are as they were. -/
theorem Ply0.put (h : Ply0 base w p S ov hv P V) (i : Nat) (v : Value) {P' : PL} {V' : PV} (he : (plc S ov hv P V).setIfInBounds i v = plc S ov hv P' V') (h1 : P'.s.tmp = P.s.tmp) (h2 : P'.s.hs = P.s.hs) (h3 : P'.s.lines = P.s.lines) (hV : V'.same V) :
    Ply0 base (w.setCell ⟨p, i, none⟩ v) p S ov hv P' V' := by
  have hF : Fr base [] [p] w (w.setCell ⟨p, i, none⟩ v) := fr_cell h.bp i v
  obtain ⟨a1, a2, a3⟩ := h.apart
  have hr := h.rows.fr hF (fun b hb => by rw [List.mem_singleton.1 hb]; exact ⟨_, 63, h.blk, by decide⟩) (by simpa using a1) (fun g hg => by simpa using a2 g hg) (fun g hg => by simpa using a3 g hg)
  obtain ⟨r1, r2, r3, r4, r5, r6, r7, r8⟩ := hr
  obtain ⟨e1, e2, e3, e4, e5, e6⟩ := hV
  refine ⟨he ▸ h.blk.set i v, h.bp, Nat.le_trans h.bw hF.size, ⟨by rw [h1, e1]; exact r1, by rw [h2, e5, e2]; exact r2, by rw [e5]; exact r3, by rw [h3, e3]; exact r4, by rw [e4, e6]; exact r5, by rw [e3, e5]; exact r6, by rw [e4, e5]; exact r7, by rw [e3, e4]; exact r8⟩, h.ino.lowB hF h.inl, h.inl⟩
theorem Ply.put (h : Ply base w p S ov hv P V) (i : Nat) (v : Value) {P' : PL} {V' : PV} (he : (plc S ov hv P V).setIfInBounds i v = plc S ov hv P' V') (h1 : P'.s.tmp = P.s.tmp) (h2 : P'.s.hs = P.s.hs) (h3 : P'.s.lines = P.s.lines) (h4 : P'.s.ts = P.s.ts) (hV : V'.same V) (e7 : V'.vk = V.vk) (e8 : V'.gk = V.gk) :
    Ply base (w.setCell ⟨p, i, none⟩ v) p S ov hv P' V' := by
  have hk := h.kept.fr (fr_cell h.bp i v) (by simpa using h.kept.apart h.blk)
  refine ⟨h.toPly0.put i v he h1 h2 h3 hV, ?_⟩
  obtain ⟨e1, e2, e3, e4, e5, e6⟩ := hV
  exact ⟨by rw [h4, e7, e8]; exact hk.k, by rw [e8]; exact hk.kb, by rw [e5, e8]; exact hk.ka, by rw [e3, e8]; exact hk.kl, by rw [e4, e8]; exact hk.kbb⟩
theorem Ply0.putF (h : Ply0 base w p S ov hv P V) (i : Nat) (v : Value) : Fr base PT [] w (w.setCell ⟨p, i, none⟩ v) :=
  (Fr.refl _ _ _ _).setCell (a := ⟨p, i, none⟩) h.bp (.inr (.inr ⟨_, 63, h.blk, by simp [PT]⟩)) v

/-- A player's cells, as they are looked at. -/
structure PlC (w : World) (p : Nat) (S : Sess) (ov hv : Value) (P : PL) (V : PV) : Prop where
  c0 : w.cell? ⟨p, 0, none⟩ = some (.string S.pre)
  c1 : w.cell? ⟨p, 1, none⟩ = some ov
  c2 : w.cell? ⟨p, 2, none⟩ = some (.int .i64 S.most)
  c4 : w.cell? ⟨p, 4, none⟩ = some (.bool S.down)
  c6 : w.cell? ⟨p, 6, none⟩ = some (.string S.sep)
  c9 : w.cell? ⟨p, 9, none⟩ = some (.bool S.plain)
  c10 : w.cell? ⟨p, 10, none⟩ = some (.string S.exit)
  c11 : w.cell? ⟨p, 11, none⟩ = some (.string P.s.t)
  c12 : w.cell? ⟨p, 12, none⟩ = some (.int .i64 P.s.k)
  c13 : w.cell? ⟨p, 13, none⟩ = some (.int .i64 P.s.sel)
  c14 : w.cell? ⟨p, 14, none⟩ = some (.int .i64 P.s.vs)
  c15 : w.cell? ⟨p, 15, none⟩ = some V.vo
  c16 : w.cell? ⟨p, 16, none⟩ = some V.va
  c17 : w.cell? ⟨p, 17, none⟩ = some V.vk
  c18 : w.cell? ⟨p, 18, none⟩ = some (.int .i64 P.s.hsel)
  c19 : w.cell? ⟨p, 19, none⟩ = some V.vl
  c20 : w.cell? ⟨p, 20, none⟩ = some V.vb
  c21 : w.cell? ⟨p, 21, none⟩ = some (.bool P.over)
  c22 : w.cell? ⟨p, 22, none⟩ = some (.bool V.left)
  c23 : w.cell? ⟨p, 23, none⟩ = some (.bool P.opn)
  f : ∀ i, w.frozen? ⟨p, i, none⟩ = false
  lt : p < w.heap.size
theorem plC (h : Blk w p (plc S ov hv P V) 63) : PlC w p S ov hv P V :=
  ⟨h.cell 0, h.cell 1, h.cell 2, h.cell 4, h.cell 6, h.cell 9, h.cell 10, h.cell 11, h.cell 12, h.cell 13, h.cell 14, h.cell 15, h.cell 16, h.cell 17, h.cell 18, h.cell 19, h.cell 20, h.cell 21, h.cell 22, h.cell 23, h.frozen, h.lt⟩
end

/-- The word ahead of the cursor. -/
theorem pWord_c {w : World} {p : Nat} {S : Sess} {ov hv : Value} {P : PL} {V : PV} (h : Blk w p (plc S ov hv P V) 63) (hsep : S.sep.size ≤ 1000) (ht : Prn P.s.t) (hs : P.s.t.size ≤ 1000000) (hk : P.s.k ≤ P.s.t.size) :
    Calls Tryz.prog 63 #[.pointer (some ⟨p, 0, none⟩)] w fun e w' => e = .returned (.string (P.s.t.extract (wordAt S.sep P.s.t P.s.k) P.s.k)) ∧ Fr 0 [] [] w w' := by
  have hC := plC h
  have c6 := hC.c6
  have c11 := hC.c11
  have c12 := hC.c12
  have hlt := hC.lt
  clear hC
  obtain ⟨t, ht9⟩ : ∃ t, P.s.t = t := ⟨_, rfl⟩
  obtain ⟨k, hk9⟩ : ∃ k, P.s.k = k := ⟨_, rfl⟩
  rw [ht9] at ht hs hk c11 ⊢
  rw [hk9] at hk c12 ⊢
  have esz : (t.extract 0 k).size = k := by simp; omega
  have hb := fun w => sBefore_c t k ht hs hk w
  have hr := lastIx_range (sepP S.sep) (t.extract 0 k) k
  have hex : (t.extract 0 k).extract (wordAt S.sep t k) k = t.extract (wordAt S.sep t k) k := extract_extract t _ _ hk
  by_cases hz : S.sep.size = 0
  · have hse : S.sep = .empty := by
      apply ByteArray.ext
      apply Array.eq_empty_of_size_eq_zero
      exact hz
    have hl := fun w => sLast_c (t.extract 0 k) ⟨#[32]⟩ (by omega) (by decide) w
    have hsp : sepP S.sep = inSet ⟨#[32]⟩ := by
      unfold sepP; rw [if_pos hz, inSet_bl]
    have hwd : (wordAt S.sep t k : Int) = lastIx (inSet ⟨#[32]⟩) (t.extract 0 k) k + 1 := by
      unfold wordAt; rw [hsp]; rw [hsp] at hr; omega
    simp only [esz] at hl
    obtain ⟨x, hx⟩ : ∃ x, lastIx (inSet ⟨#[32]⟩) (t.extract 0 k) k = x := ⟨_, rfl⟩
    simp only [hx] at hl
    rw [hx] at hwd
    obtain ⟨j, hj⟩ : ∃ j, wordAt S.sep t k = j := ⟨_, rfl⟩
    rw [hj] at hwd hex ⊢
    have hj2 := wordAt_le S.sep t k
    rw [hj] at hj2
    obtain ⟨X, hX⟩ : ∃ X, t.extract 0 k = X := ⟨_, rfl⟩
    rw [hX] at esz hex
    simp only [hX] at hb hl
    have hxj : x = (j : Int) - 1 := by omega
    subst hxj
    rw [hse] at c6
    have hex2 : X.extract j X.size = t.extract j k := by rw [esz]; exact hex
    clear hx hj hwd hr hsp hse
    go_enter Tryz.func63, Tryz.ntmps63
    go_wp2_with (fail)
    refine (hb _).mono ?_
    rintro e w1 ⟨rfl, hF1⟩
    go_wp2_with (fail)
    refine (hl _).mono ?_
    rintro e w2 ⟨rfl, rfl⟩
    go_wp2_with (fail)
    go_ret
    exact ⟨by rw [← hex2]; simp, hF1⟩
  · have hsp : sepP S.sep = inSet S.sep := by unfold sepP; rw [if_neg hz]
    have hl := fun w => sLast_c (t.extract 0 k) S.sep (by omega) (by omega) w
    have hwd : (wordAt S.sep t k : Int) = lastIx (inSet S.sep) (t.extract 0 k) k + 1 := by
      unfold wordAt; rw [hsp]; rw [hsp] at hr; omega
    simp only [esz] at hl
    obtain ⟨x, hx⟩ : ∃ x, lastIx (inSet S.sep) (t.extract 0 k) k = x := ⟨_, rfl⟩
    simp only [hx] at hl
    rw [hx] at hwd
    obtain ⟨j, hj⟩ : ∃ j, wordAt S.sep t k = j := ⟨_, rfl⟩
    rw [hj] at hwd hex ⊢
    have hj2 := wordAt_le S.sep t k
    rw [hj] at hj2
    obtain ⟨X, hX⟩ : ∃ X, t.extract 0 k = X := ⟨_, rfl⟩
    rw [hX] at esz hex
    simp only [hX] at hb hl
    have hxj : x = (j : Int) - 1 := by omega
    subst hxj
    have hse : S.sep.toList.isEmpty = false := by rw [str_empty]; simpa using hz
    have hse2 : (S.sep.toList == []) = false := by
      cases hq : S.sep.toList with
      | nil => rw [hq] at hse; simp at hse
      | cons => rfl
    have hex2 : X.extract j X.size = t.extract j k := by rw [esz]; exact hex
    clear hx hj hwd hr hsp
    go_enter Tryz.func63, Tryz.ntmps63
    go_wp2_with (fail)
    refine (hb _).mono ?_
    rintro e w1 ⟨rfl, hF1⟩
    go_wp2_with (fail)
    refine (hl _).mono ?_
    rintro e w2 ⟨rfl, rfl⟩
    go_wp2_with (fail)
    go_ret
    exact ⟨by rw [← hex2]; simp, hF1⟩
end Go.Proofs.YtiepopbmbgfhkaaGreat

namespace Go.Proofs.YtiepopbmbgfhkaaGreat
open Go.RowKit
open List renaming setIfInBounds_toArray → zq1, set_cons_zero → zq2, set_cons_succ → zq3
open Int renaming toNat_natCast → zq4, toNat_sub → zq5, toNat_zero → zq6
set_option maxHeartbeats 4000000
set_option maxRecDepth 20000
set_option linter.unusedVariables false
set_option linter.unusedSimpArgs false

def PL.st (P : PL) (s : PS) : PL := { P with s := s }
/-- What a player's function leaves: the player, and what it may have written. -/
def PlyPost (nb base : Nat) (p : Nat) (S : Sess) (ov hv : Value) (P' : PL) (r : Value) (w : World) (e : Ending) (w' : World) : Prop := e = .returned r ∧ (∃ V', Ply base w' p S ov hv P' V' ∧ V'.bs.length ≤ nb) ∧ Fr base PT [] w w'
def PS.cleared (s : PS) : PS := { s with ts := s.hs ++ [.empty], hsel := s.hs.length }

theorem clear_fr {w w1 w2 : World} {M g1 : Nat} (hM : w.heap.size = M) (hF1 : Fr M [] [M] (w.alloc (.cells #[] 9)) w1) (hF2 : Fr M [] [g1] (w1.alloc (.cells #[.string ⟨#[]⟩] 9)) w2) (hg : M ≤ g1) : Fr M [] [] w w2 := by
  have a : Fr M [] [] w (w.alloc (.cells #[] 9)) := (Fr.refl _ _ _ _).alloc _
  have b : Fr M [] [] w w1 := a.step hF1 (by simp) (fun b hb => .inr (.inl (by rw [List.mem_singleton.1 hb]; omega)))
  exact (b.alloc _).step hF2 (by simp) (fun b hb => .inr (.inl (by rw [List.mem_singleton.1 hb]; omega)))

theorem pClear_c {nb base : Nat} {w : World} {p : Nat} {S : Sess} {ov hv : Value} {P : PL} {V : PV} (h : Ply0 base w p S ov hv P V) (hn : V.bs.length ≤ nb) (hl : P.s.hs.length ≤ 1000) :
    Calls Tryz.prog 54 #[.pointer (some ⟨p, 0, none⟩)] w (PlyPost nb base p S ov hv (P.st P.s.cleared) (.tuple #[]) w) := by
  have hC := plC h.blk
  have c16 := hC.c16
  have f17 := hC.f 17
  have f18 := hC.f 18
  have hlt := hC.lt
  clear hC
  have hbw := h.bw
  obtain ⟨ac, hva, hac⟩ := h.rows.a.form
  rw [hva] at c16
  have hTa : TxIn w V.va P.s.hs := by
    refine .inr ⟨V.ga, 0, ac, hva, fun j hj => ?_⟩
    rw [Nat.zero_add]
    exact (h.rows.a.get j hj).1
  rw [hva] at hTa
  obtain ⟨M, hM⟩ : ∃ M, w.heap.size = M := ⟨_, rfl⟩
  have hpM : p < M := by omega
  obtain ⟨ap1, ap2, ap3⟩ := h.apart
  have hga := h.rows.a.lt
  have hS0 : SRow (w.alloc (.cells #[] 9)) M (.slice (some ⟨M, 0, none⟩) 0 0) [] := ⟨0, #[], rfl, Blk.new' hM.symm _ _, by simp, by simp [maxLen], rfl, rfl⟩
  have hFa : Fr 0 [] [] w (w.alloc (.cells #[] 9)) := (Fr.refl _ _ _ _).alloc _
  go_enter Tryz.func54, Tryz.ntmps54
  go_wp2_with (first | (refine wpList_plain rfl (fun K hK => ?_); refine wp_appIn (base := M) (xs := []) (ys := P.s.hs) _ _ rfl rfl rfl hS0 (Nat.le_refl _) (hTa.fr hFa) (by simp; omega) ?_; intro g1 c1 w1 hS1 hg1 hF1; refine hK _ _ ?_; clear hK K; replace hS1 : SRow w1 g1 (.slice (some ⟨g1, 0, none⟩) P.s.hs.length c1) P.s.hs := (by simpa using hS1); have hg1M : M ≤ g1 := (by rcases hg1 with e | e; omega; rw [e]; simp; omega)) | (refine wpList_plain rfl (fun K hK => ?_); refine wp_apps (base := M) (xs := P.s.hs) (ys := [.empty]) _ _ rfl rfl rfl (hS1.fr0 ((Fr.refl 0 [] [] _).alloc _)) hg1M (one_text _ _) (by simp; omega) ?_; intro g2 c2 w2 hS2 hg2 hF2; refine hK _ _ ?_; clear hK K; replace hS2 : SRow w2 g2 (.slice (some ⟨g2, 0, none⟩) (P.s.hs.length + 1) c2) (P.s.hs ++ [.empty]) := hS2; have hFM : Fr M [] [] w w2 := (clear_fr hM hF1 hF2 hg1M); have hB2 := hFM.blk h.blk (.inl hpM); have hv17 : w2.cell? ⟨p, 17, none⟩ = some V.vk := hB2.cell 17; have hv18 : w2.cell? ⟨p, 18, none⟩ = some (.int .i64 P.s.hsel) := hB2.cell 18; have hq17 := hB2.frozen 17; have hq18 := hB2.frozen 18; have hb2 := hB2.lt))
  go_end0
  have hF0 : Fr 0 [] [] w w2 := ⟨hFM.os, hFM.tape, hFM.output, hFM.size, fun k hk _ => hFM.keep k hk (.inl (by omega))⟩
  have hg2M : M ≤ g2 := by rcases hg2 with e | e; omega; rw [e]; simp; have := hF1.size; simp at this; omega
  have h2 := h.fr0 hF0
  obtain ⟨V', hV'⟩ : ∃ V' : PV, V' = { V with vk := .slice (some ⟨g2, 0, none⟩) (P.s.hs.length + 1) c2, gk := g2 } := ⟨_, rfl⟩
  have hsame : V'.same V := by rw [hV']; exact ⟨rfl, rfl, rfl, rfl, rfl, rfl⟩
  have h3 : Ply0 base _ p S ov hv P V' := h2.put 17 (.slice (some ⟨g2, 0, none⟩) (P.s.hs.length + 1) c2) (by rw [hV']; rfl) rfl rfl rfl hsame
  have h4 : Ply0 base _ p S ov hv (P.st P.s.cleared) V' := h3.put 18 (.int .i64 P.s.hs.length) rfl rfl rfl rfl ⟨rfl, rfl, rfl, rfl, rfl, rfl⟩
  have own : ∀ g (v : Value) xs, OS base w v xs → v.ownBlock = some g → g < M := fun g v xs ho hg => by
    obtain ⟨-, cs, hb⟩ := row_blk ho g hg
    have := hb.lt; omega
  refine ⟨rfl, ⟨V', ⟨h4, ?_⟩, by rw [hV']; exact hn⟩, (hF0.any.trans (h2.putF 17 _)).trans (h3.putF 18 _)⟩
  have hfr := (fr_cell (w := w2) h.bp 17 (.slice (some ⟨g2, 0, none⟩) (P.s.hs.length + 1) c2)).trans (fr_cell h.bp 18 (.int .i64 P.s.hs.length))
  have hS3 := hS2.fr hfr (.inr ⟨by simp; omega, by simp⟩)
  rw [hV']
  refine ⟨?_, by show base ≤ g2; omega, by show g2 ≠ V.ga; omega, fun e => ?_, fun e => ?_⟩
  · have e : (P.s.hs ++ [ByteArray.empty]).length = P.s.hs.length + 1 := by simp
    exact hS3
  · have : g2 < M := own _ _ _ h.rows.l e
    omega
  · have : g2 < M := own _ _ _ h.rows.b e
    omega

/-- A turn over the history: to text j. -/
def PS.turned (s : PS) (j : Nat) (u : ByteArray) : PS := { s with ts := s.ts.set s.hsel s.t, hsel := j, t := u, k := u.size }

/-- A text of the history is kept as it is left. -/
theorem Ply.setK {base : Nat} {w : World} {p : Nat} {S : Sess} {ov hv : Value} {P : PL} {V : PV} (h : Ply base w p S ov hv P V) (i : Nat) (t : ByteArray) :
    Ply base (w.setCell ⟨V.gk, i, none⟩ (.string t)) p S ov hv (P.st { P.s with ts := P.s.ts.set i t }) V ∧ Fr base PT [] w (w.setCell ⟨V.gk, i, none⟩ (.string t)) := by
  have hF : Fr base [] [V.gk] w (w.setCell ⟨V.gk, i, none⟩ (.string t)) := (Fr.refl _ _ _ _).setCell (a := ⟨V.gk, i, none⟩) h.kept.kb (.inl (by simp)) _
  obtain ⟨cur, hc⟩ := h.kept.k.blk
  have hgp := h.kept.apart h.blk
  obtain ⟨r1, r2, r3, r4, r5, r6, r7, r8⟩ := h.rows.fr hF (fun b hb => by rw [List.mem_singleton.1 hb]; exact ⟨_, 9, hc, by decide⟩) (by simpa using h.kept.ka.symm) (fun g hg e => h.kept.kl (by rw [hg, List.mem_singleton.1 e])) (fun g hg e => h.kept.kbb (by rw [hg, List.mem_singleton.1 e]))
  refine ⟨⟨⟨hF.blk h.blk (.inr ⟨by simpa using hgp.symm, by simp⟩), h.bp, Nat.le_trans h.bw hF.size, ⟨r1, r2, r3, r4, r5, r6, r7, r8⟩, h.ino.lowB hF h.inl, h.inl⟩, ⟨h.kept.k.set i t, h.kept.kb, h.kept.ka, h.kept.kl, h.kept.kbb⟩⟩, ?_⟩
  exact (Fr.refl _ _ _ _).setCell (a := ⟨V.gk, i, none⟩) h.kept.kb (.inr (.inr ⟨_, 9, hc, by simp [PT]⟩)) _

theorem pTurn_c {nb base : Nat} {w : World} {p : Nat} {S : Sess} {ov hv : Value} {P : PL} {V : PV} (h : Ply base w p S ov hv P V) (hn : V.bs.length ≤ nb) (d : Int) (j : Nat) (u : ByteArray) (hj : (P.s.hsel : Int) + d = j) (hne : j ≠ P.s.hsel) (hlen : P.s.ts.length ≤ 1001) (hsl : P.s.hsel < P.s.ts.length) (hjl : j < P.s.ts.length) (hu : P.s.ts[j]? = some u) (hpu : Prn u) (hus : u.size ≤ 1000) :
    Calls Tryz.prog 97 #[.pointer (some ⟨p, 0, none⟩), .int .i64 d] w (PlyPost nb base p S ov hv (P.st (P.s.turned j u)) (.tuple #[]) w) := by
  have hC := plC h.blk
  obtain ⟨kc, hvk, hkc⟩ := h.kept.k.form
  have hbw := h.bw
  obtain ⟨g0, gf⟩ := h.kept.k.get P.s.hsel hsl
  have hgk := h.kept.k.lt
  have hgp := h.kept.apart h.blk
  have hcn := fun w => sCount_c u hpu (by omega) w
  have c11 := hC.c11
  have c17 := hC.c17
  have c18 := hC.c18
  have hlt := hC.lt
  rw [hvk] at c17
  have hat : (P.s.hsel : Int) < P.s.ts.length := by omega
  go_enter Tryz.func97, Tryz.ntmps97
  go_wp2_with (fail)
  have hS : (fun w' : World => w'.cell? ⟨p, 17, none⟩ = some (.slice (some ⟨V.gk, 0, none⟩) P.s.ts.length kc) ∧ w'.cell? ⟨p, 18, none⟩ = some (.int .i64 P.s.hsel) ∧ w'.cell? ⟨p, 11, none⟩ = some (.string P.s.t)) w.drew := ⟨c17, c18, c11⟩
  refine wp_region_plan [3, 7, 12] [14] (fun w' : World => w'.cell? ⟨p, 17, none⟩ = some (.slice (some ⟨V.gk, 0, none⟩) P.s.ts.length kc) ∧ w'.cell? ⟨p, 18, none⟩ = some (.int .i64 P.s.hsel) ∧ w'.cell? ⟨p, 11, none⟩ = some (.string P.s.t)) (.pure 0 (.pure 1 (.pure 2 (.take 3 (.pure 4 (.pure 5 (.pure 6 (.take 7 (.pure 8 (.pure 9 (.pure 10 (.pure 11 (.take 12 (.pure 13 (.go 14 .done))))))))))))))) hmix (by kernel_rfl) ?_
  repeat (first | (refine plan_move rfl rfl rfl ?_; (try simp only [Act.put, zq1, zq2, zq3, zq4, zq5, zq6])) | (refine plan_pure (v := ?_) rfl rfl ?_ ?_; rotate_left; (intro w'; go_simp <;> with_reducible rfl); (try simp only [Act.put, zq1, zq2, zq3, zq4, zq5, zq6])) | (refine plan_take (v := ?_) rfl hS rfl ?_ ?_; rotate_left; (intro w' hSw; (try dsimp only at hSw); go_simp <;> with_reducible rfl); (try simp only [Act.put, zq1, zq2, zq3, zq4, zq5, zq6])))
  refine plan_go rfl (by kernel_rfl) rfl (fun K hK => ?_)
  go_simp; refine hK _ _ ?_; clear hK K; (try simp only [Act.put, zq1, zq2, zq3, zq4, zq5, zq6])
  refine plan_done ?_
  obtain ⟨h1, hF1⟩ := h.setK P.s.hsel P.s.t
  replace h1 := h1.fr0 ((Fr.refl 0 [] [] _).drew)
  replace hF1 := hF1.drew
  clear c11 c17 c18 hlt hC hS g0 gf
  have hC := plC h1.blk
  have c18 : _ = some (Value.int .i64 P.s.hsel) := hC.c18
  have hlt := hC.lt
  have f18 := hC.f 18
  have hjw : IntKind.i64.wrap ((P.s.hsel : Int) + d) = (j : Int) := by rw [hj]; exact wrap_in (by omega) (by omega)
  go_wp2_with (fail)
  have h2 := h1.put 18 (.int .i64 j) (P' := P.st { P.s with ts := P.s.ts.set P.s.hsel P.s.t, hsel := j }) (V' := V) rfl rfl rfl rfl rfl ⟨rfl, rfl, rfl, rfl, rfl, rfl⟩ rfl rfl
  have hF2 := hF1.trans (h1.putF 18 (.int .i64 j))
  have hC2 := plC h2.blk
  have d17 : _ = some V.vk := hC2.c17
  have d18 : _ = some (Value.int .i64 (j : Nat)) := hC2.c18
  have dlt := hC2.lt
  obtain ⟨u0, uf⟩ := h2.kept.k.get j (by show j < (P.s.ts.set P.s.hsel P.s.t).length; simpa using hjl)
  have hul := h2.kept.k.lt
  rw [hvk] at d17
  have huj : (P.s.ts.set P.s.hsel P.s.t)[j]'(by simpa using hjl) = u := by
    rw [List.getElem_set_ne (by omega)]
    rw [List.getElem?_eq_getElem hjl] at hu
    exact Option.some.inj hu
  have u1 := u0.trans (congrArg (fun x => some (Value.string x)) huj)
  have hjl2 : (j : Int) < P.s.ts.length := by omega
  have hS : (fun w' : World => w'.cell? ⟨p, 17, none⟩ = some (.slice (some ⟨V.gk, 0, none⟩) P.s.ts.length kc) ∧ w'.cell? ⟨p, 18, none⟩ = some (.int .i64 j) ∧ w'.cell? ⟨V.gk, j, none⟩ = some (.string u)) _ := ⟨d17, d18, u1⟩
  replace h2 := h2.fr0 ((Fr.refl 0 [] [] _).drew)
  replace hF2 := hF2.drew
  clear u0 u1 d17 d18 hC hC2 c18 f18 hlt hF1
  refine wp_region_plan [4, 8, 10, 14, 18, 20] [21, 25] (fun w' : World => w'.cell? ⟨p, 17, none⟩ = some (.slice (some ⟨V.gk, 0, none⟩) P.s.ts.length kc) ∧ w'.cell? ⟨p, 18, none⟩ = some (.int .i64 j) ∧ w'.cell? ⟨V.gk, j, none⟩ = some (.string u)) (.pure 0 (.pure 1 (.pure 2 (.pure 3 (.take 4 (.pure 5 (.pure 6 (.pure 7 (.take 8 (.pure 9 (.take 10 (.pure 11 (.pure 12 (.pure 13 (.take 14 (.pure 15 (.pure 16 (.pure 17 (.take 18 (.pure 19 (.take 20 (.go 21 (.pure 22 (.pure 23 (.pure 24 (.go 25 .done)))))))))))))))))))))))))) hmix (by kernel_rfl) ?_
  repeat (first | (refine plan_move rfl rfl rfl ?_; (try simp only [Act.put, zq1, zq2, zq3, zq4, zq5, zq6])) | (refine plan_pure (v := ?_) rfl rfl ?_ ?_; rotate_left; (intro w'; go_simp <;> with_reducible rfl); (try simp only [Act.put, zq1, zq2, zq3, zq4, zq5, zq6])) | (refine plan_take (v := ?_) rfl hS rfl ?_ ?_; rotate_left; (intro w' hSw; (try dsimp only at hSw); go_simp <;> with_reducible rfl); (try simp only [Act.put, zq1, zq2, zq3, zq4, zq5, zq6])))
  refine plan_goS rfl rfl (fun K hK => ?_)
  go_simp; refine (hcn _).mono ?_; rintro e w3 ⟨rfl, hF3⟩; replace h2 := h2.fr0 hF3; replace hF2 := hF2.trans hF3.any; refine hK _ _ ⟨hF3.cell0 hS.1, hF3.cell0 hS.2.1, hF3.cell0 hS.2.2⟩ ?_; clear hK K; have hC3 := plC h2.blk; have e11 := hC3.c11; have e12 := hC3.c12; have ef11 := hC3.f 11; have ef12 := hC3.f 12; have elt := hC3.lt; (try simp only [Act.put, zq1, zq2, zq3, zq4, zq5, zq6])
  repeat (first | (refine plan_pure (v := ?_) rfl rfl ?_ ?_; rotate_left; (intro w'; go_simp <;> with_reducible rfl); (try simp only [Act.put, zq1, zq2, zq3, zq4, zq5, zq6])))
  refine plan_go rfl (by kernel_rfl) rfl (fun K hK => ?_)
  go_simp; refine hK _ _ ?_; clear hK K; (try simp only [Act.put, zq1, zq2, zq3, zq4, zq5, zq6])
  refine plan_done ?_
  go_end0
  have h3 := h2.put 11 (.string u) (P' := P.st { P.s with ts := P.s.ts.set P.s.hsel P.s.t, hsel := j, t := u }) (V' := V) rfl rfl rfl rfl rfl ⟨rfl, rfl, rfl, rfl, rfl, rfl⟩ rfl rfl
  have h4 := h3.put 12 (.int .i64 u.size) (P' := P.st (P.s.turned j u)) (V' := V) rfl rfl rfl rfl rfl ⟨rfl, rfl, rfl, rfl, rfl, rfl⟩ rfl rfl
  exact ⟨rfl, ⟨V, h4, hn⟩, (hF2.trans (h2.putF 11 _)).trans (h3.putF 12 _)⟩

/-- The suggestions are others. -/
theorem Ply.grow {base : Nat} {w w1 : World} {p : Nat} {S : Sess} {ov hv : Value} {P : PL} {V : PV} (h : Ply base w p S ov hv P V) (hF : Fr base [29] [] w w1) (v : Value) (ys : List Pk) (hq : QRow base w1 v ys) :
    Ply base (w1.setCell ⟨p, 15, none⟩ v) p S ov hv (P.st (P.s.wt ys)) { V with vo := v } ∧ Fr base PT [] w (w1.setCell ⟨p, 15, none⟩ v) := by
  have hB1 := hF.blk h.blk (.inr ⟨by simp, by simp⟩)
  have hp : Fr base [] [p] w1 (w1.setCell ⟨p, 15, none⟩ v) := fr_cell h.bp 15 v
  obtain ⟨a1, a2, a3⟩ := h.apart
  have hgp := h.kept.apart h.blk
  have e9 : (9 : Nat) ∉ [29] := by decide
  refine ⟨⟨⟨hB1.set 15 v, h.bp, Nat.le_trans h.bw (Nat.le_trans hF.size hp.size), ⟨hq.fr hp (by simp) (fun b hb => by rw [List.mem_singleton.1 hb]; exact ⟨_, 63, hB1, by decide⟩), (h.rows.a.fr hF (.inr ⟨by simp, e9⟩)).fr hp (.inr ⟨by simpa using a1, by simp⟩), h.rows.ab, (h.rows.l.fr hF (by simp) e9).fr hp (fun g hg => by simpa using a2 g hg) (by simp), (h.rows.b.fr hF (by simp) e9).fr hp (fun g hg => by simpa using a3 g hg) (by simp), h.rows.la, h.rows.ba, h.rows.lb⟩, (h.ino.lowB hF h.inl).lowB hp h.inl, h.inl⟩,
    ⟨(h.kept.k.fr hF (.inr ⟨by simp, e9⟩)).fr hp (.inr ⟨by simpa using hgp, by simp⟩), h.kept.kb, h.kept.ka, h.kept.kl, h.kept.kbb⟩⟩, ?_⟩
  have hF' : Fr base PT [] w w1 := hF.mono (by simp [PT]) (by simp)
  exact hF'.setCell (a := ⟨p, 15, none⟩) h.bp (.inr (.inr ⟨_, 63, hB1, by simp [PT]⟩)) v

/-- What stands in the loop over the suggestions. -/
def OfR (nb base : Nat) (w : World) (p : Nat) (S : Sess) (ov hv : Value) (P : PL) (word : ByteArray) (i : Nat) (w' : World) : Prop :=
  ∃ V', Ply base w' p S ov hv (P.st (P.s.wt (fit word (S.offs.take i)))) V' ∧ V'.bs.length ≤ nb ∧ Fr base PT [] w w'

/-- The completer is asked. -/
theorem pOffer_c {nb base : Nat} {w : World} {p : Nat} {S : Sess} {ov hv : Value} {P : PL} {V : PV} (h : Ply base w p S ov hv P V) (hn : V.bs.length ≤ nb) (hS : SessOk S) (ht : Prn P.s.t) (hs : P.s.t.size ≤ 1000000) (hk : P.s.k ≤ P.s.t.size) :
    Calls Tryz.prog 55 #[.pointer (some ⟨p, 0, none⟩)] w (PlyPost nb base p S ov hv (P.st (P.s.update (S.cp 0 0))) (.tuple #[]) w) := by
  have hwd := pWord_c h.blk (by have := hS.hseps; omega) ht hs hk
  obtain ⟨word, hword⟩ : ∃ word, P.s.t.extract (wordAt S.sep P.s.t P.s.k) P.s.k = word := ⟨_, rfl⟩
  have hwsz : word.size ≤ 1000000 := by rw [← hword, ByteArray.size_extract]; omega
  have hupd : P.s.update (S.cp 0 0) = P.s.wt (fit word S.offs) := by
    show PS.wt P.s (fit (P.s.t.extract (wordAt S.sep P.s.t P.s.k) P.s.k) S.offs) = _
    rw [hword]
  rw [hword] at hwd
  rw [hupd]
  clear hupd hword
  obtain ⟨oA, oc, rfl⟩ := h.ino.form
  go_enter Tryz.func55, Tryz.ntmps55
  go_wp2_with (fail)
  refine hwd.mono ?_
  rintro e w1 ⟨rfl, hF1⟩
  have h1 := h.fr0 hF1
  have hC := plC h1.blk
  have c15 := hC.c15
  have f15 := hC.f 15
  have hlt := hC.lt
  go_wp2_with (fail)
  obtain ⟨h2, hF2⟩ := h1.grow (Fr.refl _ _ _ _) (.slice none 0 0) [] (QRow.nil _ _)
  have hol := hS.hol
  have hos := hS.ho
  have h0 : OfR nb base w p S (.slice oA S.offs.length oc) hv P word 0 (w1.setCell ⟨p, 15, none⟩ (.slice none 0 0)) := ⟨_, h2, hn, hF1.any.trans hF2⟩
  clear h h1 hC c15 f15 hlt h2 hF2 hF1 hwd
  go_loopw [3] (fun v3 w' => ∃ i : Nat, i ≤ S.offs.length ∧ v3 = .int .i64 i ∧ OfR nb base w p S (.slice oA S.offs.length oc) hv P word i w') (fun v3 _ => S.offs.length - (intOf v3).toNat)
  case atStart => exact ⟨0, by omega, rfl, h0⟩
  clear h0
  obtain ⟨i, hi, rfl, V1, h1, hn1, hF1⟩ := hrel
  have hC := plC h1.blk
  have c1 := hC.c1
  have hlt := hC.lt
  by_cases hil : i < S.offs.length
  · have d1 : decide ((i : Int) < S.offs.length) = true := by simpa using hil
    have d2 : (i : Int) < S.offs.length := by omega
    obtain ⟨g, o, rfl, e1, e2⟩ : ∃ g o, oA = some ⟨g, o, none⟩ ∧ wr.cell? ⟨g, o + i * 2, none⟩ = some (.string S.offs[i].1) ∧ wr.cell? ⟨g, o + i * 2 + 1, none⟩ = some (.string S.offs[i].2) := by
      rcases h1.ino with ⟨e, -⟩ | ⟨b, o, c, e, hc⟩
      · rw [e] at hil; simp at hil
      · simp only [Value.slice.injEq] at e
        exact ⟨b, o, e.1, hc i hil⟩
    have hx := hos _ (List.getElem_mem hil)
    obtain ⟨x, hxx⟩ : ∃ x, S.offs[i] = x := ⟨_, rfl⟩
    have htk : S.offs.take (i + 1) = S.offs.take i ++ [x] := by rw [List.take_succ_eq_append_getElem hil, hxx]
    rw [hxx] at hx e1 e2
    have hgl := World.block_lt_of_cell? wr _ e1
    have hxs : x.1.size ≤ 40 := hx.2.1
    clear hxx
    cases hb : isPre word x.1 with
    | false =>
      have hft : fit word (S.offs.take (i + 1)) = fit word (S.offs.take i) := by
        unfold fit; rw [htk, List.filter_append]; simp [hb]
      by_cases hle : word.size ≤ x.1.size
      · have n1 : (word.size : Int) ≤ x.1.size := by omega
        have n2 : ((x.1.extract 0 word.size).toList == word.toList) = false := by unfold isPre at hb; simpa [hle] using hb
        have HFT := Lib.hid hft
        clear hft htk hb hle
        go_wp2_with (fail)
        go_roundw
        case rel => exact ⟨i + 1, by omega, by simp, V1, by rw [HFT.out]; exact h1, hn1, hF1⟩
        case measure => simp [intOf]; omega
      · have n1 : ¬ (word.size : Int) ≤ x.1.size := by omega
        have HFT := Lib.hid hft
        clear hft htk hb hle
        go_wp2_with (fail)
        go_roundw
        case rel => exact ⟨i + 1, by omega, by simp, V1, by rw [HFT.out]; exact h1, hn1, hF1⟩
        case measure => simp [intOf]; omega
    | true =>
      have hft : fit word (S.offs.take (i + 1)) = fit word (S.offs.take i) ++ [x] := by
        unfold fit; rw [htk, List.filter_append]; simp [hb]
      have hle : word.size ≤ x.1.size := by unfold isPre at hb; simp at hb; exact hb.1
      have n1 : (word.size : Int) ≤ x.1.size := by omega
      have n2 : ((x.1.extract 0 word.size).toList == word.toList) = true := by unfold isPre at hb; simpa [hle] using hb
      have HFT := Lib.hid hft
      have hfl : (fit word (S.offs.take i)).length ≤ 12 := by
        have := fit_len word (S.offs.take i)
        rw [List.length_take] at this
        omega
      clear hft htk hb hle
      have c15 := hC.c15
      have f15 := hC.f 15
      obtain ⟨vp, vc, hvo⟩ := h1.rows.o.form
      rw [hvo] at c15
      have hqr := h1.rows.o
      rw [hvo] at hqr
      obtain ⟨Y, hY⟩ : ∃ Y, wr.heap.size = Y := ⟨_, rfl⟩
      have hbw := h1.bw
      have hd2 : (i : Int) < S.offs.length := d2
      go_wp2_with (fail)
      have hS : (fun w' : World => w'.cell? ⟨p, 15, none⟩ = some (.slice vp (P.st (P.s.wt (fit word (S.offs.take i)))).s.tmp.length vc) ∧ w'.cell? ⟨p, 1, none⟩ = some (.slice (some ⟨g, o, none⟩) S.offs.length oc) ∧ w'.cell? ⟨g, o + i * 2, none⟩ = some (.string x.1) ∧ w'.cell? ⟨g, o + i * 2 + 1, none⟩ = some (.string x.2)) wr.drew := ⟨c15, c1, e1, e2⟩
      refine wp_region_plan [4, 9, 12] [13, 14, 17] (fun w' : World => w'.cell? ⟨p, 15, none⟩ = some (.slice vp (P.st (P.s.wt (fit word (S.offs.take i)))).s.tmp.length vc) ∧ w'.cell? ⟨p, 1, none⟩ = some (.slice (some ⟨g, o, none⟩) S.offs.length oc) ∧ w'.cell? ⟨g, o + i * 2, none⟩ = some (.string x.1) ∧ w'.cell? ⟨g, o + i * 2 + 1, none⟩ = some (.string x.2)) (.pure 0 (.pure 1 (.pure 2 (.pure 3 (.take 4 (.pure 5 (.pure 6 (.pure 7 (.pure 8 (.take 9 (.pure 10 (.pure 11 (.take 12 (.go 13 (.go 14 (.pure 15 (.pure 16 (.go 17 .done)))))))))))))))))) hmix (by kernel_rfl) ?_
      repeat (first | (refine plan_move rfl rfl rfl ?_; (try simp only [Act.put, zq1, zq2, zq3, zq4, zq5, zq6])) | (refine plan_pure (v := ?_) rfl rfl ?_ ?_; rotate_left; (intro w'; go_simp <;> with_reducible rfl); (try simp only [Act.put, zq1, zq2, zq3, zq4, zq5, zq6])) | (refine plan_take (v := ?_) rfl hS rfl ?_ ?_; rotate_left; (intro w' hSw; (try dsimp only at hSw); go_simp <;> with_reducible rfl); (try simp only [Act.put, zq1, zq2, zq3, zq4, zq5, zq6])))
      refine plan_goS rfl rfl (fun K hK => ?_)
      go_simp; have hFa : Fr 0 [] [] wr (wr.drew.alloc (.cells #[.string x.1, .string x.2] 29)) := (Fr.refl 0 [] [] wr).drew.alloc _; have hS := And.intro (hFa.cell0 c15) (And.intro (hFa.cell0 c1) (And.intro (hFa.cell0 e1) (hFa.cell0 e2))); refine hK _ _ hS ?_; clear hK K; (try simp only [Act.put, zq1, zq2, zq3, zq4, zq5, zq6])
      refine plan_go rfl (by kernel_rfl) rfl (fun K hK => ?_)
      refine wp_appq (y := x) (base := base) _ _ rfl rfl rfl (hqr.fr0 hFa) (Blk.new' (by first | rfl | rw [← hY]) _ _) (by show (fit word (S.offs.take i)).length ≤ _; omega) (Nat.le_trans hbw hFa.size) ?_; intro q5 m5 k5 w4 hV4 hF4; refine hK _ _ ?_; clear hK K; (try simp only [Act.put, zq1, zq2, zq3, zq4, zq5, zq6]); have hF5 : Fr base [29] [] wr w4 := (hFa.any.trans hF4); have hB4 := hF5.blk h1.blk (.inr ⟨by simp, by simp⟩); have f15 := hB4.frozen 15; have v15 : w4.cell? ⟨p, 15, none⟩ = some V1.vo := hB4.cell 15; have l15 := hB4.lt
      repeat (first | (refine plan_pure (v := ?_) rfl rfl ?_ ?_; rotate_left; (intro w'; go_simp <;> with_reducible rfl); (try simp only [Act.put, zq1, zq2, zq3, zq4, zq5, zq6])))
      refine plan_go rfl (by kernel_rfl) rfl (fun K hK => ?_)
      go_simp; refine hK _ _ ?_; clear hK K; (try simp only [Act.put, zq1, zq2, zq3, zq4, zq5, zq6])
      refine plan_done ?_
      go_wp2_with (fail)
      go_roundw
      case rel =>
        obtain ⟨h6, hF6⟩ := h1.grow hF5 (.slice q5 m5 k5) _ hV4
        refine ⟨i + 1, by omega, by simp, { V1 with vo := .slice q5 m5 k5 }, ?_, hn1, hF1.trans hF6⟩
        rw [HFT.out]
        exact h6
      case measure => simp [intOf]; omega
  · have d1 : decide ((i : Int) < S.offs.length) = false := by simpa using hil
    have d2 : ¬ (i : Int) < S.offs.length := by omega
    have e : S.offs.take i = S.offs := List.take_of_length_le (by omega)
    rw [e] at h1
    clear e
    go_wp2_with (fail)
    go_end0
    exact ⟨rfl, ⟨V1, h1, hn1⟩, hF1⟩
end Go.Proofs.YtiepopbmbgfhkaaGreat
