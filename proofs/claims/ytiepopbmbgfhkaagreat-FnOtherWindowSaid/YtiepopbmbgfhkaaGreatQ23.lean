/-
  A prompt is made of a session: begun.
-/
import Derived.Test.YtiepopbmbgfhkaaGreatQ22
namespace Go.Proofs.YtiepopbmbgfhkaaGreat
open Go.RowKit
open List renaming setIfInBounds_toArray → zq1, set_cons_zero → zq2, set_cons_succ → zq3
open Int renaming toNat_natCast → zq4, toNat_sub → zq5, toNat_zero → zq6
set_option maxHeartbeats 2000000
set_option maxRecDepth 20000
set_option linter.unusedVariables false
set_option linter.unusedSimpArgs false

/-- A slice of texts that can be read. -/
def TxIn (w : World) (v : Value) (ys : List ByteArray) : Prop :=
  (ys = [] ∧ (v = .slice none 0 0 ∨ ∃ a c, v = .slice (some a) 0 c)) ∨ ∃ b o c, v = .slice (some ⟨b, o, none⟩) ys.length c ∧ ∀ j (hj : j < ys.length), w.cell? ⟨b, o + j, none⟩ = some (.string ys[j])
/-- A slice of suggestions that can be read. -/
def PkIn (w : World) (v : Value) (ys : List Pk) : Prop :=
  (ys = [] ∧ (v = .slice none 0 0 ∨ ∃ a c, v = .slice (some a) 0 c)) ∨ ∃ b o c, v = .slice (some ⟨b, o, none⟩) ys.length c ∧ ∀ j (hj : j < ys.length), w.cell? ⟨b, o + j * 2, none⟩ = some (.string ys[j].1) ∧ w.cell? ⟨b, o + j * 2 + 1, none⟩ = some (.string ys[j].2)
theorem TxIn.fr {w w1 : World} {v : Value} {ys : List ByteArray} {base : Nat} (h : TxIn w v ys) (hF : Fr base [] [] w w1) : TxIn w1 v ys := by
  rcases h with h | ⟨b, o, c, h1, h2⟩
  · exact .inl h
  · exact .inr ⟨b, o, c, h1, fun j hj => hF.cell0 (h2 j hj)⟩
theorem PkIn.fr {w w1 : World} {v : Value} {ys : List Pk} {base : Nat} (h : PkIn w v ys) (hF : Fr base [] [] w w1) : PkIn w1 v ys := by
  rcases h with h | ⟨b, o, c, h1, h2⟩
  · exact .inl h
  · exact .inr ⟨b, o, c, h1, fun j hj => ⟨hF.cell0 (h2 j hj).1, hF.cell0 (h2 j hj).2⟩⟩
theorem TxIn.form {w : World} {v : Value} {ys : List ByteArray} (h : TxIn w v ys) : ∃ A c, v = .slice A ys.length c := by
  rcases h with ⟨rfl, h | ⟨a, c, h⟩⟩ | ⟨b, o, c, h1, h2⟩
  · exact ⟨none, 0, h⟩
  · exact ⟨_, c, h⟩
  · exact ⟨_, c, h1⟩
theorem PkIn.form {w : World} {v : Value} {ys : List Pk} (h : PkIn w v ys) : ∃ A c, v = .slice A ys.length c := by
  rcases h with ⟨rfl, h | ⟨a, c, h⟩⟩ | ⟨b, o, c, h1, h2⟩
  · exact ⟨none, 0, h⟩
  · exact ⟨_, c, h⟩
  · exact ⟨_, c, h1⟩
theorem add_off (b o j : Nat) : (⟨b, o, none⟩ : Addr).add j = ⟨b, o + j, none⟩ := by unfold Addr.add; split <;> simp_all

section
variable {o : Oper} {a : Act} {w : World} {K : Act → World → Prop} {Q : Exit → Act → World → Prop}
/-- 'append(v, ts...)': the new texts lie where they can be read. -/
theorem wp_appIn {base g : Nat} {v xv : Value} {xs ys : List ByteArray} (s x : Operand) (ho : o.op = .call { callee := .builtin .append, args := #[s, x], argTypes := #[23, 23] })
    (hs : a.eval s = v) (hx : a.eval x = xv) (hr : SRow w g v xs) (hg : base ≤ g) (hin : TxIn w xv ys) (hlen : xs.length + ys.length ≤ 1000000)
    (h : ∀ g' c' w', SRow w' g' (.slice (some ⟨g', 0, none⟩) (xs.length + ys.length) c') (xs ++ ys) → (g' = g ∨ g' = w.heap.size) → Fr base [] [g] w w' → K (a.put o.dst (.slice (some ⟨g', 0, none⟩) (xs.length + ys.length) c')) w') : o.wp Tryz.prog a w K Q := by
  obtain ⟨i, h1, h2, h3, h4⟩ := info9
  have hlt := hr.lt
  have hown := hr.own hg
  have hv : v.ownBlock = some g := by obtain ⟨cap, rfl, -⟩ := hr.form; rfl
  rcases hin with ⟨rfl, rfl | ⟨ad, c, rfl⟩⟩ | ⟨b, off, c, rfl, hd⟩
  · have hrun := run_append_owned_none (P := Tryz.prog) (w := w) base 23 o.type 9 i 1 (by kernel_rfl) h1 v xs.length _ hown
    obtain ⟨cap, rfl, hcap⟩ := hr.form
    have := h g cap w (by simpa using hr) (.inl rfl) (Fr.refl _ _ _ _)
    unfold Oper.wp execOp
    simp only [ho, resolve, invoke, builtin, Sem.run_bind, Sem.run_pure, Result.andThen_ok, List.map_toArray, List.map_cons, List.map_nil, hs, hx, hrun]
    exact this
  · obtain ⟨v', w', hrun, hown', hgr, hnil, hat⟩ := run_append_own_at (P := Tryz.prog) w base 23 o.type 9 i (.string .empty) 1 16 (by kernel_rfl) h1 h2 h3 h4 rfl (by decide) v xs.length _ hown
      ad 0 c [] (by simp) (fun j u hj => by cases hj)
      (fun u hu => by cases hu) (by simp only [maxLen]; omega) (by omega) (by omega)
    unfold Oper.wp execOp
    simp only [ho, resolve, invoke, builtin, Sem.run_bind, Sem.run_pure, Result.andThen_ok, List.map_toArray, List.map_cons, List.map_nil, hs, hx, hrun]
    have hF : Fr base [] [g] w w' := (Fr.refl base [] [g] w).grown hgr fun k hk => by
      rw [hv] at hk
      simp only [Option.some.injEq] at hk
      subst hk
      exact ⟨hg, .inl (by simp)⟩
    rcases hat with e | e
    · have hS : SRow w' g v' (xs ++ []) := SRow.of_own hown' (by rw [e]; exact hv) (by simp)
      obtain ⟨c', rfl, -⟩ := hS.form
      rw [List.length_append] at hS ⊢
      exact h g c' w' hS (.inl rfl) hF
    · have hS : SRow w' w.heap.size v' (xs ++ []) := SRow.of_own hown' e (by simp)
      obtain ⟨c', rfl, -⟩ := hS.form
      rw [List.length_append] at hS ⊢
      exact h _ c' w' hS (.inr rfl) hF
  · obtain ⟨v', w', hrun, hown', hgr, hnil, hat⟩ := run_append_own_at (P := Tryz.prog) w base 23 o.type 9 i (.string .empty) 1 16 (by kernel_rfl) h1 h2 h3 h4 rfl (by decide) v xs.length _ hown
      ⟨b, off, none⟩ ys.length c (ys.map Value.string) (by simp) (fun j u hj => by
        rw [add_off]
        have hj' : j < ys.length := by have := (List.getElem?_eq_some_iff.1 hj).1; simpa using this
        rw [hd j hj']
        simp [hj'] at hj
        rw [hj])
      (fun u hu => by simp only [List.mem_map] at hu; obtain ⟨t, -, rfl⟩ := hu; rfl) (by simp only [maxLen]; omega) (by omega) (by omega)
    unfold Oper.wp execOp
    simp only [ho, resolve, invoke, builtin, Sem.run_bind, Sem.run_pure, Result.andThen_ok, List.map_toArray, List.map_cons, List.map_nil, hs, hx, hrun]
    have hF : Fr base [] [g] w w' := (Fr.refl base [] [g] w).grown hgr fun k hk => by
      rw [hv] at hk
      simp only [Option.some.injEq] at hk
      subst hk
      exact ⟨hg, .inl (by simp)⟩
    rcases hat with e | e
    · have hS : SRow w' g v' (xs ++ ys) := SRow.of_own hown' (by rw [e]; exact hv) (by simp)
      obtain ⟨c', rfl, -⟩ := hS.form
      rw [List.length_append] at hS ⊢
      exact h g c' w' hS (.inl rfl) hF
    · have hS : SRow w' w.heap.size v' (xs ++ ys) := SRow.of_own hown' e (by simp)
      obtain ⟨c', rfl, -⟩ := hS.form
      rw [List.length_append] at hS ⊢
      exact h _ c' w' hS (.inr rfl) hF
end

theorem Fr.cellB {base : Nat} {ts bs : List Nat} {w w1 : World} (hF : Fr base ts bs w w1) {a : Addr} {v : Value} (h : w.cell? a = some v) (hb : a.block < base) : w1.cell? a = some v := by
  have hlt := World.block_lt_of_cell? w a h
  rw [World.cell?_of_block (w := w) (hF.keep a.block hlt (.inl hb))]
  exact h

/-- A session. -/
structure Sess where
  pre : ByteArray
  most : Nat
  cols : Nat
  down : Bool
  start : Bool
  sep : ByteArray
  begun : ByteArray
  plain : Bool
  exit : ByteArray
  offs : List Pk
  hist : List ByteArray

def Sess.cells (S : Sess) (ov hv : Value) : Array Value :=
  #[.string S.pre, ov, .int .i64 S.most, .int .i64 S.cols, .bool S.down, .bool S.start, .string S.sep, hv, .string S.begun, .bool S.plain, .string S.exit]

structure SbC (w : World) (sb : Nat) (S : Sess) (ov hv : Value) : Prop where
  c0 : w.cell? ⟨sb, 0, none⟩ = some (.string S.pre)
  c2 : w.cell? ⟨sb, 2, none⟩ = some (.int .i64 S.most)
  c3 : w.cell? ⟨sb, 3, none⟩ = some (.int .i64 S.cols)
  c4 : w.cell? ⟨sb, 4, none⟩ = some (.bool S.down)
  c5 : w.cell? ⟨sb, 5, none⟩ = some (.bool S.start)
  c6 : w.cell? ⟨sb, 6, none⟩ = some (.string S.sep)
  c7 : w.cell? ⟨sb, 7, none⟩ = some hv
  c8 : w.cell? ⟨sb, 8, none⟩ = some (.string S.begun)
  c9 : w.cell? ⟨sb, 9, none⟩ = some (.bool S.plain)
  c10 : w.cell? ⟨sb, 10, none⟩ = some (.string S.exit)
  lt : sb < w.heap.size
theorem sbC {w : World} {sb : Nat} {S : Sess} {ov hv : Value} (h : Blk w sb (S.cells ov hv) 25) : SbC w sb S ov hv :=
  ⟨h.cell 0, h.cell 2, h.cell 3, h.cell 4, h.cell 5, h.cell 6, h.cell 7, h.cell 8, h.cell 9, h.cell 10, h.lt⟩

structure SessOk (S : Sess) : Prop where
  hpre : Prn S.pre
  hpres : S.pre.size ≤ 20
  m1 : 1 ≤ S.most
  m2 : S.most ≤ 10
  c1 : 13 ≤ S.cols
  c2 : S.cols ≤ 120
  hsep : Prn S.sep
  hseps : S.sep.size ≤ 8
  hb : Prn S.begun
  hbs : S.begun.size ≤ 60
  he : Prn S.exit
  hes : S.exit.size ≤ 20
  ho : ∀ x ∈ S.offs, Prn x.1 ∧ x.1.size ≤ 40 ∧ Prn x.2 ∧ x.2.size ≤ 40 ∧ x.1.size ≠ 0
  hol : S.offs.length ≤ 12
  hh : ∀ x ∈ S.hist, Prn x ∧ x.size ≤ 60
  hhl : S.hist.length ≤ 8

def Sess.mode (S : Sess) : ByteArray := if S.plain then commonT else emacsT
def Sess.cp (S : Sess) (sb oc : Nat) : Cp := ⟨sb, oc, S.most, S.sep, S.start, S.offs⟩
def Sess.ex (S : Sess) (sb : Nat) : Value := if S.exit = .empty then .nilFunc else .func (.func 42) #[] #[.pointer (some ⟨sb, 0, none⟩)]
/-- How a session stands at first. -/
def Sess.ps (S : Sess) : PS := ⟨S.begun, S.begun.size, S.hist, S.hist ++ [.empty], S.hist.length, -1, 0, [], []⟩

/-- What 'begun' leaves. -/
def BegunPost (N : Nat) (S : Sess) (x : Nat) (v1 v2 v3 : Value) (w : World) (e : Ending) (w' : World) : Prop :=
  ∃ I D, e = .returned (.pointer (some ⟨I.p, 0, none⟩)) ∧ St N w' I D ∧ D.ps = S.ps ∧ D.n = 0 ∧ I.pre = S.pre ∧ I.cols = S.cols ∧ I.q = S.cp I.q.sb I.q.oc ∧ I.mode = S.mode ∧ I.down = S.down ∧ I.et = S.exit ∧ I.x = x ∧ I.v1 = v1 ∧ I.v2 = v2 ∧ I.v3 = v3 ∧ Fr N TT [] w w'

theorem Bys.low {base base' : Nat} {w : World} {v : Value} {l : List UInt8} (h : Bys base w v l) (hb : base' ≤ base) : Bys base' w v l := by
  obtain ⟨h1, h2 | ⟨g, cap, cur, e, hb', r⟩⟩ := h
  · exact ⟨h1, .inl h2⟩
  · exact ⟨h1, .inr ⟨g, cap, cur, e, by omega, r⟩⟩
theorem Rn.low {base base' : Nat} {w : World} {r o n : Nat} {pre : ByteArray} {cols : Nat} (h : Rn base w r o pre cols n) (h1 : 1 < base') (hb : base' ≤ base) : Rn base' w r o pre cols n := by
  obtain ⟨e1, e2, w0, w1, w2, v, l, w3, w4, w5⟩ := h
  exact ⟨by omega, e2, h1, by omega, w2, v, l, w3, w4.low hb, w5⟩
theorem Hist.low {base base' : Nat} {w : World} {h gh gt : Nat} {hs ts : List ByteArray} {sel : Nat} (H : Hist base w h gh gt hs ts sel) (hb : base' ≤ base) : Hist base' w h gh gt hs ts sel := by
  obtain ⟨e1, e2, e3, r⟩ := H
  exact ⟨by omega, by omega, by omega, r⟩
theorem Made.low {N N' : Nat} {w : World} {p b r o L h gh gt c lb sb oc most cols : Nat} {pre : ByteArray} (M : Made N w p b r o L h gh gt c lb sb oc most pre cols) (h1 : 1 < N') (hb : N' ≤ N) : Made N' w p b r o L h gh gt c lb sb oc most pre cols := by
  obtain ⟨mp, np, mr, mb, mh, mc, nc, a1, a2⟩ := M
  exact ⟨mp, by omega, mr.low h1 hb, mb.base hb, mh.low hb, mc, by omega, a1, a2⟩

theorem Made.fr0 {N : Nat} {w w1 : World} {p b r o L h gh gt c lb sb oc most cols : Nat} {pre : ByteArray} {base : Nat} (M : Made N w p b r o L h gh gt c lb sb oc most pre cols) (hF : Fr base [] [] w w1) : Made N w1 p b r o L h gh gt c lb sb oc most pre cols := by
  obtain ⟨mp, np, mr, mb, mh, mc, nc, a1, a2⟩ := M
  exact ⟨hF.blk0 mp, np, hF.rn0 mr, hF.buf0 mb, mh.fr0 hF, hF.blk0 mc, nc, a1, a2⟩
theorem TxIn.low {w w1 : World} {v : Value} {ys : List ByteArray} {base : Nat} {ts bs : List Nat} (h : TxIn w v ys) (hF : Fr base ts bs w w1) (hb : w.heap.size = base) : TxIn w1 v ys := by
  rcases h with h | ⟨b, o, c, h1, h2⟩
  · exact .inl h
  · exact .inr ⟨b, o, c, h1, fun j hj => hF.cellB (h2 j hj) (by have := World.block_lt_of_cell? w _ (h2 j hj); omega)⟩

/-- There is room, and the table can be read. -/
structure base_ok (N : Nat) (w : World) : Prop where
  h1 : 1 < N
  h2 : N ≤ w.heap.size
  ht : Tab w

theorem begun_c {N : Nat} {w : World} {S : Sess} {ov hv v1 v2 v3 : Value} {x : Nat} (hS0 : SessOk S) (hN1 : 1 < N) (hN : N ≤ x) (ht : Tab w) (hO : PkIn w ov S.offs) (hH : TxIn w hv S.hist) (hx : Blk w x #[.slice none 0 0, v1, v2, v3] 31) :
    Calls Tryz.prog 21 #[.agg (S.cells ov hv), .pointer (some ⟨x, 0, none⟩)] w (BegunPost N S x v1 v2 v3 w) := by
  obtain ⟨M, hM⟩ : ∃ M, w.heap.size = M := ⟨_, rfl⟩
  have hxl := hx.lt
  obtain ⟨oA, oc, rfl⟩ := hO.form
  obtain ⟨hA, hcc, rfl⟩ := hH.form
  unfold Sess.cells
  have hol := hS0.hol
  go_enter Tryz.func21, Tryz.ntmps21
  go_wp2_with (fail)
  have hSB : Blk (((w.alloc (.cells (S.cells (.slice oA S.offs.length oc) (.slice hA S.hist.length hcc)) 25)).alloc (.cells #[.pointer (some ⟨x, 0, none⟩)] 51)).alloc (.cells #[.slice none 0 0] 72)) M (S.cells (.slice oA S.offs.length oc) (.slice hA S.hist.length hcc)) 25 := ((Blk.new' (w := w) hM.symm _ _).alloc _).alloc _
  have hLB : Blk (((w.alloc (.cells (S.cells (.slice oA S.offs.length oc) (.slice hA S.hist.length hcc)) 25)).alloc (.cells #[.pointer (some ⟨x, 0, none⟩)] 51)).alloc (.cells #[.slice none 0 0] 72)) (M + 1) #[.pointer (some ⟨x, 0, none⟩)] 51 := (Blk.new' (by simp [hM]) _ _).alloc _
  have hOC : Blk (((w.alloc (.cells (S.cells (.slice oA S.offs.length oc) (.slice hA S.hist.length hcc)) 25)).alloc (.cells #[.pointer (some ⟨x, 0, none⟩)] 51)).alloc (.cells #[.slice none 0 0] 72)) (M + 1 + 1) #[.slice none 0 0] 72 := Blk.new' (by simp [hM]) _ _
  have hF0 : Fr M [73] [] w (((w.alloc (.cells (S.cells (.slice oA S.offs.length oc) (.slice hA S.hist.length hcc)) 25)).alloc (.cells #[.pointer (some ⟨x, 0, none⟩)] 51)).alloc (.cells #[.slice none 0 0] 72)) := (((Fr.refl M [73] [] w).alloc _).alloc _).alloc _
  unfold Sess.cells at hSB hLB hOC hF0
  go_loopw [16] (fun v16 w' => ∃ i : Nat, i ≤ S.offs.length ∧ v16 = .int .i64 i ∧ Fr M [73] [] w w' ∧ Blk w' M (S.cells (.slice oA S.offs.length oc) (.slice hA S.hist.length hcc)) 25 ∧ Blk w' (M + 1) #[.pointer (some ⟨x, 0, none⟩)] 51 ∧ ∃ v, Blk w' (M + 1 + 1) #[v] 72 ∧ PRow M w' v (S.offs.take i)) (fun v16 _ => S.offs.length - (intOf v16).toNat)
  case atStart => exact ⟨0, by omega, rfl, hF0, hSB, hLB, _, hOC, PRow.nil _ _⟩
  case round =>
    clear hSB hLB hOC hF0
    obtain ⟨i, hi, rfl, hF, hSB, hLB, v, hOC, hP⟩ := hrel
    obtain ⟨pv, nv, kv, rfl⟩ := hP.form'
    by_cases hlt : i < S.offs.length
    · have hq : ∃ b o, oA = some ⟨b, o, none⟩ ∧ w.cell? ⟨b, o + i * 2, none⟩ = some (.string S.offs[i].1) ∧ w.cell? ⟨b, o + i * 2 + 1, none⟩ = some (.string S.offs[i].2) := by
        rcases hO with ⟨e, -⟩ | ⟨b, o, c, e, hc⟩
        · rw [e] at hlt; simp at hlt
        · simp only [Value.slice.injEq] at e
          exact ⟨b, o, e.1, hc i hlt⟩
      obtain ⟨ob, oo, rfl, e1, e2⟩ := hq
      have hob : ob < M := by have := World.block_lt_of_cell? w _ e1; rw [hM] at this; exact this
      have e1' := hF.cellB e1 hob
      have e2' := hF.cellB e2 hob
      have d1 : decide ((i : Int) < S.offs.length) = true := by simpa using hlt
      have d2 : (i : Int) < S.offs.length := by omega
      obtain ⟨x0, xf⟩ := hOC.c1
      have xl := hOC.lt
      have hl5 : (S.offs.take i).length ≤ 1000000 := by rw [List.length_take]; omega
      have hA2 : Fr 0 [] [] wr ((wr.alloc (.cells #[.string S.offs[i].1, .string S.offs[i].2] 29)).alloc (.cells #[.string S.offs[i].1, .string S.offs[i].2] 73)) := ((Fr.refl 0 [] [] wr).alloc _).alloc _
      go_wp2_with (first | (refine wpList_plain rfl (fun K hK => ?_); refine wp_appp (y := S.offs[i]) _ _ rfl rfl rfl (hP.fr0 hA2) (Blk.new' (by simp) _ _) hl5 (by simp; omega) ?_; intro q5 m5 k5 w4 hV4 hF4; refine hK _ _ ?_; clear hK K; have hOC4 := hF4.blk (hA2.blk0 hOC) (.inr ⟨by simp, by simp⟩); have hSB4 := hF4.blk (hA2.blk0 hSB) (.inr ⟨by simp, by simp⟩); have hLB4 := hF4.blk (hA2.blk0 hLB) (.inr ⟨by simp, by simp⟩); obtain ⟨z0, zf⟩ := hOC4.c1; have zl := hOC4.lt))
      have hFb : Fr M [73] [] w w4 := (hF.ext hA2).into hF4 (by simp) (by simp)
      go_roundw
      case rel =>
        refine ⟨i + 1, by omega, by simp, hFb.setCell (a := ⟨M + 1 + 1, 0, none⟩) (by show M ≤ M + 1 + 1; omega) (.inr (.inl (by show w.heap.size ≤ M + 1 + 1; omega))) _, hSB4.other (a := ⟨M + 1 + 1, 0, none⟩) (by show M ≠ M + 1 + 1; omega) _, hLB4.other (a := ⟨M + 1 + 1, 0, none⟩) (by show M + 1 ≠ M + 1 + 1; omega) _, _, hOC4.set 0 _, ?_⟩
        rw [List.take_succ_eq_append_getElem hlt]
        exact hV4.fr ((Fr.refl M [] [M + 1 + 1] w4).setCell (a := ⟨M + 1 + 1, 0, none⟩) (by show M ≤ M + 1 + 1; omega) (.inl (by simp)) _) (by simp) (fun b hb => by simp only [List.mem_singleton] at hb; subst hb; exact ⟨_, 72, hOC4, by decide⟩)
      case measure => simp [intOf]; omega
    · have d1 : decide ((i : Int) < S.offs.length) = false := by simpa using hlt
      have d2 : ¬ (i : Int) < S.offs.length := by omega
      have hi2 : i = S.offs.length := by omega
      have e0 : S.offs.take i = S.offs := by rw [hi2]; simp
      rw [e0] at hP
      clear hi2 e0 hlt
      have HP := Lib.hid hP
      obtain ⟨c0, c2, c3, c4, c5, c6, c7, c8, c9, c10, sl⟩ := sbC hSB
      have hm1 := hS0.m1
      have hm2 := hS0.m2
      have hc1 := hS0.c1
      have hc2 := hS0.c2
      have u1 : IntKind.u16.wrap (S.most : Int) = S.most := by unfold IntKind.wrap; simp [IntKind.bits, IntKind.signed]; omega
      have u2 : IntKind.u16.wrap (S.cols : Int) = S.cols := by unfold IntKind.wrap; simp [IntKind.bits, IntKind.signed]; omega
      have hbx : base_ok N wr := ⟨hN1, by have := hF.size; omega, hF.tab (.inl (by omega)) ht⟩
      obtain ⟨pl, hpl⟩ : ∃ pl, S.plain = pl := ⟨_, rfl⟩
      rw [hpl] at c9
      obtain ⟨em, hem⟩ : ∃ em, S.exit.toList.isEmpty = em := ⟨_, rfl⟩
      have hem2 : em = true → S.exit.toList = [] := fun e => by rw [← hem] at e; simpa using e
      have hem3 : em = false → S.exit.toList ≠ [] := fun e e2 => by rw [e2] at hem; rw [← hem] at e; simp at e
      have hemx : em = decide (S.exit = .empty) := by
        rw [← hem, str_empty]
        refine decide_eq_decide.2 ⟨fun h => ?_, fun h => by rw [h]; rfl⟩
        apply ByteArray.ext; apply Array.eq_empty_of_size_eq_zero; exact h
      have hmode : S.mode = if pl then commonT else emacsT := by unfold Sess.mode; rw [hpl]
      have hexv : S.ex M = if em then .nilFunc else .func (.func 42) #[] #[.pointer (some ⟨M, 0, none⟩)] := by
        unfold Sess.ex; rw [hemx]; simp
      have HME := Lib.hid (And.intro hmode (And.intro hexv hemx))
      clear hmode hexv hemx hpl
      have hH1 := hH
      have hxr := hF.blk hx (.inl (by omega))
      cases pl <;> cases em
      all_goals
        first | (have hE2 := hem2 rfl) | (have hE2 := hem3 rfl)
        clear hem2 hem3
        go_wp2_with (fail)
        refine (begin_c wr (by have := hbx.h1; have := hbx.h2; omega) hbx.ht (M + 1) M (M + 1 + 1) S.most S.cols S.pre).mono ?_
        rintro e w1 ⟨⟨p, b, r, o, L, h, gh, gt, c, rfl, hMd⟩, hF1⟩
        have hMd := hMd.low hbx.h1 hbx.h2
        have hSB1 := hF1.blk0 hSB
        obtain ⟨c0, c2, c3, c4, c5, c6, c7, c8, c9, c10, sl⟩ := sbC hSB1
        go_wp2_with (fail)
        have hFW : Fr N [] [] w1 (w1.drew.alloc (.cells #[] 9)) := ((Fr.refl N [] [] w1).drew).alloc _
        have hSBW := sbC (hFW.blk0 hSB1)
        have hGW : SRow (w1.drew.alloc (.cells #[] 9)) w1.heap.size (.slice (some ⟨w1.heap.size, 0, none⟩) 0 0) [] := ⟨0, #[], rfl, Blk.new' rfl _ _, by simp, by simp [maxLen], rfl, rfl⟩
        have hGN : N ≤ w1.heap.size := by have := hF1.size; have := hbx.h2; omega
        have hHW : TxIn (w1.drew.alloc (.cells #[] 9)) (.slice hA S.hist.length hcc) S.hist := ((hH.low hF hM).fr hF1).fr hFW
        have hS : (fun w' : World => w'.cell? ⟨M, 4, none⟩ = some (.bool S.down) ∧ w'.cell? ⟨M, 5, none⟩ = some (.bool S.start) ∧ w'.cell? ⟨M, 6, none⟩ = some (.string S.sep) ∧ w'.cell? ⟨M, 7, none⟩ = some (.slice hA S.hist.length hcc) ∧ w'.cell? ⟨M, 8, none⟩ = some (.string S.begun)) w1.drew := ⟨c4, c5, c6, c7, c8⟩
        refine wp_region_plan [2, 4, 6, 9, 12] [7, 10, 15] (fun w' : World => w'.cell? ⟨M, 4, none⟩ = some (.bool S.down) ∧ w'.cell? ⟨M, 5, none⟩ = some (.bool S.start) ∧ w'.cell? ⟨M, 6, none⟩ = some (.string S.sep) ∧ w'.cell? ⟨M, 7, none⟩ = some (.slice hA S.hist.length hcc) ∧ w'.cell? ⟨M, 8, none⟩ = some (.string S.begun)) (.pure 0 (.pure 1 (.take 2 (.pure 3 (.take 4 (.pure 5 (.take 6 (.pure 8 (.take 9 (.pure 11 (.take 12 (.pure 13 (.pure 14 (.go 7 (.go 10 (.go 15 .done)))))))))))))))) hmix (by kernel_rfl) ?_
        repeat (first | (refine plan_move rfl rfl rfl ?_; (try simp only [Act.put, zq1, zq2, zq3, zq4, zq5, zq6])) | (refine plan_pure (v := ?_) rfl rfl ?_ ?_; rotate_left; (intro w'; go_simp <;> with_reducible rfl); (try simp only [Act.put, zq1, zq2, zq3, zq4, zq5, zq6])) | (refine plan_take (v := ?_) rfl hS rfl ?_ ?_; rotate_left; (intro w' hSw; (try dsimp only at hSw); go_simp <;> with_reducible rfl); (try simp only [Act.put, zq1, zq2, zq3, zq4, zq5, zq6])))
        refine plan_goS rfl rfl (fun K hK => ?_)
        go_simp; refine hK _ _ ⟨hSBW.c4, hSBW.c5, hSBW.c6, hSBW.c7, hSBW.c8⟩ ?_; clear hK K; (try simp only [Act.put, zq1, zq2, zq3, zq4, zq5, zq6])
        refine plan_goS rfl rfl (fun K hK => ?_)
        refine wp_appIn (base := N) (g := w1.heap.size) (xs := []) (ys := S.hist) _ _ rfl rfl rfl hGW hGN hHW (by simp; have := hS0.hhl; omega) ?_; intro g' c' w2 hS2 hg2 hF2; have hF12 : Fr N [] [] w1 w2 := hFW.step hF2 (by simp) (fun y hy => .inr (.inl (by simp only [List.mem_singleton] at hy; omega))); have hSB2 := sbC (hF12.blk0 hSB1); refine hK _ _ ⟨hSB2.c4, hSB2.c5, hSB2.c6, hSB2.c7, hSB2.c8⟩ ?_; clear hK K; have hS2' : SRow w2 g' (.slice (some ⟨g', 0, none⟩) S.hist.length c') S.hist := (by simpa using hS2); have hgN' : N ≤ g' ∧ L ≠ g' := (by have e1 := hMd.buf.cells.2.2.2.1; have e2 : w1.heap.size ≤ g' := (by rcases hg2 with e | e; exact Nat.le_of_eq e.symm; (rw [e]; exact hFW.size)); omega); (try simp only [Act.put, zq1, zq2, zq3, zq4, zq5, zq6])
        refine plan_go rfl (by kernel_rfl) rfl (fun K hK => ?_)
        go_simp; refine (options_c (hMd.fr0 hF12) hS2' hgN'.1 hgN'.2 (by have := hS0.hhl; omega) hS0.hb (by have := hS0.hbs; omega) (by first | exact .inl rfl | exact .inr ⟨_, _, _, rfl⟩)).mono ?_; rintro e w3 ⟨rfl, ⟨gt', hT⟩, hF3⟩; refine hK _ _ ?_; clear hK K; (try simp only [Act.put, zq1, zq2, zq3, zq4, zq5, zq6])
        refine plan_done ?_
        go_wp2
        go_ret
        have hF03 : Fr N TO [] w1 w3 := hF12.any.trans hF3
        have hk1 : ∀ (y : Nat) (cs : Array Value) (t : TypeId), Blk w1 y cs t → t ∉ TO → Blk w3 y cs t := fun y cs t hy ht => hF03.blk hy (.inr ⟨by simp, ht⟩)
        obtain ⟨t1, t2, t3, t4, t5, t6, t7, t8, t9⟩ := hT
        have hMN : N ≤ M := by omega
        have hCp : Cpl N w3 M (M + 1 + 1) S.sep S.offs := ⟨⟨_, hk1 _ _ _ (hF1.blk0 hSB) (by decide), rfl⟩, _, hk1 _ _ _ (hF1.blk0 hOC) (by decide), ((HP.out.fr0 hF1).fr hF03 (by decide) (by simp)).lower hMN⟩
        have hX3 := hk1 _ _ _ (hF1.blk0 hxr) (by decide)
        have hL3 := hk1 _ _ _ (hF1.blk0 hLB) (by decide)
        have hSB3 := hk1 _ _ _ (hF1.blk0 hSB) (by decide)
        refine ⟨⟨p, r, o, c, h, M + 1, x, S.pre, S.cols, S.cp M (M + 1 + 1), S.mode, S.down, S.ex M, S.exit, v1, v2, v3⟩, ⟨b, L, g', gt', .slice none 0 0, 0, -1, 0, [], S.begun, S.begun.size, S.hist, S.hist ++ [.empty], S.hist.length, []⟩, rfl, ⟨?_, t2, ⟨t3, t4, ⟨t7, hCp, _, t6, PRow.nil _ _⟩⟩, t5, ⟨hN, hL3, hX3, ⟨rfl, .inl ⟨rfl, rfl⟩⟩⟩, ?_, t8, t9, fun g hg => by simp [Value.ownBlock] at hg⟩, rfl, rfl, rfl, rfl, rfl, rfl, rfl, rfl, rfl, rfl, rfl, rfl, ?_⟩
        · show Blk w3 p (prCells b r (M + 1) h c S.mode S.down (S.ex M)) 96
          rw [HME.out.1, HME.out.2.1]
          exact t1
        · show Exi w3 (S.ex M) S.exit
          have hx2 := HME.out.2.1
          have hx3 := HME.out.2.2
          rw [hx2]
          first
            | exact .inl ⟨rfl, by simpa using hx3.symm⟩
            | exact .inr ⟨M, _, rfl, hSB3, rfl, by simpa using hx3.symm⟩
        · have hTO : TO ⊆ TT := by decide
          exact ((Fr.fresh (base := N) (hF.mono (List.Subset.refl _) (List.Subset.refl _) |> fun h => hM ▸ h)).any.trans hF1.any).trans ((Fr.refl N TT [] w1).into hF03 hTO (by simp))
end Go.Proofs.YtiepopbmbgfhkaaGreat
