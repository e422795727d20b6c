/-
  What a prompt makes of bytes: the model, and the word for it.
-/
import Derived.Test.YtiepopbmbgfhkaaGreatB20
namespace Go.Proofs.YtiepopbmbgfhkaaGreat
open Go.RowKit
set_option maxHeartbeats 2000000
set_option maxRecDepth 20000
set_option linter.unusedVariables false
set_option linter.unusedSimpArgs false

/-- A prompt as it stands: its line and cursor, its history, its suggestions, the lines that were executed. -/
structure PS where
  t : ByteArray
  k : Nat
  hs : List ByteArray
  ts : List ByteArray
  hsel : Nat
  sel : Int
  vs : Int
  tmp : List Pk
  lines : List ByteArray

def Dyn.ps (D : Dyn) : PS := ⟨D.t, D.k, D.hs, D.ts, D.hsel, D.sel, D.vs, D.tmp, D.lines⟩

namespace PS
def next (s : PS) (q : Cp) : PS := { s with sel := (nextS q s.sel s.vs s.tmp).1, vs := (nextS q s.sel s.vs s.tmp).2.1, tmp := (nextS q s.sel s.vs s.tmp).2.2 }
def prev (s : PS) (q : Cp) : PS := { s with sel := (prevS q s.sel s.vs s.tmp).1, vs := (prevS q s.sel s.vs s.tmp).2.1, tmp := (prevS q s.sel s.vs s.tmp).2.2 }
def text (s : PS) (i : Nat) : ByteArray := ((s.tmp[i]?).map Prod.fst).getD .empty
def chosen (s : PS) (q : Cp) : PS :=
  if s.sel = -1 then { s with vs := 0, tmp := q.offs }
  else { s with t := chosenT q.sep s.t s.k (s.text s.sel.toNat), k := wordAt q.sep s.t s.k + (s.text s.sel.toNat).size, sel := -1, vs := 0, tmp := q.offs }
def comp (s : PS) (q : Cp) (down : Bool) (key : Int) : PS :=
  if key = 37 then (if s.sel ≠ -1 ∨ down = true then s.next q else s)
  else if key = 54 then s.next q
  else if key = 36 then (if s.sel ≠ -1 then s.prev q else s)
  else if key = 51 then s.prev q
  else s.chosen q
/-- A line is ended. -/
def enter (s : PS) : PS :=
  if s.t = .empty then { s with t := .empty, k := 0 }
  else { s with t := .empty, k := 0, hs := s.hs ++ [s.t], ts := s.hs ++ [s.t] ++ [.empty], hsel := s.hs.length + 1 }
def cancel (s : PS) : PS := { s with t := .empty, k := 0, ts := s.hs ++ [.empty], hsel := s.hs.length }
def older (s : PS) : PS :=
  if s.ts.length = 1 ∨ s.hsel = 0 then s
  else { s with ts := s.ts.set s.hsel s.t, hsel := s.hsel - 1, t := s.ts.getD (s.hsel - 1) .empty, k := (s.ts.getD (s.hsel - 1) .empty).size }
def newer (s : PS) : PS :=
  if s.ts.length ≤ s.hsel + 1 then s
  else { s with ts := s.ts.set s.hsel s.t, hsel := s.hsel + 1, t := s.ts.getD (s.hsel + 1) .empty, k := (s.ts.getD (s.hsel + 1) .empty).size }
def typed (s : PS) (v : ByteArray) : PS := { s with t := putT s.t s.k v, k := s.k + v.size }
/-- What 'feed' makes of bytes: the stand, whether it is over, what is to be executed. bd: what keys are bound to. -/
def feed (s : PS) (q : Cp) (down : Bool) (bd : Int → PS → PS) (l : List UInt8) : PS × Bool × Option ByteArray :=
  if keyOf l = 55 ∨ keyOf l = 10 ∨ keyOf l = 13 then (bd (keyOf l) (s.comp q down (keyOf l)).enter, false, some (s.comp q down (keyOf l)).t)
  else if keyOf l = 3 then (bd (keyOf l) (s.comp q down (keyOf l)).cancel, false, none)
  else if keyOf l = 36 ∨ keyOf l = 16 then (bd (keyOf l) (if s.sel = -1 then (s.comp q down (keyOf l)).older else s.comp q down (keyOf l)), false, none)
  else if keyOf l = 37 ∨ keyOf l = 14 then (if s.sel = -1 then (s.comp q down (keyOf l)).newer else bd (keyOf l) (s.comp q down (keyOf l)), false, none)
  else if keyOf l = 4 then (if (s.comp q down (keyOf l)).t = .empty then (s.comp q down (keyOf l), true, none) else (bd (keyOf l) (s.comp q down (keyOf l)), false, none))
  else if keyOf l = 86 then (bd (keyOf l) ((s.comp q down (keyOf l)).typed ⟨l.toArray⟩), false, none)
  else (bd (keyOf l) (s.comp q down (keyOf l)), false, none)
/-- The suggestions are asked for anew. -/
def update (s : PS) (q : Cp) : PS := { s with tmp := fit (s.t.extract (wordAt q.sep s.t s.k) s.k) q.offs }
/-- What 'Fed' makes of bytes: the stand, whether it is over. -/
def fed (s : PS) (q : Cp) (down : Bool) (et : ByteArray) (bd : Int → PS → PS) (l : List UInt8) : PS × Bool :=
  match s.feed q down bd l with
  | (s1, true, _) => (s1, true)
  | (s1, false, some t) => ({ s1 with lines := s1.lines ++ [t] }.update q, decide (et ≠ .empty ∧ t = et))
  | (s1, false, none) => (s1.update q, false)
end PS

theorem ps_comp (D : Dyn) (I : Pid) (key : Int) : (D.comp I key).ps = D.ps.comp I.q I.down key := by
  unfold Dyn.comp PS.comp
  by_cases h1 : key = 37
  · rw [if_pos h1, if_pos h1]
    by_cases h : D.sel ≠ -1 ∨ I.down = true
    · rw [if_pos h, if_pos (show D.ps.sel ≠ -1 ∨ I.down = true from h)]; rfl
    · rw [if_neg h, if_neg (show ¬ (D.ps.sel ≠ -1 ∨ I.down = true) from h)]
  · rw [if_neg h1, if_neg h1]
    by_cases h2 : key = 54
    · rw [if_pos h2, if_pos h2]; rfl
    · rw [if_neg h2, if_neg h2]
      by_cases h3 : key = 36
      · rw [if_pos h3, if_pos h3]
        by_cases h : D.sel ≠ -1
        · rw [if_pos h, if_pos (show D.ps.sel ≠ -1 from h)]; rfl
        · rw [if_neg h, if_neg (show ¬ (D.ps.sel ≠ -1) from h)]
      · rw [if_neg h3, if_neg h3]
        by_cases h4 : key = 51
        · rw [if_pos h4, if_pos h4]; rfl
        · rw [if_neg h4, if_neg h4]
          unfold Dyn.chosen PS.chosen
          by_cases h : D.sel = -1
          · rw [if_pos h, if_pos (show D.ps.sel = -1 from h)]; rfl
          · rw [if_neg h, if_neg (show ¬ (D.ps.sel = -1) from h)]; rfl

/-- A slice of bytes at the head of a block. -/
def DatB (w : World) (u : Value) (l : List UInt8) : Prop := ∃ B c cs fr, u = .slice (some ⟨B, 0, none⟩) l.length c ∧ w.heap[B]? = some (.cells cs 5 fr) ∧ ∀ (j : Nat) (b : UInt8), l[j]? = some b → cs[j]? = some (Value.int .u8 (b.toNat : Int))
theorem DatB.dat {w : World} {u : Value} {l : List UInt8} (h : DatB w u l) : Dat w u l := by
  obtain ⟨B, c, cs, fr, h1, h2, h3⟩ := h
  refine ⟨_, c, h1, fun j b hj => ?_⟩
  rw [add_at]
  have e : w.cell? ⟨B, j, none⟩ = cs[j]? := by simp [World.cell?, h2]
  rw [e]
  exact h3 j b hj
theorem DatB.fr {w w1 : World} {u : Value} {l : List UInt8} {base : Nat} {ts bs : List Nat} (h : DatB w u l) (hF : Fr base ts bs w w1) (h5 : 5 ∉ ts) (hb : ∀ x ∈ bs, ∃ cs t, Blk w x cs t ∧ t ≠ 5) : DatB w1 u l := by
  obtain ⟨B, c, cs, fr, h1, h2, h3⟩ := h
  refine ⟨B, c, cs, fr, h1, ?_, h3⟩
  rw [hF.keep B (lt_of_block h2) (.inr ⟨fun hm => ?_, fun cs' t' fr' he => ?_⟩)]
  · exact h2
  · obtain ⟨ds, t, e1, e2⟩ := hb _ hm
    unfold Blk at e1
    rw [h2] at e1
    simp only [Option.some.injEq, Obj.cells.injEq] at e1
    exact e2 e1.2.1.symm
  · rw [h2] at he
    simp only [Option.some.injEq, Obj.cells.injEq] at he
    rw [← he.2.1]
    exact h5
theorem DatB.fr0 {w w1 : World} {u : Value} {l : List UInt8} {base : Nat} (h : DatB w u l) (hF : Fr base [] [] w w1) : DatB w1 u l := h.fr hF (by simp) (by simp)
theorem DatB.form {w : World} {u : Value} {l : List UInt8} (h : DatB w u l) : ∃ a n c, u = .slice a n c := by
  obtain ⟨B, c, cs, fr, h1, h2, h3⟩ := h
  exact ⟨_, _, _, h1⟩

theorem comp_c {base : Nat} {w : World} {I : Pid} {D : Dyn} (h : St base w I D) (hk : StOk I D) (cp : Bool) (hcp : cp = (D.sel != -1)) (key : Int) (n9 : key ≠ 9) :
    Calls Tryz.prog 87 #[.pointer (some ⟨I.p, 0, none⟩), .int .i64 key, .bool cp] w (CompPost base I D (D.comp I key) w) := by
  by_cases h1 : key = 37
  · subst h1; exact comp_down h hk cp hcp
  by_cases h2 : key = 54
  · subst h2; exact comp_tab h hk cp
  by_cases h3 : key = 36
  · subst h3; exact comp_up h hk cp hcp
  by_cases h4 : key = 51
  · subst h4; exact comp_back h hk cp
  rcases hk.sel with e | ⟨s, e, hs⟩
  · exact comp_none h hk cp key e h1 h2 n9 h3 h4
  · exact comp_some h hk cp key s e hs h1 h2 n9 h3 h4

/-- What 'feed' leaves. -/
def FeedPost (base : Nat) (I : Pid) (D : Dyn) (s' : PS) (out : Bool) (ex : Option ByteArray) (w : World) (e : Ending) (w' : World) : Prop :=
  ∃ D' xv, e = .returned (.tuple #[.bool out, xv]) ∧ St base w' I D' ∧ D'.ps = s' ∧ D'.n ≤ D.n + 4000 ∧
    ((ex = none ∧ xv = .pointer none) ∨ ∃ X t, ex = some t ∧ xv = .pointer (some ⟨X, 0, none⟩) ∧ Blk w' X #[.string t] 106) ∧ Fr base TT [] w w'

/-- What a key is bound to: bd. -/
def KBnd (base : Nat) (I : Pid) (key : Int) (bd : PS → PS) : Prop := ∀ (w : World) (D : Dyn), St base w I D → StOk I D →
  Calls Tryz.prog 92 #[.pointer (some ⟨I.p, 0, none⟩), .int .i64 key] w fun e w' => e = .returned (.bool false) ∧ (∃ D', St base w' I D' ∧ D'.ps = bd D.ps ∧ D'.n = D.n) ∧ Fr base TT [] w w'

theorem kb_none {base : Nat} {I : Pid} {key : Int} (hk1 : key ∉ commonKeys) (hk2 : key ∉ emacsKeys) : KBnd base I key id := fun w D h hk =>
  (keyNone_c h.pr h.scr.rn h.scr.buf h.exi hk1 hk2).mono fun e w' ⟨he, hF⟩ => ⟨he, ⟨D, h.fr0 hF, rfl, rfl⟩, hF.any⟩

/-- What is asked of what does not change. -/
structure IdOk (I : Pid) : Prop where
  hpre : Prn I.pre
  hpres : I.pre.size ≤ 100
  hc1 : 13 ≤ I.cols
  hc2 : I.cols ≤ 120
  hq : CpOk I.q
  hmost : I.q.most ≤ 100
  ho : ∀ x ∈ I.q.offs, Prn x.1 ∧ x.1.size ≤ 100 ∧ Prn x.2 ∧ x.2.size ≤ 100
  hol : I.q.offs.length ≤ 100

/-- What is asked of a stand. -/
structure PsOk (I : Pid) (s : PS) : Prop where
  ht : Prn s.t
  hts : s.t.size ≤ 500
  hk : s.k ≤ s.t.size
  sel : s.sel = -1 ∨ ∃ i : Nat, s.sel = i ∧ i < s.tmp.length
  v0 : 0 ≤ s.vs
  v1 : s.vs ≤ 1000
  tl : s.tmp.length ≤ 1000
  tp : ∀ x ∈ s.tmp, x ∈ I.q.offs
  hh : ∀ x ∈ s.hs, Prn x ∧ x.size ≤ 500
  hhl : s.hs.length ≤ 1000
  hT : ∀ x ∈ s.ts, Prn x ∧ x.size ≤ 500
  hTl : s.ts.length ≤ 1001
  hsl : s.hsel < s.ts.length
  hl : s.lines.length ≤ 900

section
variable {base : Nat} {w : World} {I : Pid} {D : Dyn}
theorem StOk.of (hI : IdOk I) (hP : PsOk I D.ps) : StOk I D :=
  ⟨⟨hI.hpre, hI.hpres, hI.hc1, hI.hc2, hP.ht, by have := hP.hts; exact Nat.le_trans this (by omega), hP.hk, hI.hq, hI.hmost⟩, hP.tl, fun x hx => hI.ho x (hP.tp x hx), hP.sel, hP.v0, hP.v1⟩
theorem prn_append {t u : ByteArray} (h : Prn t) (k : Prn u) : Prn (t ++ u) := by
  intro i hi
  have hi' : i < (t ++ u).data.size := hi
  simp only [ByteArray.data_append, Array.size_append] at hi'
  have e1 : (t ++ u)[i] = (t.data ++ u.data)[i]'(by simpa using hi') := by
    show (t ++ u).data[i] = _
    simp [ByteArray.data_append]
  rw [e1]
  by_cases hlt : i < t.data.size
  · rw [Array.getElem_append_left hlt]; exact h i hlt
  · rw [Array.getElem_append_right (by omega)]; exact k _ _
theorem prn_put {t v : ByteArray} (h : Prn t) (hv : Prn v) (k : Nat) : Prn (putT t k v) := prn_append (prn_append (h.extract _ _) hv) (h.extract _ _)
theorem size_put {t v : ByteArray} {k : Nat} (hk : k ≤ t.size) : (putT t k v).size = t.size + v.size := by
  unfold putT; rw [ByteArray.size_append, ByteArray.size_append]; simp; omega
theorem prn_empty : Prn .empty := fun i h => absurd h (by simp)

/-- A stand behind the keys of completion. -/
theorem comp_ok (hI : IdOk I) (hP : PsOk I D.ps) (key : Int) (hn : key ≠ 37 ∧ key ≠ 54 ∧ key ≠ 36 ∧ key ≠ 51) : Prn (D.comp I key).t ∧ (D.comp I key).t.size ≤ 600 ∧ (D.comp I key).k ≤ (D.comp I key).t.size ∧ (D.comp I key).sel = -1 ∧ (D.comp I key).vs = 0 ∧ (D.comp I key).tmp = I.q.offs := by
  obtain ⟨n1, n2, n3, n4⟩ := hn
  have hts : D.t.size ≤ 500 := hP.hts
  have hk : D.k ≤ D.t.size := hP.hk
  have ht : Prn D.t := hP.ht
  unfold Dyn.comp
  rw [if_neg n1, if_neg n2, if_neg n3, if_neg n4]
  unfold Dyn.chosen
  by_cases h : D.sel = -1
  · rw [if_pos h]
    exact ⟨ht, by show D.t.size ≤ 600; omega, hk, h, rfl, rfl⟩
  · rw [if_neg h]
    have hsel : D.sel = -1 ∨ ∃ i : Nat, D.sel = i ∧ i < D.tmp.length := hP.sel
    obtain ⟨i, e1, e2⟩ := hsel.resolve_left h
    have hx := hI.ho _ (hP.tp _ (List.getElem_mem e2))
    have et : D.text D.sel.toNat = D.tmp[i].1 := by simp [Dyn.text, e1, e2]
    have hw := wordAt_le I.q.sep D.t D.k
    have hsz : (D.t.extract 0 (wordAt I.q.sep D.t D.k) ++ D.t.extract D.k D.t.size).size ≤ D.t.size := by rw [ByteArray.size_append]; simp; omega
    have hsz2 : wordAt I.q.sep D.t D.k ≤ (D.t.extract 0 (wordAt I.q.sep D.t D.k) ++ D.t.extract D.k D.t.size).size := by rw [ByteArray.size_append]; simp; omega
    have hsz3 := size_put (v := D.tmp[i].1) hsz2
    rw [et]
    refine ⟨prn_put (prn_append (ht.extract _ _) (ht.extract _ _)) hx.1 _, ?_, ?_, rfl, rfl, rfl⟩
    · show (chosenT _ _ _ _).size ≤ 600
      unfold chosenT; have := hx.2.1; show (putT _ _ _).size ≤ 600; rw [hsz3]; have h9 : D.tmp[i].1.size ≤ 100 := hx.2.1; omega
    · show _ ≤ (chosenT _ _ _ _).size
      unfold chosenT; show _ ≤ (putT _ _ _).size; rw [hsz3]; show wordAt I.q.sep D.t D.k + _ ≤ _; omega
/-- What is asked, of a stand whose line and suggestions are known. -/
theorem stOk_mk {D' : Dyn} (hI : IdOk I) (ht : Prn D'.t) (hts : D'.t.size ≤ 1000) (hk : D'.k ≤ D'.t.size) (hsel : D'.sel = -1) (hvs : D'.vs = 0) (htmp : D'.tmp = I.q.offs) : StOk I D' :=
  ⟨⟨hI.hpre, hI.hpres, hI.hc1, hI.hc2, ht, hts, hk, hI.hq, hI.hmost⟩, by rw [htmp]; exact Nat.le_trans hI.hol (by omega), by rw [htmp]; exact hI.ho, .inl hsel, by omega, by omega⟩
end
end Go.Proofs.YtiepopbmbgfhkaaGreat
