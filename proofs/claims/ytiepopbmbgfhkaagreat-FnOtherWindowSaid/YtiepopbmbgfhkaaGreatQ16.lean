/-
  The keys of completion.
  The keys of completion: all other keys.
-/
import Derived.Test.YtiepopbmbgfhkaaGreatQ14
import Derived.Test.YtiepopbmbgfhkaaGreatQ15
namespace Go.Proofs.YtiepopbmbgfhkaaGreat
open Go.RowKit
set_option maxHeartbeats 2000000
set_option maxRecDepth 20000
set_option linter.unusedVariables false
set_option linter.unusedSimpArgs false

section
variable {base : Nat} {w w1 : World} {r o b L c : Nat} {pre : ByteArray} {cols n m : Nat} {t t' : ByteArray} {k k' : Nat} {q : Cp} {sel vs sel' vs' : Int} {tmp tmp' : List Pk}
theorem Scr.cmUpd (h : Scr base w r o b L c pre cols n t k q sel vs tmp) (hC : Cm base w1 c q sel' vs' tmp') (hF : Fr base [] [c] w w1) : Scr base w1 r o b L c pre cols n t k q sel' vs' tmp' := by
  obtain ⟨cs, hc⟩ := h.cm.blk
  refine ⟨h.rn.fr hF (by simp) fun x hx => ?_, h.buf.frB hF (by simp) fun x hx => ?_, hC⟩
  · simp only [List.mem_singleton] at hx; subst hx; exact ⟨cs, 87, hc, by decide, by decide, by decide⟩
  · simp only [List.mem_singleton] at hx; subst hx; exact ⟨cs, 87, hc, by decide, by decide, by decide⟩
theorem Scr.bufUpd (h : Scr base w r o b L c pre cols n t k q sel vs tmp) (hB : Buf base w1 b L t' k') (hF : Fr base [] [b, L] w w1) : Scr base w1 r o b L c pre cols n t' k' q sel vs tmp := by
  obtain ⟨⟨cs, hb⟩, ds, hL⟩ := h.buf.blk
  refine ⟨h.rn.fr hF (by simp) fun x hx => ?_, hB, h.cm.fr hF (by simp) fun x hx => ?_⟩
  · simp only [List.mem_cons, List.not_mem_nil, or_false] at hx
    rcases hx with rfl | rfl
    · exact ⟨cs, 121, hb, by decide, by decide, by decide⟩
    · exact ⟨ds, 9, hL, by decide, by decide, by decide⟩
  · simp only [List.mem_cons, List.not_mem_nil, or_false] at hx
    rcases hx with rfl | rfl
    · exact ⟨cs, 121, hb, by decide, by decide, by decide, by decide⟩
    · exact ⟨ds, 9, hL, by decide, by decide, by decide, by decide⟩
end

/-- What is asked of a prompt's stand. -/
structure StOk (I : Pid) (D : Dyn) : Prop where
  ok : ScrOk I.pre I.cols D.t D.k I.q
  tl : D.tmp.length ≤ 1000
  tp : ∀ x ∈ D.tmp, Prn x.1 ∧ x.1.size ≤ 100 ∧ Prn x.2 ∧ x.2.size ≤ 100
  sel : D.sel = -1 ∨ ∃ s : Nat, D.sel = s ∧ s < D.tmp.length
  v0 : 0 ≤ D.vs
  v1 : D.vs ≤ 1000

/-- What 'Next', 'Previous' make of it. -/
def Dyn.next (D : Dyn) (I : Pid) : Dyn := { D with sel := (nextS I.q D.sel D.vs D.tmp).1, vs := (nextS I.q D.sel D.vs D.tmp).2.1, tmp := (nextS I.q D.sel D.vs D.tmp).2.2 }
def Dyn.prev (D : Dyn) (I : Pid) : Dyn := { D with sel := (prevS I.q D.sel D.vs D.tmp).1, vs := (prevS I.q D.sel D.vs D.tmp).2.1, tmp := (prevS I.q D.sel D.vs D.tmp).2.2 }
/-- A text is put at a cursor. -/
def putT (t : ByteArray) (k : Nat) (v : ByteArray) : ByteArray := t.extract 0 k ++ v ++ t.extract k t.size
/-- The word ahead of the cursor gives way to a text. -/
def chosenT (sep t : ByteArray) (k : Nat) (v : ByteArray) : ByteArray := putT (t.extract 0 (wordAt sep t k) ++ t.extract k t.size) (wordAt sep t k) v
def Dyn.text (D : Dyn) (i : Nat) : ByteArray := ((D.tmp[i]?).map Prod.fst).getD .empty
def Dyn.chosen (D : Dyn) (I : Pid) : Dyn :=
  if D.sel = -1 then { D with vs := 0, tmp := I.q.offs }
  else { D with t := chosenT I.q.sep D.t D.k (D.text D.sel.toNat), k := wordAt I.q.sep D.t D.k + (D.text D.sel.toNat).size, sel := -1, vs := 0, tmp := I.q.offs }
def Dyn.comp (D : Dyn) (I : Pid) (key : Int) : Dyn :=
  if key = 37 then (if D.sel ≠ -1 ∨ I.down = true then D.next I else D)
  else if key = 54 then D.next I
  else if key = 36 then (if D.sel ≠ -1 then D.prev I else D)
  else if key = 51 then D.prev I
  else D.chosen I

section
variable {base : Nat} {w : World} {I : Pid} {D : Dyn}
theorem StOk.selB (h : StOk I D) : -10 ≤ D.sel ∧ D.sel ≤ 1000 := by
  have := h.tl
  rcases h.sel with e | ⟨s, e, hs⟩ <;> omega

def CompPost (base : Nat) (I : Pid) (D D' : Dyn) (w : World) (e : Ending) (w' : World) : Prop :=
  e = .returned (.tuple #[]) ∧ St base w' I D' ∧ Fr base [] [D.b, D.L, I.c] w w'

theorem st_next {w1 : World} {n : Nat} (h : St base w I D) (hC : Cm base w1 I.c I.q (nextS I.q D.sel D.vs D.tmp).1 (nextS I.q D.sel D.vs D.tmp).2.1 (nextS I.q D.sel D.vs D.tmp).2.2) (hF : Fr base [] [I.c] w w1) : St base w1 I (D.next I) ∧ Fr base [] [D.b, D.L, I.c] w w1 := by
  have hF' : Fr base [5, 143] [D.b, D.L, I.r, I.c] w w1 := hF.mono (by simp) (by simp)
  exact ⟨h.upd hF' (h.scr.cmUpd hC hF), hF.mono (by simp) (by simp)⟩
theorem st_prev {w1 : World} {n : Nat} (h : St base w I D) (hC : Cm base w1 I.c I.q (prevS I.q D.sel D.vs D.tmp).1 (prevS I.q D.sel D.vs D.tmp).2.1 (prevS I.q D.sel D.vs D.tmp).2.2) (hF : Fr base [] [I.c] w w1) : St base w1 I (D.prev I) ∧ Fr base [] [D.b, D.L, I.c] w w1 := by
  have hF' : Fr base [5, 143] [D.b, D.L, I.r, I.c] w w1 := hF.mono (by simp) (by simp)
  exact ⟨h.upd hF' (h.scr.cmUpd hC hF), hF.mono (by simp) (by simp)⟩

theorem comp_down (h : St base w I D) (hk : StOk I D) (cp : Bool) (hcp : cp = (D.sel != -1)) :
    Calls Tryz.prog 87 #[.pointer (some ⟨I.p, 0, none⟩), .int .i64 37, .bool cp] w (CompPost base I D (D.comp I 37) w) := by
  obtain ⟨c0, c1, c2, c3, c4, c5, c6, c7, c8, c9, f0, hlt⟩ := prC h.pr
  have hb := hk.selB
  have v0 := hk.v0
  have v1 := hk.v1
  have hno : St base w I D ∧ Fr base [] [D.b, D.L, I.c] w w := ⟨h, Fr.refl _ _ _ _⟩
  cases cp with
  | true =>
    have e1 : D.comp I 37 = D.next I := by
      have hs : D.sel ≠ -1 := by simpa using hcp.symm
      simp [Dyn.comp, hs]
    rw [e1]
    clear hcp
    go_enter Tryz.func87, Tryz.ntmps87
    go_wp2_with (fail)
    refine (next_c h.scr.cm hk.ok.hq hk.tl hb.1 hb.2 (by omega) v1).mono ?_
    rintro e w1 ⟨rfl, hC, hF⟩
    go_wp2
    go_end0
    exact ⟨rfl, st_next (n := 0) h hC hF⟩
  | false =>
    have hs : D.sel = -1 := by simpa using hcp.symm
    clear hcp
    cases hd : I.down with
    | true =>
      have e1 : D.comp I 37 = D.next I := by simp [Dyn.comp, hd]
      rw [e1]
      rw [hd] at c8
      clear hd hs
      go_enter Tryz.func87, Tryz.ntmps87
      go_wp2_with (fail)
      refine (next_c h.scr.cm hk.ok.hq hk.tl hb.1 hb.2 (by omega) v1).mono ?_
      rintro e w1 ⟨rfl, hC, hF⟩
      go_wp2
      go_end0
      exact ⟨rfl, st_next (n := 0) h hC hF⟩
    | false =>
      have e1 : D.comp I 37 = D := by simp [Dyn.comp, hd, hs]
      rw [e1]
      rw [hd] at c8
      clear hd hs
      go_enter Tryz.func87, Tryz.ntmps87
      go_wp2_with (fail)
      go_end0
      exact ⟨rfl, hno⟩

theorem comp_tab (h : St base w I D) (hk : StOk I D) (cp : Bool) :
    Calls Tryz.prog 87 #[.pointer (some ⟨I.p, 0, none⟩), .int .i64 54, .bool cp] w (CompPost base I D (D.comp I 54) w) := by
  obtain ⟨c0, c1, c2, c3, c4, c5, c6, c7, c8, c9, f0, hlt⟩ := prC h.pr
  have hb := hk.selB
  have v0 := hk.v0
  have v1 := hk.v1
  have e1 : D.comp I 54 = D.next I := by simp [Dyn.comp]
  rw [e1]
  go_enter Tryz.func87, Tryz.ntmps87
  go_wp2_with (fail)
  refine (next_c h.scr.cm hk.ok.hq hk.tl hb.1 hb.2 (by omega) v1).mono ?_
  rintro e w1 ⟨rfl, hC, hF⟩
  go_wp2
  go_end0
  exact ⟨rfl, st_next (n := 0) h hC hF⟩

theorem comp_up (h : St base w I D) (hk : StOk I D) (cp : Bool) (hcp : cp = (D.sel != -1)) :
    Calls Tryz.prog 87 #[.pointer (some ⟨I.p, 0, none⟩), .int .i64 36, .bool cp] w (CompPost base I D (D.comp I 36) w) := by
  obtain ⟨c0, c1, c2, c3, c4, c5, c6, c7, c8, c9, f0, hlt⟩ := prC h.pr
  have hb := hk.selB
  have v0 := hk.v0
  have v1 := hk.v1
  have hno : St base w I D ∧ Fr base [] [D.b, D.L, I.c] w w := ⟨h, Fr.refl _ _ _ _⟩
  cases cp with
  | true =>
    have e1 : D.comp I 36 = D.prev I := by
      have hs : D.sel ≠ -1 := by simpa using hcp.symm
      simp [Dyn.comp, hs]
    rw [e1]
    clear hcp
    go_enter Tryz.func87, Tryz.ntmps87
    go_wp2_with (fail)
    refine (prev_c h.scr.cm hk.ok.hq hk.tl hb.1 hb.2 (by omega) v1).mono ?_
    rintro e w1 ⟨rfl, hC, hF⟩
    go_wp2
    go_end0
    exact ⟨rfl, st_prev (n := 0) h hC hF⟩
  | false =>
    have hs : D.sel = -1 := by simpa using hcp.symm
    have e1 : D.comp I 36 = D := by simp [Dyn.comp, hs]
    rw [e1]
    clear hcp hs
    go_enter Tryz.func87, Tryz.ntmps87
    go_wp2_with (fail)
    go_end0
    exact ⟨rfl, hno⟩

theorem comp_back (h : St base w I D) (hk : StOk I D) (cp : Bool) :
    Calls Tryz.prog 87 #[.pointer (some ⟨I.p, 0, none⟩), .int .i64 51, .bool cp] w (CompPost base I D (D.comp I 51) w) := by
  obtain ⟨c0, c1, c2, c3, c4, c5, c6, c7, c8, c9, f0, hlt⟩ := prC h.pr
  have hb := hk.selB
  have v0 := hk.v0
  have v1 := hk.v1
  have e1 : D.comp I 51 = D.prev I := by simp [Dyn.comp]
  rw [e1]
  go_enter Tryz.func87, Tryz.ntmps87
  go_wp2_with (fail)
  refine (prev_c h.scr.cm hk.ok.hq hk.tl hb.1 hb.2 (by omega) v1).mono ?_
  rintro e w1 ⟨rfl, hC, hF⟩
  go_wp2
  go_end0
  exact ⟨rfl, st_prev (n := 0) h hC hF⟩
end
end Go.Proofs.YtiepopbmbgfhkaaGreat

namespace Go.Proofs.YtiepopbmbgfhkaaGreat
open Go.RowKit
open List renaming setIfInBounds_toArray → zq1, set_cons_zero → zq2, set_cons_succ → zq3
open Int renaming toNat_natCast → zq4, toNat_sub → zq5, toNat_zero → zq6
set_option maxHeartbeats 2000000
set_option maxRecDepth 20000
set_option linter.unusedVariables false
set_option linter.unusedSimpArgs false
section
variable {base : Nat} {w : World} {I : Pid} {D : Dyn}

theorem asc_extract {t : ByteArray} (h : Asc t) (i j : Nat) : Asc (t.extract i j) := by
  intro k hk
  have hk' : k < (t.extract i j).data.size := hk
  simp only [ByteArray.data_extract, Array.size_extract] at hk'
  have e : (t.extract i j)[k] = t[i + k]'(by show i + k < t.data.size; omega) := by
    show (t.extract i j).data[k] = t.data[i + k]
    simp [ByteArray.data_extract]
  rw [e]
  exact h _ _
theorem asc_append {t u : ByteArray} (h : Asc t) (k : Asc u) : Asc (t ++ u) := by
  intro i hi
  have hi' : i < (t ++ u).data.size := hi
  simp only [ByteArray.data_append, Array.size_append] at hi'
  have e1 : (t ++ u)[i] = (t.data ++ u.data)[i]'(by simpa using hi') := by
    show (t ++ u).data[i] = _
    simp [ByteArray.data_append]
  rw [e1]
  by_cases hlt : i < t.data.size
  · rw [Array.getElem_append_left hlt]; exact h i hlt
  · rw [Array.getElem_append_right (by omega)]; exact k _ _
theorem _root_.Go.Proofs.YtiepopbmbgfhkaaGreat.Blk.other5 {w1 : World} {M : Nat} {cs : Array Value} (hM : Blk w M cs 73) (h : St base w I D) (hF : Fr base [] [D.b, D.L] w w1) : Blk w1 M cs 73 := by
  obtain ⟨⟨csb, hb⟩, ds, hL⟩ := h.scr.buf.blk
  refine hF.blk hM (.inr ⟨?_, by simp⟩)
  simp only [List.mem_cons, List.not_mem_nil, or_false]
  rintro (rfl | rfl)
  · exact absurd (hM.inj hb).2 (by decide)
  · exact absurd (hM.inj hL).2 (by decide)
theorem St.docUpd {w1 : World} (h : St base w I D) (hB : Buf base w1 D.b D.L D.t D.k) (hF : Fr base [] [D.b] w w1) : St base w1 I D :=
  h.upd (hF.mono (by simp) (by simp)) (h.scr.doc hB hF)
theorem St.bufUpd {w1 : World} {t' : ByteArray} {k' : Nat} (h : St base w I D) (hB : Buf base w1 D.b D.L t' k') (hF : Fr base [] [D.b, D.L] w w1) : St base w1 I { D with t := t', k := k' } :=
  h.upd (hF.mono (by simp) (by simp)) (h.scr.bufUpd hB hF)
theorem St.cells3 (h : St base w I D) : w.cell? ⟨I.p, 0, none⟩ = some (.pointer (some ⟨D.b, 0, none⟩)) ∧ w.cell? ⟨I.p, 4, none⟩ = some (.pointer (some ⟨I.c, 0, none⟩)) ∧ w.cell? ⟨I.c, 5, none⟩ = some (.string I.q.sep) := by
  obtain ⟨pp, kk, C, hCB, -⟩ := h.scr.cm.ren
  exact ⟨(prC h.pr).c0, (prC h.pr).c4, C.c5⟩

theorem comp_none (h : St base w I D) (hk : StOk I D) (cp : Bool) (key : Int) (hs : D.sel = -1) (n1 : key ≠ 37) (n2 : key ≠ 54) (n3 : key ≠ 9) (n4 : key ≠ 36) (n5 : key ≠ 51) :
    Calls Tryz.prog 87 #[.pointer (some ⟨I.p, 0, none⟩), .int .i64 key, .bool cp] w (CompPost base I D (D.comp I key) w) := by
  obtain ⟨c0, c1, c2, c3, c4, c5, c6, c7, c8, c9, f0, hlt⟩ := prC h.pr
  have e1 : D.comp I key = { D with sel := -1, vs := 0, tmp := I.q.offs } := by simp [Dyn.comp, Dyn.chosen, n1, n2, n4, n5, hs]
  rw [e1]
  have d1 := (int_ne n1).1
  have d2 := (int_ne n2).1
  have d3 := (int_ne n3).1
  have d4 := (int_ne n4).1
  have d5 := (int_ne n5).1
  have hcm := h.scr.cm
  rw [hs] at hcm
  clear n1 n2 n3 n4 n5 hs e1
  go_enter Tryz.func87, Tryz.ntmps87
  go_wp2_with (fail)
  refine (getSel_none hcm).mono ?_
  rintro e w1 ⟨rfl, hF1⟩
  have hF1' := hF1.ext ((Fr.refl 0 [] [] w1).alloc (.cells #[.string .empty, .string .empty] 73))
  have h1 := h.fr0 hF1'
  obtain ⟨c0, c1, c2, c3, c4, c5, c6, c7, c8, c9, f0, hlt⟩ := prC h1.pr
  go_wp2_with (fail)
  refine (reset_c h1.scr.cm hk.ok.hq).mono ?_
  rintro e w2 ⟨rfl, hC, hF⟩
  go_wp2
  go_end0
  have hF' : Fr base [5, 143] [D.b, D.L, I.r, I.c] _ w2 := hF.mono (by simp) (by simp)
  exact ⟨rfl, h1.upd hF' (h1.scr.cmUpd hC hF), hF1'.any.trans (hF.mono (by simp) (by simp))⟩

theorem comp_some (h : St base w I D) (hk : StOk I D) (cp : Bool) (key : Int) (s : Nat) (hs : D.sel = s) (hlt2 : s < D.tmp.length) (n1 : key ≠ 37) (n2 : key ≠ 54) (n3 : key ≠ 9) (n4 : key ≠ 36) (n5 : key ≠ 51) :
    Calls Tryz.prog 87 #[.pointer (some ⟨I.p, 0, none⟩), .int .i64 key, .bool cp] w (CompPost base I D (D.comp I key) w) := by
  obtain ⟨c0, c1, c2, c3, c4, c5, c6, c7, c8, c9, f0, hlt⟩ := prC h.pr
  have hkk := hk.ok.hk
  have hts := hk.ok.hts
  have ha := hk.ok.ht.asc
  have hwl := wordAt_le I.q.sep D.t D.k
  obtain ⟨v, hv⟩ : ∃ v, v = D.tmp[s].1 := ⟨_, rfl⟩
  have hvp := hk.tp _ (List.getElem_mem hlt2)
  rw [← hv] at hvp
  have e1 : D.comp I key = { D with t := chosenT I.q.sep D.t D.k v, k := wordAt I.q.sep D.t D.k + v.size, sel := -1, vs := 0, tmp := I.q.offs } := by
    simp [Dyn.comp, Dyn.chosen, n1, n2, n4, n5, hs, Dyn.text, hlt2, hv]
  rw [e1]
  have d1 := (int_ne n1).1
  have d2 := (int_ne n2).1
  have d3 := (int_ne n3).1
  have d4 := (int_ne n4).1
  have d5 := (int_ne n5).1
  have hcm := h.scr.cm
  rw [hs] at hcm
  have hgs := getSel_some hcm hlt2 hk.tl
  rw [← hv] at hgs
  obtain ⟨x2, hx2⟩ : ∃ x, x = D.tmp[s].2 := ⟨_, rfl⟩
  rw [← hx2] at hgs
  clear n1 n2 n3 n4 n5 hs e1 hv hx2
  unfold chosenT
  obtain ⟨a, ha0⟩ : ∃ a, a = wordAt I.q.sep D.t D.k := ⟨_, rfl⟩
  rw [← ha0] at hwl
  rw [← ha0]
  have HA := Lib.hid ha0
  clear ha0
  go_enter Tryz.func87, Tryz.ntmps87
  go_wp2_with (fail)
  refine hgs.mono ?_
  rintro e w1 ⟨rfl, hF1⟩
  clear hgs hcm
  obtain ⟨M, hM⟩ : ∃ M, w1.heap.size = M := ⟨_, rfl⟩
  have hMB := Blk.new' (w := w1) hM.symm #[.string v, .string x2] 73
  have hF1' := hF1.ext ((Fr.refl 0 [] [] w1).alloc (.cells #[.string v, .string x2] 73))
  have h1 := h.fr0 hF1'
  obtain ⟨c0, c1, c2, c3, c4, c5, c6, c7, c8, c9, f0, hlt⟩ := prC h1.pr
  obtain ⟨pp, kk, ⟨k0, k1, k2, k3, k4, k5, k6, kf0, kf1, kf4, klt⟩, hCB, -⟩ := h1.scr.cm.ren
  obtain ⟨m0, m1, mf0, mf1⟩ := hMB.c2
  go_wp2_with (fail)
  have hS : (fun w' : World => w'.cell? ⟨I.p, 0, none⟩ = some (.pointer (some ⟨D.b, 0, none⟩)) ∧ w'.cell? ⟨I.p, 4, none⟩ = some (.pointer (some ⟨I.c, 0, none⟩)) ∧ w'.cell? ⟨I.c, 5, none⟩ = some (.string I.q.sep)) (w1.alloc (.cells #[.string v, .string x2] 73)).drew := ⟨c0, c4, k5⟩
  refine wp_region_plan [3, 8, 11] [4, 12] (fun w' : World => w'.cell? ⟨I.p, 0, none⟩ = some (.pointer (some ⟨D.b, 0, none⟩)) ∧ w'.cell? ⟨I.p, 4, none⟩ = some (.pointer (some ⟨I.c, 0, none⟩)) ∧ w'.cell? ⟨I.c, 5, none⟩ = some (.string I.q.sep)) (.pure 0 (.pure 1 (.pure 2 (.take 3 (.pure 5 (.pure 6 (.pure 7 (.take 8 (.pure 9 (.pure 10 (.take 11 (.go 4 (.go 12 (.pure 13 .done)))))))))))))) hmix (by kernel_rfl) ?_
  repeat (first | (refine plan_move rfl rfl rfl ?_; (try simp only [Act.put, zq1, zq2, zq3, zq4, zq5, zq6])) | (refine plan_pure (v := ?_) rfl rfl ?_ ?_; rotate_left; (intro w'; go_simp <;> with_reducible rfl); (try simp only [Act.put, zq1, zq2, zq3, zq4, zq5, zq6])) | (refine plan_take (v := ?_) rfl hS rfl ?_ ?_; rotate_left; (intro w' hSw; (try dsimp only at hSw); go_simp <;> with_reducible rfl); (try simp only [Act.put, zq1, zq2, zq3, zq4, zq5, zq6])))
  refine plan_goS rfl rfl (fun K hK => ?_)
  go_simp; refine (doc_c h1.scr.buf.drew).mono ?_; rintro e w2 ⟨d, rfl, hd, hB2, hF2⟩; have h2 := h1.drew.docUpd hB2 hF2; have hS2 : (fun w' : World => w'.cell? ⟨I.p, 0, none⟩ = some (.pointer (some ⟨D.b, 0, none⟩)) ∧ w'.cell? ⟨I.p, 4, none⟩ = some (.pointer (some ⟨I.c, 0, none⟩)) ∧ w'.cell? ⟨I.c, 5, none⟩ = some (.string I.q.sep)) w2 := h2.cells3; refine hK _ _ hS2 ?_; clear hK K; (try simp only [Act.put, zq1, zq2, zq3, zq4, zq5, zq6])
  refine plan_go rfl (by kernel_rfl) rfl (fun K hK => ?_)
  go_simp; refine (getWord_c hd ha hk.ok.hq.sep (by omega) hkk).mono ?_; rintro e w3 ⟨rfl, hF3⟩; refine hK _ _ ?_; clear hK K; (try simp only [Act.put, zq1, zq2, zq3, zq4, zq5, zq6])
  refine plan_pure (v := ?_) rfl rfl ?_ ?_; rotate_left; (intro w'; go_simp <;> with_reducible rfl); (try simp only [Act.put, zq1, zq2, zq3, zq4, zq5, zq6])
  refine plan_done ?_
  have h3 := h2.fr0 hF3
  have hM2 := hF3.blk0 (hF2.blk hMB.drew (.inr ⟨by simp only [List.mem_singleton]; rintro rfl; exact absurd (h1.scr.buf.blk.1.choose_spec.inj hMB).2 (by decide), by simp⟩))
  have hFa : Fr base [] [D.b, D.L, I.c] w w3 := ((hF1'.any.drew).into hF2 (by simp) (by simp)).ext hF3
  obtain ⟨wd, hwd⟩ : ∃ wd, wd = D.t.extract (wordAt I.q.sep D.t D.k) D.k := ⟨_, rfl⟩
  rw [← hwd]
  have hws : wd.size = D.k - a := by rw [hwd, HA.out]; simp; omega
  have hwa : Asc wd := by rw [hwd]; exact asc_extract ha _ _
  have HW := Lib.hid hws
  clear hwd hws
  obtain ⟨c0, c1, c2, c3, c4, c5, c6, c7, c8, c9, f0, hlt⟩ := prC h3.pr
  obtain ⟨m0, m1, mf0, mf1⟩ := hM2.c2
  have hMl := hM2.lt
  by_cases hz : a = D.k
  · have hE := str_empty (a := wd)
    have hE3 : wd.size = 0 := by rw [HW.out]; omega
    rw [hE3] at hE
    have hE1 : wd.toList.isEmpty = true := by simpa using hE
    have hE2 : wd.toList = [] := by simpa using hE1
    have HZ := Lib.hid hz
    clear hz hE hE3
    go_wp2_with (fail)
    have e1 : D.t.extract 0 a ++ D.t.extract D.k D.t.size = D.t := by rw [HZ.out]; exact extract_all _ _ hkk
    have h5 : St base w3 I { D with t := D.t.extract 0 a ++ D.t.extract D.k D.t.size, k := a } := by rw [e1, HZ.out]; exact h3
    clear e1
    have ht1 : Asc (D.t.extract 0 a ++ D.t.extract D.k D.t.size) := asc_append (asc_extract ha _ _) (asc_extract ha _ _)
    have hs1 : (D.t.extract 0 a ++ D.t.extract D.k D.t.size).size ≤ 1000 := by rw [ByteArray.size_append]; simp; omega
    have ha1 : a ≤ (D.t.extract 0 a ++ D.t.extract D.k D.t.size).size := by rw [ByteArray.size_append]; simp; omega
    have hFb := hFa
    have hS : (fun w' : World => w'.cell? ⟨I.p, 0, none⟩ = some (.pointer (some ⟨D.b, 0, none⟩)) ∧ w'.cell? ⟨M, 0, none⟩ = some (.string v)) w3.drew := ⟨c0, m0⟩
    refine wp_region_plan [3, 5] [6] (fun w' : World => w'.cell? ⟨I.p, 0, none⟩ = some (.pointer (some ⟨D.b, 0, none⟩)) ∧ w'.cell? ⟨M, 0, none⟩ = some (.string v)) (.pure 0 (.pure 1 (.pure 2 (.take 3 (.pure 4 (.take 5 (.go 6 .done))))))) hmix (by kernel_rfl) ?_
    repeat (first | (refine plan_move rfl rfl rfl ?_; (try simp only [Act.put, zq1, zq2, zq3, zq4, zq5, zq6])) | (refine plan_pure (v := ?_) rfl rfl ?_ ?_; rotate_left; (intro w'; go_simp <;> with_reducible rfl); (try simp only [Act.put, zq1, zq2, zq3, zq4, zq5, zq6])) | (refine plan_take (v := ?_) rfl hS rfl ?_ ?_; rotate_left; (intro w' hSw; (try dsimp only at hSw); go_simp <;> with_reducible rfl); (try simp only [Act.put, zq1, zq2, zq3, zq4, zq5, zq6])))
    refine plan_go rfl (by kernel_rfl) rfl (fun K hK => ?_)
    go_simp; refine (insert_c h5.scr.buf.drew v ht1 hvp.1.asc (Nat.le_trans hs1 (by omega)) (Nat.le_trans hvp.2.1 (by omega)) ha1).mono ?_; rintro e w6 ⟨rfl, hB6, hF6⟩; refine hK _ _ ?_; clear hK K; (try simp only [Act.put, zq1, zq2, zq3, zq4, zq5, zq6])
    refine plan_done ?_
    have h6 := h5.drew.bufUpd hB6 hF6
    obtain ⟨c0, c1, c2, c3, c4, c5, c6, c7, c8, c9, f0, hlt⟩ := prC h6.pr
    go_wp2_with (fail)
    refine (reset_c h6.scr.cm hk.ok.hq).mono ?_
    rintro e w7 ⟨rfl, hC, hF⟩
    go_wp2
    go_end0
    have hF' : Fr base [5, 143] [D.b, D.L, I.r, I.c] _ w7 := hF.mono (by simp) (by simp)
    exact ⟨rfl, h6.upd hF' (h6.scr.cmUpd hC hF), ((hFb.drew).into hF6 (by simp) (by simp)).trans (hF.mono (by simp) (by simp))⟩
  · have hE := str_empty (a := wd)
    have hE3 : wd.size ≠ 0 := by rw [HW.out]; omega
    have hE1 : wd.toList.isEmpty = false := by rw [hE]; simpa using hE3
    have hE2 : wd.toList ≠ [] := by intro e; rw [e] at hE1; simp at hE1
    have hwz : wd.size ≤ 70368744177664 := by rw [HW.out]; omega
    have HZ := Lib.hid hz
    clear hz hE hE3
    go_wp2_with (first | (refine wpList_plain rfl (fun K hK => ?_); refine wp_runes _ _ rfl rfl hwa hwz ?_; intro rb rc w4 hcap hB4 hF4; refine hK _ _ ?_; clear hK K; have h4 := h3.fr0 hF4; obtain ⟨c0, c1, c2, c3, c4, c5, c6, c7, c8, c9, f0, hlt⟩ := prC h4.pr))
    refine (delBefore_c h4.scr.buf wd.size ha (by omega) hkk (by rw [HW.out]; omega)).mono ?_
    rintro e w5 ⟨rfl, hB5, hF5⟩
    have hka : D.k - wd.size = a := by rw [HW.out]; omega
    rw [hka] at hB5
    clear hka
    have h5 := h4.bufUpd hB5 hF5
    have hM5 := (hF4.blk0 hM2).other5 h4 hF5
    have hFb : Fr base [] [D.b, D.L, I.c] w w5 := (hFa.ext hF4).into hF5 (by simp) (by simp)
    obtain ⟨c0, c1, c2, c3, c4, c5, c6, c7, c8, c9, f0, hlt⟩ := prC h5.pr
    obtain ⟨m0, m1, mf0, mf1⟩ := hM5.c2
    have hMl := hM5.lt
    have ht1 : Asc (D.t.extract 0 a ++ D.t.extract D.k D.t.size) := asc_append (asc_extract ha _ _) (asc_extract ha _ _)
    have hs1 : (D.t.extract 0 a ++ D.t.extract D.k D.t.size).size ≤ 1000 := by rw [ByteArray.size_append]; simp; omega
    have ha1 : a ≤ (D.t.extract 0 a ++ D.t.extract D.k D.t.size).size := by rw [ByteArray.size_append]; simp; omega
    go_wp2_with (fail)
    have hS : (fun w' : World => w'.cell? ⟨I.p, 0, none⟩ = some (.pointer (some ⟨D.b, 0, none⟩)) ∧ w'.cell? ⟨M, 0, none⟩ = some (.string v)) w5.drew := ⟨c0, m0⟩
    refine wp_region_plan [3, 5] [6] (fun w' : World => w'.cell? ⟨I.p, 0, none⟩ = some (.pointer (some ⟨D.b, 0, none⟩)) ∧ w'.cell? ⟨M, 0, none⟩ = some (.string v)) (.pure 0 (.pure 1 (.pure 2 (.take 3 (.pure 4 (.take 5 (.go 6 .done))))))) hmix (by kernel_rfl) ?_
    repeat (first | (refine plan_move rfl rfl rfl ?_; (try simp only [Act.put, zq1, zq2, zq3, zq4, zq5, zq6])) | (refine plan_pure (v := ?_) rfl rfl ?_ ?_; rotate_left; (intro w'; go_simp <;> with_reducible rfl); (try simp only [Act.put, zq1, zq2, zq3, zq4, zq5, zq6])) | (refine plan_take (v := ?_) rfl hS rfl ?_ ?_; rotate_left; (intro w' hSw; (try dsimp only at hSw); go_simp <;> with_reducible rfl); (try simp only [Act.put, zq1, zq2, zq3, zq4, zq5, zq6])))
    refine plan_go rfl (by kernel_rfl) rfl (fun K hK => ?_)
    go_simp; refine (insert_c h5.scr.buf.drew v ht1 hvp.1.asc (Nat.le_trans hs1 (by omega)) (Nat.le_trans hvp.2.1 (by omega)) ha1).mono ?_; rintro e w6 ⟨rfl, hB6, hF6⟩; refine hK _ _ ?_; clear hK K; (try simp only [Act.put, zq1, zq2, zq3, zq4, zq5, zq6])
    refine plan_done ?_
    have h6 := h5.drew.bufUpd hB6 hF6
    obtain ⟨c0, c1, c2, c3, c4, c5, c6, c7, c8, c9, f0, hlt⟩ := prC h6.pr
    go_wp2_with (fail)
    refine (reset_c h6.scr.cm hk.ok.hq).mono ?_
    rintro e w7 ⟨rfl, hC, hF⟩
    go_wp2
    go_end0
    have hF' : Fr base [5, 143] [D.b, D.L, I.r, I.c] _ w7 := hF.mono (by simp) (by simp)
    exact ⟨rfl, h6.upd hF' (h6.scr.cmUpd hC hF), ((hFb.drew).into hF6 (by simp) (by simp)).trans (hF.mono (by simp) (by simp))⟩
end
end Go.Proofs.YtiepopbmbgfhkaaGreat
