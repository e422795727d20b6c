/-
  The keys of completion.
-/
import Derived.Test.YtiepopbmbgfhkaaGreatB14
import Derived.Test.YtiepopbmbgfhkaaGreatB17
namespace Go.Proofs.YtiepopbmbgfhkaaGreat
open Go.RowKit
set_option maxHeartbeats 2000000
set_option maxRecDepth 20000
set_option linter.unusedVariables false
set_option linter.unusedSimpArgs false

section
variable {base : Nat} {w w1 : World} {r o b L c : Nat} {pre : ByteArray} {cols n m : Nat} {t t' : ByteArray} {k k' : Nat} {q : Cp} {sel vs sel' vs' : Int} {tmp tmp' : List Pk}
theorem Scr.cmUpd (h : Scr base w r o b L c pre cols n t k q sel vs tmp) (hC : Cm base w1 c q sel' vs' tmp') (hF : Fr base [] [c] w w1) : Scr base w1 r o b L c pre cols n t k q sel' vs' tmp' := by
  obtain ⟨cs, hc⟩ := h.cm.blk
  refine ⟨h.rn.fr hF (by simp) fun x hx => ?_, h.buf.frB hF (by simp) fun x hx => ?_, hC⟩
  · simp only [List.mem_singleton] at hx; subst hx; exact ⟨cs, 87, hc, by decide, by decide, by decide⟩
  · simp only [List.mem_singleton] at hx; subst hx; exact ⟨cs, 87, hc, by decide, by decide, by decide⟩
theorem Scr.bufUpd (h : Scr base w r o b L c pre cols n t k q sel vs tmp) (hB : Buf base w1 b L t' k') (hF : Fr base [] [b, L] w w1) : Scr base w1 r o b L c pre cols n t' k' q sel vs tmp := by
  obtain ⟨⟨cs, hb⟩, ds, hL⟩ := h.buf.blk
  refine ⟨h.rn.fr hF (by simp) fun x hx => ?_, hB, h.cm.fr hF (by simp) fun x hx => ?_⟩
  · simp only [List.mem_cons, List.not_mem_nil, or_false] at hx
    rcases hx with rfl | rfl
    · exact ⟨cs, 121, hb, by decide, by decide, by decide⟩
    · exact ⟨ds, 9, hL, by decide, by decide, by decide⟩
  · simp only [List.mem_cons, List.not_mem_nil, or_false] at hx
    rcases hx with rfl | rfl
    · exact ⟨cs, 121, hb, by decide, by decide, by decide, by decide⟩
    · exact ⟨ds, 9, hL, by decide, by decide, by decide, by decide⟩
end

/-- What is asked of a prompt's stand. -/
structure StOk (I : Pid) (D : Dyn) : Prop where
  ok : ScrOk I.pre I.cols D.t D.k I.q
  tl : D.tmp.length ≤ 1000
  tp : ∀ x ∈ D.tmp, Prn x.1 ∧ x.1.size ≤ 100 ∧ Prn x.2 ∧ x.2.size ≤ 100
  sel : D.sel = -1 ∨ ∃ s : Nat, D.sel = s ∧ s < D.tmp.length
  v0 : 0 ≤ D.vs
  v1 : D.vs ≤ 1000

/-- What 'Next', 'Previous' make of it. -/
def Dyn.next (D : Dyn) (I : Pid) : Dyn := { D with sel := (nextS I.q D.sel D.vs D.tmp).1, vs := (nextS I.q D.sel D.vs D.tmp).2.1, tmp := (nextS I.q D.sel D.vs D.tmp).2.2 }
def Dyn.prev (D : Dyn) (I : Pid) : Dyn := { D with sel := (prevS I.q D.sel D.vs D.tmp).1, vs := (prevS I.q D.sel D.vs D.tmp).2.1, tmp := (prevS I.q D.sel D.vs D.tmp).2.2 }
/-- A text is put at a cursor. -/
def putT (t : ByteArray) (k : Nat) (v : ByteArray) : ByteArray := t.extract 0 k ++ v ++ t.extract k t.size
/-- The word ahead of the cursor gives way to a text. -/
def chosenT (sep t : ByteArray) (k : Nat) (v : ByteArray) : ByteArray := putT (t.extract 0 (wordAt sep t k) ++ t.extract k t.size) (wordAt sep t k) v
def Dyn.text (D : Dyn) (i : Nat) : ByteArray := ((D.tmp[i]?).map Prod.fst).getD .empty
def Dyn.chosen (D : Dyn) (I : Pid) : Dyn :=
  if D.sel = -1 then { D with vs := 0, tmp := I.q.offs }
  else { D with t := chosenT I.q.sep D.t D.k (D.text D.sel.toNat), k := wordAt I.q.sep D.t D.k + (D.text D.sel.toNat).size, sel := -1, vs := 0, tmp := I.q.offs }
def Dyn.comp (D : Dyn) (I : Pid) (key : Int) : Dyn :=
  if key = 37 then (if D.sel ≠ -1 ∨ I.down = true then D.next I else D)
  else if key = 54 then D.next I
  else if key = 36 then (if D.sel ≠ -1 then D.prev I else D)
  else if key = 51 then D.prev I
  else D.chosen I

section
variable {base : Nat} {w : World} {I : Pid} {D : Dyn}
theorem StOk.selB (h : StOk I D) : -10 ≤ D.sel ∧ D.sel ≤ 1000 := by
  have := h.tl
  rcases h.sel with e | ⟨s, e, hs⟩ <;> omega

def CompPost (base : Nat) (I : Pid) (D D' : Dyn) (w : World) (e : Ending) (w' : World) : Prop :=
  e = .returned (.tuple #[]) ∧ St base w' I D' ∧ Fr base [] [D.b, D.L, I.c] w w'

theorem st_next {w1 : World} {n : Nat} (h : St base w I D) (hC : Cm base w1 I.c I.q (nextS I.q D.sel D.vs D.tmp).1 (nextS I.q D.sel D.vs D.tmp).2.1 (nextS I.q D.sel D.vs D.tmp).2.2) (hF : Fr base [] [I.c] w w1) : St base w1 I (D.next I) ∧ Fr base [] [D.b, D.L, I.c] w w1 := by
  have hF' : Fr base [5, 143] [D.b, D.L, I.r, I.c] w w1 := hF.mono (by simp) (by simp)
  exact ⟨h.upd hF' (h.scr.cmUpd hC hF), hF.mono (by simp) (by simp)⟩
theorem st_prev {w1 : World} {n : Nat} (h : St base w I D) (hC : Cm base w1 I.c I.q (prevS I.q D.sel D.vs D.tmp).1 (prevS I.q D.sel D.vs D.tmp).2.1 (prevS I.q D.sel D.vs D.tmp).2.2) (hF : Fr base [] [I.c] w w1) : St base w1 I (D.prev I) ∧ Fr base [] [D.b, D.L, I.c] w w1 := by
  have hF' : Fr base [5, 143] [D.b, D.L, I.r, I.c] w w1 := hF.mono (by simp) (by simp)
  exact ⟨h.upd hF' (h.scr.cmUpd hC hF), hF.mono (by simp) (by simp)⟩

theorem comp_down (h : St base w I D) (hk : StOk I D) (cp : Bool) (hcp : cp = (D.sel != -1)) :
    Calls Tryz.prog 87 #[.pointer (some ⟨I.p, 0, none⟩), .int .i64 37, .bool cp] w (CompPost base I D (D.comp I 37) w) := by
  obtain ⟨c0, c1, c2, c3, c4, c5, c6, c7, c8, c9, f0, hlt⟩ := prC h.pr
  have hb := hk.selB
  have v0 := hk.v0
  have v1 := hk.v1
  have hno : St base w I D ∧ Fr base [] [D.b, D.L, I.c] w w := ⟨h, Fr.refl _ _ _ _⟩
  cases cp with
  | true =>
    have e1 : D.comp I 37 = D.next I := by
      have hs : D.sel ≠ -1 := by simpa using hcp.symm
      simp [Dyn.comp, hs]
    rw [e1]
    clear hcp
    go_enter Tryz.func87, Tryz.ntmps87
    go_wp2_with (fail)
    refine (next_c h.scr.cm hk.ok.hq hk.tl hb.1 hb.2 (by omega) v1).mono ?_
    rintro e w1 ⟨rfl, hC, hF⟩
    go_wp2
    go_end0
    exact ⟨rfl, st_next (n := 0) h hC hF⟩
  | false =>
    have hs : D.sel = -1 := by simpa using hcp.symm
    clear hcp
    cases hd : I.down with
    | true =>
      have e1 : D.comp I 37 = D.next I := by simp [Dyn.comp, hd]
      rw [e1]
      rw [hd] at c8
      clear hd hs
      go_enter Tryz.func87, Tryz.ntmps87
      go_wp2_with (fail)
      refine (next_c h.scr.cm hk.ok.hq hk.tl hb.1 hb.2 (by omega) v1).mono ?_
      rintro e w1 ⟨rfl, hC, hF⟩
      go_wp2
      go_end0
      exact ⟨rfl, st_next (n := 0) h hC hF⟩
    | false =>
      have e1 : D.comp I 37 = D := by simp [Dyn.comp, hd, hs]
      rw [e1]
      rw [hd] at c8
      clear hd hs
      go_enter Tryz.func87, Tryz.ntmps87
      go_wp2_with (fail)
      go_end0
      exact ⟨rfl, hno⟩

theorem comp_tab (h : St base w I D) (hk : StOk I D) (cp : Bool) :
    Calls Tryz.prog 87 #[.pointer (some ⟨I.p, 0, none⟩), .int .i64 54, .bool cp] w (CompPost base I D (D.comp I 54) w) := by
  obtain ⟨c0, c1, c2, c3, c4, c5, c6, c7, c8, c9, f0, hlt⟩ := prC h.pr
  have hb := hk.selB
  have v0 := hk.v0
  have v1 := hk.v1
  have e1 : D.comp I 54 = D.next I := by simp [Dyn.comp]
  rw [e1]
  go_enter Tryz.func87, Tryz.ntmps87
  go_wp2_with (fail)
  refine (next_c h.scr.cm hk.ok.hq hk.tl hb.1 hb.2 (by omega) v1).mono ?_
  rintro e w1 ⟨rfl, hC, hF⟩
  go_wp2
  go_end0
  exact ⟨rfl, st_next (n := 0) h hC hF⟩

theorem comp_up (h : St base w I D) (hk : StOk I D) (cp : Bool) (hcp : cp = (D.sel != -1)) :
    Calls Tryz.prog 87 #[.pointer (some ⟨I.p, 0, none⟩), .int .i64 36, .bool cp] w (CompPost base I D (D.comp I 36) w) := by
  obtain ⟨c0, c1, c2, c3, c4, c5, c6, c7, c8, c9, f0, hlt⟩ := prC h.pr
  have hb := hk.selB
  have v0 := hk.v0
  have v1 := hk.v1
  have hno : St base w I D ∧ Fr base [] [D.b, D.L, I.c] w w := ⟨h, Fr.refl _ _ _ _⟩
  cases cp with
  | true =>
    have e1 : D.comp I 36 = D.prev I := by
      have hs : D.sel ≠ -1 := by simpa using hcp.symm
      simp [Dyn.comp, hs]
    rw [e1]
    clear hcp
    go_enter Tryz.func87, Tryz.ntmps87
    go_wp2_with (fail)
    refine (prev_c h.scr.cm hk.ok.hq hk.tl hb.1 hb.2 (by omega) v1).mono ?_
    rintro e w1 ⟨rfl, hC, hF⟩
    go_wp2
    go_end0
    exact ⟨rfl, st_prev (n := 0) h hC hF⟩
  | false =>
    have hs : D.sel = -1 := by simpa using hcp.symm
    have e1 : D.comp I 36 = D := by simp [Dyn.comp, hs]
    rw [e1]
    clear hcp hs
    go_enter Tryz.func87, Tryz.ntmps87
    go_wp2_with (fail)
    go_end0
    exact ⟨rfl, hno⟩

theorem comp_back (h : St base w I D) (hk : StOk I D) (cp : Bool) :
    Calls Tryz.prog 87 #[.pointer (some ⟨I.p, 0, none⟩), .int .i64 51, .bool cp] w (CompPost base I D (D.comp I 51) w) := by
  obtain ⟨c0, c1, c2, c3, c4, c5, c6, c7, c8, c9, f0, hlt⟩ := prC h.pr
  have hb := hk.selB
  have v0 := hk.v0
  have v1 := hk.v1
  have e1 : D.comp I 51 = D.prev I := by simp [Dyn.comp]
  rw [e1]
  go_enter Tryz.func87, Tryz.ntmps87
  go_wp2_with (fail)
  refine (prev_c h.scr.cm hk.ok.hq hk.tl hb.1 hb.2 (by omega) v1).mono ?_
  rintro e w1 ⟨rfl, hC, hF⟩
  go_wp2
  go_end0
  exact ⟨rfl, st_prev (n := 0) h hC hF⟩
end
end Go.Proofs.YtiepopbmbgfhkaaGreat
