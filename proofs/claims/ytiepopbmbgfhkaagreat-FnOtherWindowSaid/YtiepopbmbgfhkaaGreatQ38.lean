/-
  The set's player in plain terms, and that it goes as a prompt goes.
  What is kept of a player's stand along a play; two sessions that differ in their window alone.
  Two sessions that differ in their window alone: what is executed, and how the line stands, is the same.
-/
import Derived.Test.YtiepopbmbgfhkaaGreatQ36
import Derived.Test.YtiepopbmbgfhkaaGreatQ37
namespace Go.Proofs.YtiepopbmbgfhkaaGreat
open Go.RowKit
set_option maxHeartbeats 2000000
set_option maxRecDepth 20000
set_option linter.unusedVariables false
set_option linter.unusedSimpArgs false

def PS.wt (s : PS) (x : List Pk) : PS := { s with tmp := x }
/-- What a key makes of the suggestions, by the set's player: those that are offered are kept till the end of the key. -/
def PS.choose (s : PS) (q : Cp) (down : Bool) (key : Int) : PS := (s.comp q down key).wt s.tmp
def PS.ran (s : PS) : PS := { s.enter with lines := s.enter.lines ++ [s.t] }
/-- What a key does by itself: the stand; whether it is over; whether nothing is said any more; whether its bindings are not asked. -/
def PS.act (s : PS) (et : ByteArray) (down cpl : Bool) (l : List UInt8) : PS × Bool × Bool × Bool :=
  if keyOf l = 55 ∨ keyOf l = 13 then (s.ran, decide (et ≠ .empty ∧ s.t = et), false, false)
  else if keyOf l = 3 then (s.cancel, false, false, false)
  else if keyOf l = 36 ∨ keyOf l = 16 then (if cpl then s else s.older, false, false, false)
  else if keyOf l = 37 ∨ keyOf l = 14 then (if cpl then s else s.newer, false, !cpl && decide (s.hsel + 1 < s.ts.length) && down && decide (keyOf l = 37), true)
  else if keyOf l = 4 then (s, decide (s.t = .empty), false, false)
  else if keyOf l = 86 then (s.typed ⟨l.toArray⟩, false, false, false)
  else (s, false, false, false)

/-- The set's player: a stand, whether it is over, whether nothing is said any more. -/
structure PL where
  s : PS
  over : Bool
  opn : Bool

def PL.key (p : PL) (q : Cp) (down : Bool) (et mode : ByteArray) (l : List UInt8) : PL :=
  if p.over then p else
  match (p.s.choose q down (keyOf l)).act et down (decide (p.s.sel ≠ -1)) l with
  | (s2, ov, op, ret) => { s := (if ret || ov then s2 else bdP mode (keyOf l) s2).update q, over := ov, opn := p.opn || op }

section
variable (s : PS) (x : List Pk)
theorem wt_update (q : Cp) : (s.wt x).update q = s.update q := rfl
theorem wt_enter : (s.wt x).enter = s.enter.wt x := by
  unfold PS.enter
  by_cases h : s.t = .empty
  · rw [if_pos h, if_pos (show (s.wt x).t = .empty from h)]; rfl
  · rw [if_neg h, if_neg (show ¬ (s.wt x).t = .empty from h)]; rfl
theorem wt_ran : (s.wt x).ran = s.ran.wt x := by
  unfold PS.ran; rw [wt_enter]; rfl
theorem wt_cancel : (s.wt x).cancel = s.cancel.wt x := rfl
theorem wt_older : (s.wt x).older = s.older.wt x := by
  unfold PS.older
  by_cases h : s.ts.length = 1 ∨ s.hsel = 0
  · rw [if_pos h, if_pos (show (s.wt x).ts.length = 1 ∨ (s.wt x).hsel = 0 from h)]
  · rw [if_neg h, if_neg (show ¬ ((s.wt x).ts.length = 1 ∨ (s.wt x).hsel = 0) from h)]; rfl
theorem wt_newer : (s.wt x).newer = s.newer.wt x := by
  unfold PS.newer
  by_cases h : s.ts.length ≤ s.hsel + 1
  · rw [if_pos h, if_pos (show (s.wt x).ts.length ≤ (s.wt x).hsel + 1 from h)]
  · rw [if_neg h, if_neg (show ¬ ((s.wt x).ts.length ≤ (s.wt x).hsel + 1) from h)]; rfl
theorem wt_typed (v : ByteArray) : (s.wt x).typed v = (s.typed v).wt x := rfl
theorem wt_bdP (mode : ByteArray) (key : Int) : bdP mode key (s.wt x) = (bdP mode key s).wt x := rfl
theorem wt_ite (b : Bool) (u v : PS) : (if b then u.wt x else v.wt x) = (if b then u else v).wt x := by cases b <;> rfl
end

/-- Keys that are bound to nothing. -/
theorem bdF_none {mode : ByteArray} {key : Int} {p : ByteArray × Nat} (h : key = 55 ∨ key = 13 ∨ key = 3 ∨ key = 36 ∨ key = 16 ∨ key = 37 ∨ key = 14 ∨ key = 54 ∨ key = 51 ∨ key = 86) : bdF mode key p = p := by
  have e1 : apB comT key p = p := by
    rcases h with rfl | rfl | rfl | rfl | rfl | rfl | rfl | rfl | rfl | rfl <;> rfl
  have e2 : apB emaT key p = p := by
    rcases h with rfl | rfl | rfl | rfl | rfl | rfl | rfl | rfl | rfl | rfl <;> rfl
  unfold bdF
  split
  · rw [e1, e2]
  · exact e1
theorem bdP_none {mode : ByteArray} {key : Int} {s : PS} (h : key = 55 ∨ key = 13 ∨ key = 3 ∨ key = 36 ∨ key = 16 ∨ key = 37 ∨ key = 14 ∨ key = 54 ∨ key = 51 ∨ key = 86) : bdP mode key s = s := by
  unfold bdP; rw [bdF_none h]

theorem key_fed {p : PL} {q : Cp} {down : Bool} {et mode : ByteArray} {l : List UInt8} (hov : p.over = false) (h10 : keyOf l ≠ 10) :
    (p.key q down et mode l).over = (p.s.fed q down et (bdP mode) l).2 ∧ ((p.key q down et mode l).over = false → (p.key q down et mode l).s = (p.s.fed q down et (bdP mode) l).1) ∧ ∃ x, (p.s.fed q down et (bdP mode) l).1 = (p.key q down et mode l).s.wt x ∧ (x = (p.key q down et mode l).s.tmp ∨ (x = q.offs ∧ (p.key q down et mode l).s.sel = -1)) := by
  obtain ⟨s, ov, op⟩ := p
  subst hov
  obtain ⟨key, hkey⟩ : ∃ key, keyOf l = key := ⟨_, rfl⟩
  rw [hkey] at h10
  unfold PL.key
  rw [if_neg (by simp)]
  simp only
  unfold PS.fed PS.feed PS.choose
  rw [hkey]
  obtain ⟨c, hc⟩ : ∃ c, s.comp q down key = c := ⟨_, rfl⟩
  rw [hc]
  have hsel : (decide (s.sel ≠ -1) = true) ↔ ¬ s.sel = -1 := by simp
  unfold PS.act
  rw [hkey, wt_ran, wt_cancel, wt_older, wt_newer, wt_typed]
  have et' : (c.wt s.tmp).t = c.t := rfl
  rw [et', wt_ite, wt_ite]
  by_cases c1 : key = 55 ∨ key = 13
  · rw [if_pos c1, if_pos (show key = 55 ∨ key = 10 ∨ key = 13 by omega)]
    have e : bdP mode key c.enter = c.enter := bdP_none (by omega)
    have e2 : bdP mode key (c.ran.wt s.tmp) = c.ran.wt s.tmp := bdP_none (by omega)
    simp only [e, e2, ite_self]
    exact ⟨by first | rfl | trivial, fun _ => by first | rfl | trivial, _, rfl, .inl rfl⟩
  rw [if_neg c1, if_neg (show ¬ (key = 55 ∨ key = 10 ∨ key = 13) by omega)]
  by_cases c2 : key = 3
  · rw [if_pos c2, if_pos c2]
    exact ⟨by first | rfl | trivial, fun _ => by first | rfl | trivial, _, rfl, .inl rfl⟩
  rw [if_neg c2, if_neg c2]
  by_cases c3 : key = 36 ∨ key = 16
  · rw [if_pos c3, if_pos c3]
    by_cases hs : s.sel = -1
    · rw [if_pos hs]; simp only [hs]
      exact ⟨by first | rfl | trivial, fun _ => by first | rfl | trivial, _, rfl, .inl rfl⟩
    · rw [if_neg hs]
      have : decide (s.sel ≠ -1) = true := by simpa using hs
      simp only [this]
      exact ⟨by first | rfl | trivial, fun _ => by first | rfl | trivial, _, rfl, .inl rfl⟩
  rw [if_neg c3, if_neg c3]
  by_cases c4 : key = 37 ∨ key = 14
  · rw [if_pos c4, if_pos c4]
    have e : bdP mode key c = c := bdP_none (by omega)
    by_cases hs : s.sel = -1
    · rw [if_pos hs]; simp only [hs]
      exact ⟨by first | rfl | trivial, fun _ => by first | rfl | trivial, _, rfl, .inl rfl⟩
    · rw [if_neg hs, e]
      have : decide (s.sel ≠ -1) = true := by simpa using hs
      simp only [this]
      exact ⟨by first | rfl | trivial, fun _ => by first | rfl | trivial, _, rfl, .inl rfl⟩
  rw [if_neg c4, if_neg c4]
  by_cases c5 : key = 4
  · rw [if_pos c5, if_pos c5]
    by_cases hz : c.t = .empty
    · rw [if_pos hz]
      have : decide (c.t = .empty) = true := by simpa using hz
      simp only [this]
      have hc4 : c.tmp = q.offs ∧ c.sel = -1 := by
        rw [← hc, c5]
        unfold PS.comp
        rw [if_neg (by omega), if_neg (by omega), if_neg (by omega), if_neg (by omega)]
        unfold PS.chosen
        split
        · next h => exact ⟨rfl, h⟩
        · exact ⟨rfl, rfl⟩
      exact ⟨by first | rfl | trivial, fun h => by simp at h, c.tmp, rfl, .inr ⟨hc4.1, hc4.2⟩⟩
    · rw [if_neg hz]
      have : decide (c.t = .empty) = false := by simpa using hz
      simp only [this]
      exact ⟨by first | rfl | trivial, fun _ => by first | rfl | trivial, _, rfl, .inl rfl⟩
  rw [if_neg c5, if_neg c5]
  by_cases c6 : key = 86
  · rw [if_pos c6, if_pos c6]
    exact ⟨by first | rfl | trivial, fun _ => by first | rfl | trivial, _, rfl, .inl rfl⟩
  rw [if_neg c6, if_neg c6]
  exact ⟨by first | rfl | trivial, fun _ => by first | rfl | trivial, _, rfl, .inl rfl⟩

/-- Chunk by chunk. -/
def PL.play (p : PL) (S : Sess) (cs : List ByteArray) : PL := cs.foldl (fun p c => p.key (S.cp 0 0) S.down S.exit S.mode c.data.toList) p
def Sess.p0 (S : Sess) : PL := ⟨S.g0, false, false⟩
theorem PL.play_succ (p : PL) (S : Sess) (cs : List ByteArray) (i : Nat) (hi : i < cs.length) : p.play S (cs.take (i + 1)) = (p.play S (cs.take i)).key (S.cp 0 0) S.down S.exit S.mode cs[i].data.toList := by
  unfold PL.play
  rw [List.take_succ_eq_append_getElem hi, List.foldl_append]
  rfl
end Go.Proofs.YtiepopbmbgfhkaaGreat

namespace Go.Proofs.YtiepopbmbgfhkaaGreat
open Go.RowKit
set_option maxHeartbeats 2000000
set_option maxRecDepth 20000
set_option linter.unusedVariables false
set_option linter.unusedSimpArgs false

/-- What is kept of where the suggestions stand. -/
def Wn (most : Nat) (len : Nat) (sel vs : Int) : Prop := (sel = -1 ∧ vs = 0) ∨ ∃ n : Nat, sel = n ∧ n < len ∧ 0 ≤ vs ∧ vs ≤ n ∧ (n : Int) < vs + most ∧ vs + (min most len : Nat) ≤ len
/-- What is kept of a stand behind i chunks. -/
structure Kept (S : Sess) (i : Nat) (s : PS) : Prop where
  ht : Prn s.t
  hk : s.k ≤ s.t.size
  hts : s.t.size ≤ 200
  sel : Wn S.most s.tmp.length s.sel s.vs
  tmp : s.tmp = [] ∨ s.tmp = fit (s.t.extract (wordAt S.sep s.t s.k) s.k) S.offs
  hh : ∀ x ∈ s.hs, Prn x ∧ x.size ≤ 240
  hhl : s.hs.length ≤ 8 + i
  hT : ∀ x ∈ s.ts, Prn x ∧ x.size ≤ 240
  hTl : s.ts.length = s.hs.length + 1
  hsl : s.hsel < s.ts.length
  hl : s.lines.length ≤ i

theorem wn_upd {q : Cp} {sel vs : Int} {tmp : List Pk} (hm : 1 ≤ q.most) (h : Wn q.most tmp.length sel vs) : Wn q.most tmp.length (nextS q sel vs tmp).1 (nextS q sel vs tmp).2.1 := by
  unfold nextS updS
  by_cases h1 : (tmp.length : Int) ≤ sel + 1
  · rw [if_pos h1]; exact .inl ⟨rfl, rfl⟩
  · rw [if_neg h1]
    have hs : -1 ≤ sel := by rcases h with ⟨e, -⟩ | ⟨n, e, -⟩ <;> omega
    rw [if_neg (by omega)]
    rcases h with ⟨e, ev⟩ | ⟨n, e, h2, h3, h4, h5, h6⟩
    · refine .inr ⟨0, by show sel + 1 = _; omega, by omega, ?_⟩
      rw [if_neg (by omega)]
      simp only
      omega
    · refine .inr ⟨n + 1, by show sel + 1 = _; omega, by omega, ?_⟩
      simp only
      split <;> omega
theorem wn_prev {q : Cp} {sel vs : Int} {tmp : List Pk} (hm : 1 ≤ q.most) (h : Wn q.most tmp.length sel vs) : Wn q.most tmp.length (prevS q sel vs tmp).1 (prevS q sel vs tmp).2.1 := by
  unfold prevS updS shown
  have hs : -1 ≤ sel := by rcases h with ⟨e, -⟩ | ⟨n, e, -⟩ <;> omega
  have hs2 : sel ≤ tmp.length := by rcases h with ⟨e, -⟩ | ⟨n, e, hn, -⟩ <;> omega
  rw [if_neg (by omega)]
  by_cases h1 : sel - 1 < -1
  · rw [if_pos h1]
    by_cases h0 : tmp.length = 0
    · exact .inl ⟨by simp only; omega, by simp only; omega⟩
    · refine .inr ⟨tmp.length - 1, by simp only; omega, by omega, ?_⟩
      simp only
      omega
  · rw [if_neg h1]
    rcases h with ⟨e, ev⟩ | ⟨n, e, h2, h3, h4, h5, h6⟩
    · omega
    · by_cases h0 : n = 0
      · refine .inl ⟨by simp only; omega, ?_⟩
        simp only
        split <;> omega
      · refine .inr ⟨n - 1, by simp only; omega, by omega, ?_⟩
        simp only
        split <;> omega

theorem fit_len (word : ByteArray) (xs : List Pk) : (fit word xs).length ≤ xs.length := List.length_filter_le _ _
theorem fit_mem {word : ByteArray} {xs : List Pk} {x : Pk} (h : x ∈ fit word xs) : x ∈ xs := (List.mem_filter.1 h).1

theorem Kept.tmp_mem {S : Sess} {i : Nat} {s : PS} (h : Kept S i s) : (∀ x ∈ s.tmp, x ∈ S.offs) ∧ s.tmp.length ≤ S.offs.length := by
  rcases h.tmp with e | e
  · rw [e]; exact ⟨fun x hx => absurd hx (by simp), by simp⟩
  · rw [e]; exact ⟨fun x hx => fit_mem hx, fit_len _ _⟩

/-- The prompt's stand is one that is asked for. -/
theorem Kept.gok {S : Sess} {i : Nat} {s : PS} {x : List Pk} (h : Kept S i s) (hS : SessOk S) (hi : i ≤ 40) (hx : x = s.tmp ∨ (x = S.offs ∧ s.sel = -1)) : GOk S (s.wt x) := by
  obtain ⟨m1, m2⟩ := h.tmp_mem
  have hol := hS.hol
  have hxm : (∀ y ∈ x, y ∈ S.offs) ∧ x.length ≤ 12 := by
    rcases hx with e | ⟨e, -⟩
    · rw [e]; exact ⟨m1, by omega⟩
    · rw [e]; exact ⟨fun y hy => hy, by omega⟩
  have hsel : (s.sel = -1 ∧ s.vs = 0) ∨ ∃ n : Nat, s.sel = n ∧ n < x.length ∧ 0 ≤ s.vs ∧ s.vs ≤ n ∧ (n : Int) < s.vs + S.most ∧ s.vs + (min S.most x.length : Nat) ≤ x.length := by
    rcases h.sel with h1 | ⟨n, e, h1⟩
    · exact .inl h1
    · rcases hx with e2 | ⟨-, e2⟩
      · rw [e2]; exact .inr ⟨n, e, h1⟩
      · omega
  refine ⟨fun I j hId => ?_, hxm.2, ?_⟩
  · have hq : I.q.offs = S.offs := by rw [hId.q]; rfl
    have hhl := h.hhl
    have hTl := h.hTl
    have hl := h.hl
    refine ⟨h.ht, Nat.le_trans h.hts (by omega), h.hk, ?_, ?_, ?_, by show x.length ≤ 1000; omega, by rw [hq]; exact hxm.1, fun y hy => ⟨(h.hh y hy).1, Nat.le_trans (h.hh y hy).2 (by omega)⟩, by show s.hs.length ≤ 1000; omega, fun y hy => ⟨(h.hT y hy).1, Nat.le_trans (h.hT y hy).2 (by omega)⟩, by show s.ts.length ≤ 1001; omega, h.hsl, by show s.lines.length ≤ 900; omega⟩
    · rcases hsel with h1 | ⟨n, e, h1, -⟩
      · exact .inl h1.1
      · exact .inr ⟨n, e, h1⟩
    · show 0 ≤ s.vs
      rcases hsel with h1 | ⟨n, e, h1⟩ <;> omega
    · show s.vs ≤ 1000
      have := hxm.2
      rcases hsel with h1 | ⟨n, e, h1⟩ <;> omega
  · show s.vs + (min S.most x.length : Nat) ≤ x.length
    rcases hsel with h1 | ⟨n, e, h1⟩ <;> omega

/-- What the keys of completion leave. -/
structure CFacts (S : Sess) (s c : PS) (key : Int) : Prop where
  ht : Prn c.t
  hk : c.k ≤ c.t.size
  hts : c.t.size ≤ 240
  hs : c.hs = s.hs
  ts : c.ts = s.ts
  hsel : c.hsel = s.hsel
  lines : c.lines = s.lines
  sel : (c.sel = -1 ∧ c.vs = 0) ∨ (Wn S.most s.tmp.length c.sel c.vs ∧ c.t = s.t ∧ c.k = s.k ∧ (key = 54 ∨ key = 51 ∨ (key = 36 ∧ s.sel ≠ -1) ∨ (key = 37 ∧ (s.sel ≠ -1 ∨ S.down = true))))

theorem comp_facts {S : Sess} {i : Nat} {s : PS} (h : Kept S i s) (hS : SessOk S) (key : Int) : CFacts S s (s.comp (S.cp 0 0) S.down key) key := by
  obtain ⟨m1, m2⟩ := h.tmp_mem
  have hts := h.hts
  have hkk := h.hk
  have hm : 1 ≤ (S.cp 0 0).most := hS.m1
  have same : ∀ P : Prop, (s.sel = -1 ∧ s.vs = 0) → ((s.sel = -1 ∧ s.vs = 0) ∨ P) := fun P h => .inl h
  unfold PS.comp
  by_cases k1 : key = 37
  · rw [if_pos k1]
    by_cases hc : s.sel ≠ -1 ∨ S.down = true
    · rw [if_pos hc]
      exact ⟨h.ht, h.hk, by show s.t.size ≤ 240; omega, rfl, rfl, rfl, rfl, .inr ⟨wn_upd (q := S.cp 0 0) hm h.sel, rfl, rfl, .inr (.inr (.inr ⟨k1, hc⟩))⟩⟩
    · rw [if_neg hc]
      refine ⟨h.ht, h.hk, by omega, rfl, rfl, rfl, rfl, ?_⟩
      rcases h.sel with h1 | ⟨n, e, h1⟩
      · exact .inl h1
      · exact absurd (.inl (by omega)) hc
  rw [if_neg k1]
  by_cases k2 : key = 54
  · rw [if_pos k2]
    exact ⟨h.ht, h.hk, by show s.t.size ≤ 240; omega, rfl, rfl, rfl, rfl, .inr ⟨wn_upd (q := S.cp 0 0) hm h.sel, rfl, rfl, .inl k2⟩⟩
  rw [if_neg k2]
  by_cases k3 : key = 36
  · rw [if_pos k3]
    by_cases hc : s.sel ≠ -1
    · rw [if_pos hc]
      exact ⟨h.ht, h.hk, by show s.t.size ≤ 240; omega, rfl, rfl, rfl, rfl, .inr ⟨wn_prev (q := S.cp 0 0) hm h.sel, rfl, rfl, .inr (.inr (.inl ⟨k3, hc⟩))⟩⟩
    · rw [if_neg hc]
      refine ⟨h.ht, h.hk, by omega, rfl, rfl, rfl, rfl, ?_⟩
      rcases h.sel with h1 | ⟨n, e, h1⟩
      · exact .inl h1
      · exact absurd (by omega) hc
  rw [if_neg k3]
  by_cases k4 : key = 51
  · rw [if_pos k4]
    exact ⟨h.ht, h.hk, by show s.t.size ≤ 240; omega, rfl, rfl, rfl, rfl, .inr ⟨wn_prev (q := S.cp 0 0) hm h.sel, rfl, rfl, .inr (.inl k4)⟩⟩
  rw [if_neg k4]
  unfold PS.chosen
  by_cases hc : s.sel = -1
  · rw [if_pos hc]
    exact ⟨h.ht, h.hk, by show s.t.size ≤ 240; omega, rfl, rfl, rfl, rfl, .inl ⟨hc, rfl⟩⟩
  · rw [if_neg hc]
    obtain ⟨n, e, e2, -⟩ := h.sel.resolve_left (fun h => hc h.1)
    have hx := hS.ho _ (m1 _ (List.getElem_mem e2))
    have et : s.text s.sel.toNat = s.tmp[n].1 := by simp [PS.text, e, e2]
    have hw := wordAt_le S.sep s.t s.k
    have hsz : (s.t.extract 0 (wordAt S.sep s.t s.k) ++ s.t.extract s.k s.t.size).size ≤ s.t.size := by rw [ByteArray.size_append]; simp; omega
    have hsz2 : wordAt S.sep s.t s.k ≤ (s.t.extract 0 (wordAt S.sep s.t s.k) ++ s.t.extract s.k s.t.size).size := by rw [ByteArray.size_append]; simp; omega
    have hsz3 := size_put (v := s.tmp[n].1) hsz2
    rw [et]
    have h9 : s.tmp[n].1.size ≤ 40 := hx.2.1
    refine ⟨prn_put (prn_append (h.ht.extract _ _) (h.ht.extract _ _)) hx.1 _, ?_, ?_, rfl, rfl, rfl, rfl, .inl ⟨rfl, rfl⟩⟩
    · show wordAt S.sep s.t s.k + s.tmp[n].1.size ≤ (putT (s.t.extract 0 (wordAt S.sep s.t s.k) ++ s.t.extract s.k s.t.size) (wordAt S.sep s.t s.k) s.tmp[n].1).size
      rw [hsz3]; omega
    · show (putT (s.t.extract 0 (wordAt S.sep s.t s.k) ++ s.t.extract s.k s.t.size) (wordAt S.sep s.t s.k) s.tmp[n].1).size ≤ 240
      rw [hsz3]; omega

theorem bdF_ok {n : Nat} {mode : ByteArray} {key : Int} {s : ByteArray × Nat} (h : OkG n s) : OkG n (bdF mode key s) := by
  unfold bdF
  split
  · exact apB_ok _ _ ema_mem (apB_ok _ _ com_mem h)
  · exact apB_ok _ _ com_mem h

/-- What is kept of the line, and of the history, behind what a key does by itself. -/
structure AFacts (S : Sess) (i : Nat) (c a : PS) : Prop where
  ht : Prn a.t
  hk : a.k ≤ a.t.size
  hh : ∀ x ∈ a.hs, Prn x ∧ x.size ≤ 240
  hhl : a.hs.length ≤ 8 + (i + 1)
  hT : ∀ x ∈ a.ts, Prn x ∧ x.size ≤ 240
  hTl : a.ts.length = a.hs.length + 1
  hsl : a.hsel < a.ts.length
  hl : a.lines.length ≤ i + 1
  sel : a.sel = c.sel
  vs : a.vs = c.vs
theorem getD_prn {l : List ByteArray} (h : ∀ x ∈ l, Prn x ∧ x.size ≤ 240) (j : Nat) : Prn (l.getD j .empty) ∧ (l.getD j .empty).size ≤ 240 := by
  rw [List.getD_eq_getElem?_getD]
  by_cases hj : j < l.length
  · rw [List.getElem?_eq_getElem hj]
    exact h _ (List.getElem_mem hj)
  · rw [List.getElem?_eq_none (by omega)]
    exact ⟨prn_empty, by show ByteArray.empty.size ≤ 240; decide⟩
theorem mem_set_prn {l : List ByteArray} (h : ∀ x ∈ l, Prn x ∧ x.size ≤ 240) (j : Nat) {t : ByteArray} (ht : Prn t ∧ t.size ≤ 240) : ∀ x ∈ l.set j t, Prn x ∧ x.size ≤ 240 := fun x hx => by
  rcases List.mem_or_eq_of_mem_set hx with h1 | h1
  · exact h x h1
  · rw [h1]; exact ht

theorem act_facts {S : Sess} {i : Nat} {s c : PS} {l : List UInt8} {et : ByteArray} (h : Kept S i s) (hc : CFacts S s c (keyOf l)) (hl : keyOf l = 86 → Prn ⟨l.toArray⟩) :
    AFacts S i c ((c.wt s.tmp).act et S.down (decide (s.sel ≠ -1)) l).1 ∧ (c.sel ≠ -1 → ((c.wt s.tmp).act et S.down (decide (s.sel ≠ -1)) l).2.2.1 = false → ((c.wt s.tmp).act et S.down (decide (s.sel ≠ -1)) l).1.t = s.t ∧ ((c.wt s.tmp).act et S.down (decide (s.sel ≠ -1)) l).1.k = s.k) := by
  obtain ⟨t, k, hs, ts, hsel, sel, vs, tmp, lines⟩ := c
  obtain ⟨key, hkey⟩ : ∃ key, keyOf l = key := ⟨_, rfl⟩
  rw [hkey] at hc hl
  obtain ⟨g1, g2, g3, g4, g5, g6, g7, g8⟩ := hc
  simp only at g1 g2 g3 g4 g5 g6 g7 g8
  have hh := h.hh
  have hhl := h.hhl
  have hT := h.hT
  have hTl := h.hTl
  have hsl := h.hsl
  have hll := h.hl
  rw [← g4] at hh hhl hTl
  rw [← g5] at hT hTl hsl
  rw [← g6] at hsl
  rw [← g7] at hll
  clear g4 g5 g6 g7
  have he : Prn ByteArray.empty ∧ ByteArray.empty.size ≤ 240 := ⟨prn_empty, by decide⟩
  have sl : sel ≠ -1 → t = s.t ∧ k = s.k ∧ (key = 54 ∨ key = 51 ∨ (key = 36 ∧ s.sel ≠ -1) ∨ (key = 37 ∧ (s.sel ≠ -1 ∨ S.down = true))) := fun hne => (g8.resolve_left (fun e => hne e.1)).2
  have bad : ∀ (P : Prop), key ≠ 54 → key ≠ 51 → key ≠ 36 → key ≠ 37 → sel ≠ -1 → P := fun P a1 a2 a3 a4 hne => by
    obtain ⟨-, -, h9⟩ := sl hne; omega
  unfold PS.act
  rw [hkey]
  by_cases c1 : key = 55 ∨ key = 13
  · rw [if_pos c1]
    refine ⟨?_, fun hne _ => bad _ (by omega) (by omega) (by omega) (by omega) hne⟩
    unfold PS.ran PS.enter
    by_cases hz : t = .empty
    · rw [if_pos (show (PS.wt ⟨t, k, hs, ts, hsel, sel, vs, tmp, lines⟩ s.tmp).t = .empty from hz)]
      exact ⟨prn_empty, Nat.zero_le _, hh, by show hs.length ≤ _; omega, hT, hTl, hsl, by show (lines ++ [t]).length ≤ _; simp; omega, rfl, rfl⟩
    · rw [if_neg (show ¬ (PS.wt ⟨t, k, hs, ts, hsel, sel, vs, tmp, lines⟩ s.tmp).t = .empty from hz)]
      have hh' : ∀ x ∈ hs ++ [t], Prn x ∧ x.size ≤ 240 := fun x hx => by
        rcases List.mem_append.1 hx with h1 | h1
        · exact hh x h1
        · rw [List.mem_singleton.1 h1]; exact ⟨g1, g3⟩
      exact ⟨prn_empty, Nat.zero_le _, hh', by show (hs ++ [t]).length ≤ _; simp; omega, fun x hx => by
        rcases List.mem_append.1 hx with h1 | h1
        · exact hh' x h1
        · rw [List.mem_singleton.1 h1]; exact he, by show (hs ++ [t] ++ [ByteArray.empty]).length = (hs ++ [t]).length + 1; simp, by show hs.length + 1 < (hs ++ [t] ++ [ByteArray.empty]).length; simp, by show (lines ++ [t]).length ≤ _; simp; omega, rfl, rfl⟩
  rw [if_neg c1]
  by_cases c2 : key = 3
  · rw [if_pos c2]
    refine ⟨?_, fun hne _ => bad _ (by omega) (by omega) (by omega) (by omega) hne⟩
    exact ⟨prn_empty, Nat.zero_le _, hh, by show hs.length ≤ _; omega, fun x hx => by
        rcases List.mem_append.1 hx with h1 | h1
        · exact hh x h1
        · rw [List.mem_singleton.1 h1]; exact he, by show (hs ++ [ByteArray.empty]).length = hs.length + 1; simp, by show hs.length < (hs ++ [ByteArray.empty]).length; simp, by show lines.length ≤ _; omega, rfl, rfl⟩
  rw [if_neg c2]
  have base : AFacts S i ⟨t, k, hs, ts, hsel, sel, vs, tmp, lines⟩ (PS.wt ⟨t, k, hs, ts, hsel, sel, vs, tmp, lines⟩ s.tmp) :=
    ⟨g1, g2, hh, by show hs.length ≤ _; omega, hT, hTl, hsl, by show lines.length ≤ _; omega, rfl, rfl⟩
  by_cases c3 : key = 36 ∨ key = 16
  · rw [if_pos c3]
    by_cases hs0 : s.sel = -1
    · have d : decide (s.sel ≠ -1) = false := by simpa using hs0
      rw [d]
      refine ⟨?_, fun hne _ => ?_⟩
      · simp only [Bool.false_eq_true, if_false]
        unfold PS.older
        by_cases hc3 : (PS.wt ⟨t, k, hs, ts, hsel, sel, vs, tmp, lines⟩ s.tmp).ts.length = 1 ∨ (PS.wt ⟨t, k, hs, ts, hsel, sel, vs, tmp, lines⟩ s.tmp).hsel = 0
        · rw [if_pos hc3]; exact base
        · rw [if_neg hc3]
          have hg := getD_prn hT (hsel - 1)
          exact ⟨hg.1, Nat.le_refl _, hh, by show hs.length ≤ _; omega, mem_set_prn hT _ ⟨g1, g3⟩, by show (ts.set hsel t).length = hs.length + 1; rw [List.length_set]; exact hTl, by show hsel - 1 < (ts.set hsel t).length; rw [List.length_set]; omega, by show lines.length ≤ _; omega, rfl, rfl⟩
      · obtain ⟨-, -, h9⟩ := sl hne
        omega
    · have d : decide (s.sel ≠ -1) = true := by simpa using hs0
      rw [d]
      exact ⟨base, fun hne _ => ⟨(sl hne).1, (sl hne).2.1⟩⟩
  rw [if_neg c3]
  by_cases c4 : key = 37 ∨ key = 14
  · rw [if_pos c4]
    by_cases hs0 : s.sel = -1
    · have d : decide (s.sel ≠ -1) = false := by simpa using hs0
      rw [d]
      simp only [Bool.false_eq_true, if_false, Bool.not_false, Bool.true_and]
      by_cases hc4 : (PS.wt ⟨t, k, hs, ts, hsel, sel, vs, tmp, lines⟩ s.tmp).ts.length ≤ (PS.wt ⟨t, k, hs, ts, hsel, sel, vs, tmp, lines⟩ s.tmp).hsel + 1
      · have e : (PS.wt ⟨t, k, hs, ts, hsel, sel, vs, tmp, lines⟩ s.tmp).newer = PS.wt ⟨t, k, hs, ts, hsel, sel, vs, tmp, lines⟩ s.tmp := by unfold PS.newer; rw [if_pos hc4]
        rw [e]
        exact ⟨base, fun hne _ => ⟨(sl hne).1, (sl hne).2.1⟩⟩
      · have hc5 : hsel + 1 < ts.length := by
          have : ¬ ts.length ≤ hsel + 1 := hc4
          omega
        refine ⟨?_, fun hne h9 => ?_⟩
        · unfold PS.newer
          rw [if_neg hc4]
          have hg := getD_prn hT (hsel + 1)
          exact ⟨hg.1, Nat.le_refl _, hh, by show hs.length ≤ _; omega, mem_set_prn hT _ ⟨g1, g3⟩, by show (ts.set hsel t).length = hs.length + 1; rw [List.length_set]; exact hTl, by show hsel + 1 < (ts.set hsel t).length; rw [List.length_set]; omega, by show lines.length ≤ _; omega, rfl, rfl⟩
        · obtain ⟨-, -, h8⟩ := sl hne
          have hk37 : key = 37 := by omega
          have hdn : S.down = true := by
            rcases h8 with h8 | h8 | h8 | ⟨-, h8 | h8⟩
            · omega
            · omega
            · omega
            · exact absurd hs0 h8
            · exact h8
          have : decide ((PS.wt ⟨t, k, hs, ts, hsel, sel, vs, tmp, lines⟩ s.tmp).hsel + 1 < (PS.wt ⟨t, k, hs, ts, hsel, sel, vs, tmp, lines⟩ s.tmp).ts.length) = true := decide_eq_true hc5
          rw [this, hdn, decide_eq_true hk37] at h9
          exact absurd h9 (by decide)
    · have d : decide (s.sel ≠ -1) = true := by simpa using hs0
      rw [d]
      exact ⟨base, fun hne _ => ⟨(sl hne).1, (sl hne).2.1⟩⟩
  rw [if_neg c4]
  by_cases c5 : key = 4
  · rw [if_pos c5]
    exact ⟨base, fun hne _ => bad _ (by omega) (by omega) (by omega) (by omega) hne⟩
  rw [if_neg c5]
  by_cases c6 : key = 86
  · rw [if_pos c6]
    refine ⟨?_, fun hne _ => bad _ (by omega) (by omega) (by omega) (by omega) hne⟩
    have hv := hl c6
    refine ⟨prn_put g1 hv _, ?_, hh, by show hs.length ≤ _; omega, hT, hTl, hsl, by show lines.length ≤ _; omega, rfl, rfl⟩
    show k + (⟨l.toArray⟩ : ByteArray).size ≤ (putT t k ⟨l.toArray⟩).size
    rw [size_put g2]; omega
  rw [if_neg c6]
  exact ⟨base, fun hne _ => ⟨(sl hne).1, (sl hne).2.1⟩⟩

/-- The bindings of a key by which a suggestion may stay selected: none. -/
theorem sel_key {S : Sess} {s c : PS} {key : Int} (hc : CFacts S s c key) (hne : c.sel ≠ -1) : key = 54 ∨ key = 51 ∨ key = 36 ∨ key = 37 := by
  obtain ⟨-, -, -, h9⟩ := hc.sel.resolve_left (fun e => hne e.1)
  omega

theorem kept_key {S : Sess} {i : Nat} {p : PL} {l : List UInt8} (h : Kept S i p.s) (hS : SessOk S) (hl : keyOf l = 86 → Prn ⟨l.toArray⟩)
    (hlong : (p.key (S.cp 0 0) S.down S.exit S.mode l).s.t.size ≤ 200) (hopn : (p.key (S.cp 0 0) S.down S.exit S.mode l).opn = false) : Kept S (i + 1) (p.key (S.cp 0 0) S.down S.exit S.mode l).s := by
  unfold PL.key at hlong hopn ⊢
  by_cases hov : p.over = true
  · rw [if_pos hov] at hlong hopn ⊢
    have h1 := h.hhl
    have h2 := h.hl
    exact ⟨h.ht, h.hk, h.hts, h.sel, h.tmp, h.hh, by omega, h.hT, h.hTl, h.hsl, by omega⟩
  rw [if_neg hov] at hlong hopn ⊢
  have hc := comp_facts h hS (keyOf l)
  obtain ⟨c, hcc⟩ : ∃ c, p.s.comp (S.cp 0 0) S.down (keyOf l) = c := ⟨_, rfl⟩
  rw [hcc] at hc
  obtain ⟨ha, hsel⟩ := act_facts (et := S.exit) h hc hl
  have e : p.s.choose (S.cp 0 0) S.down (keyOf l) = c.wt p.s.tmp := by unfold PS.choose; rw [hcc]
  rw [e] at hlong hopn ⊢
  obtain ⟨⟨a, ov, op, ret⟩, hr⟩ : ∃ r, (c.wt p.s.tmp).act S.exit S.down (decide (p.s.sel ≠ -1)) l = r := ⟨_, rfl⟩
  rw [hr] at hlong hopn ha hsel ⊢
  simp only at hlong hopn ha hsel ⊢
  have hop : op = false := by
    cases op
    · rfl
    · simp at hopn
  have hsel := fun hne => hsel hne hop
  obtain ⟨b, hb⟩ : ∃ b, (if (ret || ov) = true then a else bdP S.mode (keyOf l) a) = b := ⟨_, rfl⟩
  rw [hb] at hlong ⊢
  have hb1 : Prn b.t ∧ b.k ≤ b.t.size ∧ b.hs = a.hs ∧ b.ts = a.ts ∧ b.hsel = a.hsel ∧ b.lines = a.lines ∧ b.sel = c.sel ∧ b.vs = c.vs ∧ (c.sel ≠ -1 → b.t = p.s.t ∧ b.k = p.s.k) := by
    rw [← hb]
    by_cases hq : (ret || ov) = true
    · rw [if_pos hq]
      exact ⟨ha.ht, ha.hk, rfl, rfl, rfl, rfl, ha.sel, ha.vs, hsel⟩
    · rw [if_neg hq]
      have hok : OkG a.t.size (bdF S.mode (keyOf l) (a.t, a.k)) := bdF_ok ⟨ha.ht, Nat.le_refl _, ha.hk⟩
      refine ⟨hok.1, hok.2.2, rfl, rfl, rfl, rfl, ha.sel, ha.vs, fun hne => ?_⟩
      have := sel_key hc hne
      rw [bdP_none (by omega)]
      exact hsel hne
  obtain ⟨b1, b2, b3, b4, b5, b6, b7, b8, b9⟩ := hb1
  refine ⟨b1, b2, hlong, ?_, .inr rfl, ?_, ?_, ?_, ?_, ?_, ?_⟩
  · show Wn S.most (fit (b.t.extract (wordAt S.sep b.t b.k) b.k) S.offs).length b.sel b.vs
    rw [b7, b8]
    by_cases hne : c.sel = -1
    · rcases hc.sel with h1 | ⟨h1, -⟩
      · exact .inl h1
      · rcases h1 with h1 | ⟨n, e9, -⟩
        · exact .inl h1
        · omega
    · obtain ⟨e1, e2⟩ := b9 hne
      rw [e1, e2]
      obtain ⟨hw, -⟩ := hc.sel.resolve_left (fun e => hne e.1)
      rcases h.tmp with h8 | h8
      · rcases hw with h1 | ⟨n, -, h7, -⟩
        · exact absurd h1.1 hne
        · rw [h8] at h7; simp at h7
      · rw [← h8]; exact hw
  · show ∀ x ∈ b.hs, _
    rw [b3]; exact ha.hh
  · show b.hs.length ≤ _
    rw [b3]; exact ha.hhl
  · show ∀ x ∈ b.ts, _
    rw [b4]; exact ha.hT
  · show b.ts.length = b.hs.length + 1
    rw [b3, b4]; exact ha.hTl
  · show b.hsel < b.ts.length
    rw [b4, b5]; exact ha.hsl
  · show b.lines.length ≤ _
    rw [b6]; exact ha.hl

theorem kept_g0 {S : Sess} (hS : SessOk S) : Kept S 0 S.g0 := by
  have hb := hS.hbs
  have hhl := hS.hhl
  have k : ∀ x, x = [] ∨ x = fit (S.begun.extract (wordAt S.sep S.begun S.begun.size) S.begun.size) S.offs → Kept S 0 (S.ps.wt x) := fun x hx =>
    ⟨hS.hb, Nat.le_refl _, by show S.begun.size ≤ 200; omega, .inl ⟨rfl, rfl⟩, hx, fun y hy => ⟨(hS.hh y hy).1, Nat.le_trans (hS.hh y hy).2 (by omega)⟩, by show S.hist.length ≤ 8 + 0; omega, fun y hy => by
      rcases List.mem_append.1 hy with h1 | h1
      · exact ⟨(hS.hh y h1).1, Nat.le_trans (hS.hh y h1).2 (by omega)⟩
      · rw [List.mem_singleton.1 h1]; exact ⟨prn_empty, by decide⟩, by show (S.hist ++ [ByteArray.empty]).length = S.hist.length + 1; simp, by show S.hist.length < (S.hist ++ [ByteArray.empty]).length; simp, by show 0 ≤ 0; omega⟩
  unfold Sess.g0
  split
  · exact k _ (.inr rfl)
  · exact k _ (.inl rfl)

/-- What the set asks of a play, behind each chunk. -/
def Looked (p : PL) : Prop := p.s.t.size ≤ 200 ∧ p.opn = false

theorem kept_play {S : Sess} {cs : List ByteArray} (hS : SessOk S) (hk : ∀ c ∈ cs, AKey c) (hL : ∀ i, i < cs.length → Looked (S.p0.play S (cs.take (i + 1)))) :
    ∀ i, i ≤ cs.length → Kept S i (S.p0.play S (cs.take i)).s ∧ ((S.p0.play S (cs.take i)).over = (play S.aFed S.g0 (cs.take i)).2) ∧ ((S.p0.play S (cs.take i)).over = false → (S.p0.play S (cs.take i)).s = (play S.aFed S.g0 (cs.take i)).1) ∧
      ∃ x, (play S.aFed S.g0 (cs.take i)).1 = (S.p0.play S (cs.take i)).s.wt x ∧ (x = (S.p0.play S (cs.take i)).s.tmp ∨ (x = S.offs ∧ (S.p0.play S (cs.take i)).s.sel = -1))
  | 0, _ => by
    rw [List.take_zero]
    exact ⟨kept_g0 hS, rfl, fun _ => rfl, _, rfl, .inl rfl⟩
  | i + 1, hi => by
    obtain ⟨k1, k2, k3, x, k4, k5⟩ := kept_play hS hk hL i (by omega)
    have hl := hL i (by omega)
    obtain ⟨a1, a2, a3, a4⟩ := hk _ (List.getElem_mem (show i < cs.length by omega))
    rw [PL.play_succ _ _ _ _ (by omega)] at hl ⊢
    rw [play_succ _ _ _ _ (by omega)]
    obtain ⟨p, hp⟩ : ∃ p, S.p0.play S (cs.take i) = p := ⟨_, rfl⟩
    obtain ⟨r, hr⟩ : ∃ r, play S.aFed S.g0 (cs.take i) = r := ⟨_, rfl⟩
    rw [hp, hr] at k2 k3 k4
    rw [hp] at k1 k5 hl
    rw [hp, hr]
    have kp := kept_key k1 hS (fun h9 => by
      have := (a4 h9).2
      exact this) hl.1 hl.2
    refine ⟨kp, ?_⟩
    cases hov : p.over with
    | true =>
      rw [hov] at k2
      have e1 : stepO S.aFed r cs[i] = r := by unfold stepO; rw [if_pos k2.symm]
      have e2 : p.key (S.cp 0 0) S.down S.exit S.mode cs[i].data.toList = p := by unfold PL.key; rw [if_pos hov]
      rw [e1, e2, hov]
      exact ⟨k2, fun h => (by cases h), x, k4, k5⟩
    | false =>
      rw [hov] at k2
      have e1 : stepO S.aFed r cs[i] = p.s.fed (S.cp 0 0) S.down S.exit (bdP S.mode) cs[i].data.toList := by
        unfold stepO
        rw [if_neg (by rw [← k2]; simp), ← k3 hov]
        rfl
      rw [e1]
      obtain ⟨f1, f2, f3⟩ := key_fed (p := p) (q := S.cp 0 0) (down := S.down) (et := S.exit) (mode := S.mode) (l := cs[i].data.toList) hov a2
      exact ⟨f1, fun h => f2 h, f3⟩

/-- What is asked of a play holds. -/
theorem gok_play {S : Sess} {cs : List ByteArray} (hS : SessOk S) (hlen : cs.length ≤ 40) (hk : ∀ c ∈ cs, AKey c) (hL : ∀ i, i < cs.length → Looked (S.p0.play S (cs.take (i + 1)))) :
    ∀ i, i ≤ cs.length → GOk S (play S.aFed S.g0 (cs.take i)).1 := fun i hi => by
  obtain ⟨k1, k2, k3, x, k4, k5⟩ := kept_play hS hk hL i hi
  rw [k4]
  exact k1.gok hS (by omega) k5
/-- The player stands as the prompt does. -/
theorem alike_play {S : Sess} {cs : List ByteArray} (hS : SessOk S) (hk : ∀ c ∈ cs, AKey c) (hL : ∀ i, i < cs.length → Looked (S.p0.play S (cs.take (i + 1)))) :
    (S.p0.play S cs).s.t = (play S.aFed S.g0 cs).1.t ∧ (S.p0.play S cs).s.k = (play S.aFed S.g0 cs).1.k ∧ (S.p0.play S cs).s.lines = (play S.aFed S.g0 cs).1.lines ∧ (S.p0.play S cs).over = (play S.aFed S.g0 cs).2 ∧ (play S.aFed S.g0 cs).1.lines.length ≤ cs.length := by
  obtain ⟨k1, k2, k3, x, k4, k5⟩ := kept_play hS hk hL cs.length (Nat.le_refl _)
  rw [List.take_length] at k1 k2 k3 k4 k5
  rw [k4]
  exact ⟨rfl, rfl, rfl, k2, k1.hl⟩
end Go.Proofs.YtiepopbmbgfhkaaGreat

namespace Go.Proofs.YtiepopbmbgfhkaaGreat
open Go.RowKit
set_option maxHeartbeats 2000000
set_option maxRecDepth 20000
set_option linter.unusedVariables false
set_option linter.unusedSimpArgs false

def PS.wv (s : PS) (v : Int) : PS := { s with vs := v }
/-- Sessions that differ in prefix, columns, and in how many suggestions are shown. -/
structure Alike (S T : Sess) : Prop where
  down : T.down = S.down
  start : T.start = S.start
  sep : T.sep = S.sep
  begun : T.begun = S.begun
  plain : T.plain = S.plain
  exit : T.exit = S.exit
  offs : T.offs = S.offs
  hist : T.hist = S.hist

section
variable {S T : Sess}
theorem next_v (h : Alike S T) (s : PS) (v : Int) : ∃ v', (s.wv v).next (T.cp 0 0) = (s.next (S.cp 0 0)).wv v' := by
  unfold PS.next nextS updS
  have e : (T.cp 0 0).offs = (S.cp 0 0).offs := h.offs
  have e1 : (s.wv v).sel = s.sel := rfl
  have e2 : (s.wv v).tmp = s.tmp := rfl
  rw [e1, e2, e]
  by_cases h1 : (s.tmp.length : Int) ≤ s.sel + 1
  · rw [if_pos h1, if_pos h1]; exact ⟨0, rfl⟩
  · rw [if_neg h1, if_neg h1]
    by_cases h2 : s.sel + 1 < -1
    · rw [if_pos h2, if_pos h2]; exact ⟨_, rfl⟩
    · rw [if_neg h2, if_neg h2]; exact ⟨_, rfl⟩
theorem prev_v (h : Alike S T) (s : PS) (v : Int) : ∃ v', (s.wv v).prev (T.cp 0 0) = (s.prev (S.cp 0 0)).wv v' := by
  unfold PS.prev prevS updS
  have e : (T.cp 0 0).offs = (S.cp 0 0).offs := h.offs
  have e1 : (s.wv v).sel = s.sel := rfl
  have e2 : (s.wv v).tmp = s.tmp := rfl
  rw [e1, e2, e]
  by_cases h1 : (s.tmp.length : Int) ≤ s.sel - 1
  · rw [if_pos h1, if_pos h1]; exact ⟨0, rfl⟩
  · rw [if_neg h1, if_neg h1]
    by_cases h2 : s.sel - 1 < -1
    · rw [if_pos h2, if_pos h2]; exact ⟨_, rfl⟩
    · rw [if_neg h2, if_neg h2]; exact ⟨_, rfl⟩
theorem comp_v (h : Alike S T) (s : PS) (v : Int) (key : Int) : ∃ v', (s.wv v).comp (T.cp 0 0) T.down key = (s.comp (S.cp 0 0) S.down key).wv v' := by
  have e1 : (s.wv v).sel = s.sel := rfl
  unfold PS.comp
  rw [h.down, e1]
  by_cases k1 : key = 37
  · rw [if_pos k1, if_pos k1]
    by_cases hc : s.sel ≠ -1 ∨ S.down = true
    · rw [if_pos hc, if_pos hc]; exact next_v h s v
    · rw [if_neg hc, if_neg hc]; exact ⟨v, rfl⟩
  rw [if_neg k1, if_neg k1]
  by_cases k2 : key = 54
  · rw [if_pos k2, if_pos k2]; exact next_v h s v
  rw [if_neg k2, if_neg k2]
  by_cases k3 : key = 36
  · rw [if_pos k3, if_pos k3]
    by_cases hc : s.sel ≠ -1
    · rw [if_pos hc, if_pos hc]; exact prev_v h s v
    · rw [if_neg hc, if_neg hc]; exact ⟨v, rfl⟩
  rw [if_neg k3, if_neg k3]
  by_cases k4 : key = 51
  · rw [if_pos k4, if_pos k4]; exact prev_v h s v
  rw [if_neg k4, if_neg k4]
  unfold PS.chosen
  rw [e1]
  have e2 : (T.cp 0 0).offs = (S.cp 0 0).offs := h.offs
  have e3 : (T.cp 0 0).sep = (S.cp 0 0).sep := h.sep
  rw [e2, e3]
  by_cases hc : s.sel = -1
  · rw [if_pos hc, if_pos hc]; exact ⟨0, rfl⟩
  · rw [if_neg hc, if_neg hc]; exact ⟨0, rfl⟩
theorem enter_v (s : PS) (v : Int) : (s.wv v).enter = s.enter.wv v := by
  unfold PS.enter
  by_cases h : s.t = .empty
  · rw [if_pos h, if_pos (show (s.wv v).t = .empty from h)]; rfl
  · rw [if_neg h, if_neg (show ¬ (s.wv v).t = .empty from h)]; rfl
theorem older_v (s : PS) (v : Int) : (s.wv v).older = s.older.wv v := by
  unfold PS.older
  by_cases h : s.ts.length = 1 ∨ s.hsel = 0
  · rw [if_pos h, if_pos (show (s.wv v).ts.length = 1 ∨ (s.wv v).hsel = 0 from h)]
  · rw [if_neg h, if_neg (show ¬ ((s.wv v).ts.length = 1 ∨ (s.wv v).hsel = 0) from h)]; rfl
theorem newer_v (s : PS) (v : Int) : (s.wv v).newer = s.newer.wv v := by
  unfold PS.newer
  by_cases h : s.ts.length ≤ s.hsel + 1
  · rw [if_pos h, if_pos (show (s.wv v).ts.length ≤ (s.wv v).hsel + 1 from h)]
  · rw [if_neg h, if_neg (show ¬ ((s.wv v).ts.length ≤ (s.wv v).hsel + 1) from h)]; rfl

theorem feed_v (h : Alike S T) (s : PS) (v : Int) (l : List UInt8) (bd : Int → PS → PS) (hbd : ∀ key s v, bd key (s.wv v) = (bd key s).wv v) :
    ∃ v', (s.wv v).feed (T.cp 0 0) T.down bd l = (((s.feed (S.cp 0 0) S.down bd l).1).wv v', (s.feed (S.cp 0 0) S.down bd l).2) := by
  obtain ⟨v', e⟩ := comp_v h s v (keyOf l)
  refine ⟨v', ?_⟩
  obtain ⟨key, hkey⟩ : ∃ key, keyOf l = key := ⟨_, rfl⟩
  rw [hkey] at e
  unfold PS.feed
  rw [hkey, e]
  obtain ⟨c, hc⟩ : ∃ c, s.comp (S.cp 0 0) S.down key = c := ⟨_, rfl⟩
  rw [hc, enter_v, older_v, newer_v, show (c.wv v').cancel = c.cancel.wv v' from rfl, show (c.wv v').typed ⟨l.toArray⟩ = (c.typed ⟨l.toArray⟩).wv v' from rfl, hbd, hbd, hbd, hbd, show (c.wv v').t = c.t from rfl, show (s.wv v).sel = s.sel from rfl]
  by_cases c1 : key = 55 ∨ key = 10 ∨ key = 13
  · rw [if_pos c1, if_pos c1]
  rw [if_neg c1, if_neg c1]
  by_cases c2 : key = 3
  · rw [if_pos c2, if_pos c2]
  rw [if_neg c2, if_neg c2]
  by_cases c3 : key = 36 ∨ key = 16
  · rw [if_pos c3, if_pos c3]
    by_cases hs : s.sel = -1
    · rw [if_pos hs, if_pos hs, hbd]
    · rw [if_neg hs, if_neg hs, hbd]
  rw [if_neg c3, if_neg c3]
  by_cases c4 : key = 37 ∨ key = 14
  · rw [if_pos c4, if_pos c4]
    by_cases hs : s.sel = -1
    · rw [if_pos hs, if_pos hs]
    · rw [if_neg hs, if_neg hs]
  rw [if_neg c4, if_neg c4]
  by_cases c5 : key = 4
  · rw [if_pos c5, if_pos c5]
    by_cases hz : c.t = .empty
    · rw [if_pos hz, if_pos hz]
    · rw [if_neg hz, if_neg hz]
  rw [if_neg c5, if_neg c5]
  by_cases c6 : key = 86
  · rw [if_pos c6, if_pos c6]
  rw [if_neg c6, if_neg c6]

theorem fed_v (h : Alike S T) (s : PS) (v : Int) (l : List UInt8) : ∃ v', T.aFed (s.wv v) l = (((S.aFed s l).1).wv v', (S.aFed s l).2) := by
  unfold Sess.aFed
  have hm : T.mode = S.mode := by unfold Sess.mode; rw [h.plain]
  rw [hm, h.exit]
  obtain ⟨v', e⟩ := feed_v h s v l (bdP S.mode) (fun _ _ _ => rfl)
  refine ⟨v', ?_⟩
  unfold PS.fed
  rw [e]
  obtain ⟨⟨c, ov, ex⟩, hr⟩ : ∃ r, s.feed (S.cp 0 0) S.down (bdP S.mode) l = r := ⟨_, rfl⟩
  rw [hr]
  have hu : ∀ c : PS, (c.wv v').update (T.cp 0 0) = (c.update (S.cp 0 0)).wv v' := fun c => by
    unfold PS.update
    rw [show (T.cp 0 0).sep = (S.cp 0 0).sep from h.sep, show (T.cp 0 0).offs = (S.cp 0 0).offs from h.offs]
    rfl
  cases ov with
  | true => rfl
  | false =>
    cases ex with
    | none =>
      simp only
      rw [hu]
    | some t =>
      simp only
      have := hu { c with lines := c.lines ++ [t] }
      rw [← this]
      rfl

theorem play_v (h : Alike S T) : ∀ (cs : List ByteArray) (s : PS) (v : Int) (b : Bool), ∃ v', cs.foldl (stepO T.aFed) (s.wv v, b) = (((cs.foldl (stepO S.aFed) (s, b)).1).wv v', (cs.foldl (stepO S.aFed) (s, b)).2)
  | [], s, v, b => ⟨v, rfl⟩
  | c :: cs, s, v, b => by
    rw [List.foldl_cons, List.foldl_cons]
    cases b with
    | true =>
      have e1 : stepO T.aFed (s.wv v, true) c = (s.wv v, true) := rfl
      have e2 : stepO S.aFed (s, true) c = (s, true) := rfl
      rw [e1, e2]
      exact play_v h cs s v true
    | false =>
      obtain ⟨v', e⟩ := fed_v h s v c.data.toList
      have e1 : stepO T.aFed (s.wv v, false) c = T.aFed (s.wv v) c.data.toList := rfl
      have e2 : stepO S.aFed (s, false) c = S.aFed s c.data.toList := rfl
      rw [e1, e2, e]
      exact play_v h cs (S.aFed s c.data.toList).1 v' (S.aFed s c.data.toList).2

theorem g0_v (h : Alike S T) : T.g0 = S.g0 := by
  have hp : T.ps = S.ps := by unfold Sess.ps; rw [h.begun, h.hist]
  unfold Sess.g0
  rw [hp, h.start]
  split
  · unfold PS.update
    rw [show (T.cp 0 0).sep = (S.cp 0 0).sep from h.sep, show (T.cp 0 0).offs = (S.cp 0 0).offs from h.offs]
  · rfl

/-- What is executed, and how the line stands, does not depend on the window. -/
theorem play_alike (h : Alike S T) (cs : List ByteArray) : (play T.aFed T.g0 cs).1.t = (play S.aFed S.g0 cs).1.t ∧ (play T.aFed T.g0 cs).1.k = (play S.aFed S.g0 cs).1.k ∧ (play T.aFed T.g0 cs).1.lines = (play S.aFed S.g0 cs).1.lines ∧ (play T.aFed T.g0 cs).2 = (play S.aFed S.g0 cs).2 := by
  rw [g0_v h]
  obtain ⟨v', e⟩ := play_v h cs S.g0 S.g0.vs false
  unfold play
  have e0 : (S.g0.wv S.g0.vs, false) = (S.g0, false) := rfl
  rw [e0] at e
  rw [e]
  exact ⟨rfl, rfl, rfl, rfl⟩
end
end Go.Proofs.YtiepopbmbgfhkaaGreat
