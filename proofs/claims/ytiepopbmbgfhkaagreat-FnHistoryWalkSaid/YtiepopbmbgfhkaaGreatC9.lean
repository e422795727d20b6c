/-
  FnHistoryWalk: what the keys do, in plain terms.
-/
import Derived.Test.YtiepopbmbgfhkaaGreatC6
namespace Go.Proofs.YtiepopbmbgfhkaaGreat
open Go.RowKit
set_option maxHeartbeats 2000000
set_option maxRecDepth 20000
set_option linter.unusedVariables false
set_option linter.unusedSimpArgs false

/-- Chunks lead from a stand to a stand, and what is asked holds all the way. -/
def Goes (f : PS → List UInt8 → PS × Bool) : PS → List ByteArray → PS → Prop
  | s, [], s' => NsOk s ∧ s' = s
  | s, c :: cs, s' => NsOk s ∧ NsKey s c ∧ ∃ s1, f s c.data.toList = (s1, false) ∧ Goes f s1 cs s'

section
variable {f : PS → List UInt8 → PS × Bool}
theorem Goes.last : ∀ {a : List ByteArray} {s s1 : PS}, Goes f s a s1 → NsOk s1
  | [], s, s1, ⟨h, e⟩ => by rw [e]; exact h
  | c :: cs, s, s1, ⟨_, _, _, _, h⟩ => h.last
theorem Goes.append : ∀ {a b : List ByteArray} {s s1 s2 : PS}, Goes f s a s1 → Goes f s1 b s2 → Goes f s (a ++ b) s2
  | [], b, s, s1, s2, ⟨h, e⟩, k => by rw [e] at k; exact k
  | c :: cs, b, s, s1, s2, ⟨h, hk, t, ht, hg⟩, k => ⟨h, hk, t, ht, hg.append k⟩
theorem play_cons {s s1 : PS} {c : ByteArray} {cs : List ByteArray} (h : f s c.data.toList = (s1, false)) : play f s (c :: cs) = play f s1 cs := by
  unfold play
  rw [List.foldl_cons]
  have : stepO f (s, false) c = (s1, false) := by unfold stepO; simp only [Bool.false_eq_true, if_false]; exact h
  rw [this]
theorem Goes.play : ∀ {a : List ByteArray} {s s1 : PS}, Goes f s a s1 → play f s a = (s1, false) ∧ (∀ i, i ≤ a.length → NsOk (play f s (a.take i)).1) ∧ ∀ i (hi : i < a.length), NsKey (play f s (a.take i)).1 a[i]
  | [], s, s1, ⟨h, e⟩ => by
    subst e
    exact ⟨rfl, fun i _ => by rw [List.take_nil]; exact h, fun i hi => absurd hi (by simp)⟩
  | c :: cs, s, s1, ⟨h, hk, t, ht, hg⟩ => by
    obtain ⟨k1, k2, k3⟩ := hg.play
    refine ⟨by rw [play_cons ht]; exact k1, fun i hi => ?_, fun i hi => ?_⟩
    · cases i with
      | zero => exact h
      | succ i =>
        rw [List.take_succ_cons, play_cons ht]
        exact k2 i (by simp at hi; omega)
    · cases i with
      | zero => exact hk
      | succ i =>
        rw [List.take_succ_cons, play_cons ht]
        exact k3 i (by simp at hi; omega)
end

def GoodT (t : ByteArray) : Prop := t.size ≤ 40 ∧ prB t = true
theorem GoodT.prn {t : ByteArray} (h : GoodT t) : Prn t := (prB_prn h.2).1

/-- The keys of the lines that are executed. -/
def lineKeys : List ByteArray → List ByteArray
  | [] => []
  | t :: ts => t :: crT :: lineKeys ts
theorem lineKeys_append : ∀ (a b : List ByteArray), lineKeys (a ++ b) = lineKeys a ++ lineKeys b
  | [], b => rfl
  | t :: a, b => by show t :: crT :: lineKeys (a ++ b) = _; rw [lineKeys_append a b]; rfl
theorem lineKeys_length : ∀ (a : List ByteArray), (lineKeys a).length = 2 * a.length
  | [] => rfl
  | t :: a => by show (lineKeys a).length + 1 + 1 = _; rw [lineKeys_length a]; simp; omega
def begunKeys (b : ByteArray) : List ByteArray := if b = .empty then [] else [b]

section
variable {S : Sess} {texts : List ByteArray} {begun : ByteArray}
theorem hw_ok {t : ByteArray} {k : Nat} {hs ts ls : List ByteArray} {hsel : Nat} (ht : Prn t) (hz : t.size ≤ 40) (hk : k ≤ t.size) (hh : ∀ x ∈ hs, Prn x ∧ x.size ≤ 40) (hhl : hs.length ≤ 8) (hT : ∀ x ∈ ts, Prn x ∧ x.size ≤ 40) (hTl : ts.length ≤ 9) (hsl : hsel < ts.length) (hl : ls.length ≤ 8) : NsOk (NS t k hs ts hsel ls) :=
  ns_is ht (by omega) hk (fun x hx => ⟨(hh x hx).1, by have := (hh x hx).2; omega⟩) (by omega) (fun x hx => ⟨(hT x hx).1, by have := (hT x hx).2; omega⟩) (by omega) hsl (by omega)

theorem empty_good : Prn .empty ∧ ByteArray.empty.size ≤ 40 := ⟨prn_empty, by decide⟩

/-- A text that is typed, and executed. -/
theorem goes_line (ho : S.offs = []) (hm : 1 ≤ S.most) {done : List ByteArray} {t : ByteArray} (hd : ∀ x ∈ done, Prn x ∧ x.size ≤ 40) (hl : done.length < 8) (ht : Prn t) (hz : t.size ≤ 40) (hne : t.size ≠ 0) :
    Goes S.nsFed (NS .empty 0 done (done ++ [.empty]) done.length done) [t, crT] (NS .empty 0 (done ++ [t]) (done ++ [t] ++ [.empty]) (done ++ [t]).length (done ++ [t])) := by
  have hq : (S.cp 0 0).offs = [] := ho
  have hqm : 1 ≤ (S.cp 0 0).most := hm
  have hn := prn_ne hne
  have hkt : keyOf t.data.toList = 86 := key_text hn.2 (by rw [toList_mk]; exact ht)
  have hD : ∀ x ∈ done ++ [.empty], Prn x ∧ x.size ≤ 40 := fun x hx => by
    simp only [List.mem_append, List.mem_singleton] at hx
    rcases hx with hx | rfl
    · exact hd x hx
    · exact empty_good
  have hD2 : ∀ x ∈ done ++ [t], Prn x ∧ x.size ≤ 40 := fun x hx => by
    simp only [List.mem_append, List.mem_singleton] at hx
    rcases hx with hx | rfl
    · exact hd x hx
    · exact ⟨ht, hz⟩
  have hD3 : ∀ x ∈ done ++ [t] ++ [.empty], Prn x ∧ x.size ≤ 40 := fun x hx => by
    rw [List.mem_append, List.mem_singleton] at hx
    rcases hx with hx | rfl
    · exact hD2 x hx
    · exact empty_good
  refine ⟨hw_ok empty_good.1 empty_good.2 (Nat.zero_le _) hd (by omega) hD (by simp; omega) (by simp) (by omega), .inl ⟨hkt, by omega, ht⟩, NS t t.size done (done ++ [.empty]) done.length done, ?_, ?_⟩
  · unfold Sess.nsFed
    rw [ns_text hq hqm hkt, toList_mk, putT_new]
    simp
  refine ⟨hw_ok ht hz (Nat.le_refl _) hd (by omega) hD (by simp; omega) (by simp) (by omega), .inr (.inl key_r), NS .empty 0 (done ++ [t]) (done ++ [t] ++ [.empty]) (done ++ [t]).length (done ++ [t]), ?_, ?_⟩
  · unfold Sess.nsFed
    have h := ns_enter (q := S.cp 0 0) (down := S.down) (et := .empty) (l := crT.data.toList) (t := t) (k := t.size) (hs := done) (ts := done ++ [.empty]) (hsel := done.length) (ls := done) hq hqm key_r hn.1 rfl
    rw [List.length_append, List.length_singleton]
    exact h
  · refine ⟨hw_ok empty_good.1 empty_good.2 (Nat.zero_le _) hD2 (by simp; omega) hD3 (by simp; omega) (by simp) (by simp; omega), rfl⟩

theorem goes_lines (ho : S.offs = []) (hm : 1 ≤ S.most) : ∀ (rest done : List ByteArray), (∀ x ∈ done, Prn x ∧ x.size ≤ 40) → (∀ x ∈ rest, Prn x ∧ x.size ≤ 40 ∧ x.size ≠ 0) → done.length + rest.length ≤ 8 →
    Goes S.nsFed (NS .empty 0 done (done ++ [.empty]) done.length done) (lineKeys rest) (NS .empty 0 (done ++ rest) (done ++ rest ++ [.empty]) (done ++ rest).length (done ++ rest))
  | [], done, hd, _, hl => by
    rw [List.append_nil]
    refine ⟨hw_ok empty_good.1 empty_good.2 (Nat.zero_le _) hd (by simpa using hl) (fun x hx => ?_) (by simp at hl ⊢; omega) (by simp) (by simpa using hl), rfl⟩
    simp only [List.mem_append, List.mem_singleton] at hx
    rcases hx with hx | rfl
    · exact hd x hx
    · exact empty_good
  | t :: rest, done, hd, hr, hl => by
    have h1 := hr t (List.mem_cons_self ..)
    simp only [List.length_cons] at hl
    have hg := goes_line (S := S) ho hm hd (by omega) h1.1 h1.2.1 h1.2.2
    have hg2 := goes_lines ho hm rest (done ++ [t]) (fun x hx => by
      simp only [List.mem_append, List.mem_singleton] at hx
      rcases hx with hx | rfl
      · exact hd x hx
      · exact ⟨h1.1, h1.2.1⟩) (fun x hx => hr x (List.mem_cons_of_mem _ hx)) (by simp; omega)
    have := hg.append hg2
    rw [List.append_assoc done [t] rest] at this
    exact this

/-- The text that stands at a place of the history's walk. -/
def hwT (texts : List ByteArray) (begun : ByteArray) (j : Nat) : ByteArray := (texts ++ [begun]).getD j .empty
def hwS (texts : List ByteArray) (begun : ByteArray) (j : Nat) : PS := NS (hwT texts begun j) (hwT texts begun j).size texts (texts ++ [begun]) j texts

variable (ho : S.offs = []) (hm : 1 ≤ S.most) (hT : ∀ x ∈ texts, Prn x ∧ x.size ≤ 40 ∧ x.size ≠ 0) (h1 : 1 ≤ texts.length) (h8 : texts.length ≤ 8) (hb : Prn begun) (hbz : begun.size ≤ 40)
include hT hb hbz
theorem hw_all : ∀ x ∈ texts ++ [begun], Prn x ∧ x.size ≤ 40 := fun x hx => by
  simp only [List.mem_append, List.mem_singleton] at hx
  rcases hx with hx | rfl
  · exact ⟨(hT x hx).1, (hT x hx).2.1⟩
  · exact ⟨hb, hbz⟩
theorem hwT_ok {j : Nat} (hj : j ≤ texts.length) : Prn (hwT texts begun j) ∧ (hwT texts begun j).size ≤ 40 := by
  have hl : j < (texts ++ [begun]).length := by simp; omega
  unfold hwT
  rw [List.getD_eq_getElem?_getD, List.getElem?_eq_getElem hl]
  exact hw_all hT hb hbz _ (List.getElem_mem hl)
include h8
theorem hwS_ok {j : Nat} (hj : j ≤ texts.length) : NsOk (hwS texts begun j) :=
  hw_ok (hwT_ok hT hb hbz hj).1 (hwT_ok hT hb hbz hj).2 (Nat.le_refl _) (fun x hx => ⟨(hT x hx).1, (hT x hx).2.1⟩) h8 (hw_all hT hb hbz) (by simp; omega) (by simp; omega) h8

omit hT hb hbz h8 in
theorem hw_set {j : Nat} : (texts ++ [begun]).set j (hwT texts begun j) = texts ++ [begun] := by
  apply List.ext_getElem?
  intro i
  rw [List.getElem?_set]
  split
  · next e =>
    subst e
    split
    · next hl => unfold hwT; rw [List.getD_eq_getElem?_getD, List.getElem?_eq_getElem hl]; rfl
    · next hl => rw [List.getElem?_eq_none (by omega)]
  · rfl

include ho hm in
theorem goes_up {j : Nat} (hj : j + 1 ≤ texts.length) : Goes S.nsFed (hwS texts begun (j + 1)) [upT] (hwS texts begun j) := by
  have hq : (S.cp 0 0).offs = [] := ho
  have hqm : 1 ≤ (S.cp 0 0).most := hm
  refine ⟨hwS_ok hT h8 hb hbz hj, .inr (.inr (.inl key_up)), hwS texts begun j, ?_, hwS_ok hT h8 hb hbz (by omega), rfl⟩
  unfold Sess.nsFed
  have h := ns_up (q := S.cp 0 0) (down := S.down) (et := .empty) (l := upT.data.toList) (t := hwT texts begun (j + 1)) (k := (hwT texts begun (j + 1)).size) (hs := texts) (ts := texts ++ [begun]) (hsel := j + 1) (ls := texts) hq hqm key_up (by rw [List.length_append, List.length_singleton]; omega) (by omega)
  rw [hw_set, Nat.add_sub_cancel] at h
  exact h
include ho hm in
theorem goes_dn {j : Nat} (hj : j + 1 ≤ texts.length) : Goes S.nsFed (hwS texts begun j) [dnT] (hwS texts begun (j + 1)) := by
  have hq : (S.cp 0 0).offs = [] := ho
  have hqm : 1 ≤ (S.cp 0 0).most := hm
  refine ⟨hwS_ok hT h8 hb hbz (by omega), .inr (.inr (.inr (.inl key_dn))), hwS texts begun (j + 1), ?_, hwS_ok hT h8 hb hbz hj, rfl⟩
  unfold Sess.nsFed
  have h := ns_down (q := S.cp 0 0) (down := S.down) (et := .empty) (l := dnT.data.toList) (t := hwT texts begun j) (k := (hwT texts begun j).size) (hs := texts) (ts := texts ++ [begun]) (hsel := j) (ls := texts) hq hqm key_dn (by simp; omega)
  rw [hw_set] at h
  exact h
include ho hm in
theorem goes_ups : ∀ (n : Nat) (j : Nat), j + n ≤ texts.length → Goes S.nsFed (hwS texts begun (j + n)) (List.replicate n upT) (hwS texts begun j)
  | 0, j, hj => ⟨hwS_ok hT h8 hb hbz (by omega), rfl⟩
  | n + 1, j, hj => (goes_up ho hm hT h8 hb hbz (j := j + n) (by omega)).append (goes_ups n j (by omega))
include ho hm in
theorem goes_dns : ∀ (n : Nat) (j : Nat), j + n ≤ texts.length → Goes S.nsFed (hwS texts begun j) (List.replicate n dnT) (hwS texts begun (j + n))
  | 0, j, hj => ⟨hwS_ok hT h8 hb hbz (by omega), rfl⟩
  | n + 1, j, hj => by
    have h := (goes_dn ho hm hT h8 hb hbz (j := j) (by omega)).append (goes_dns n (j + 1) (by omega))
    rw [show j + 1 + n = j + (n + 1) by omega] at h
    exact h

/-- The stand behind the lines, with what was begun. -/
def hwB (texts : List ByteArray) (begun : ByteArray) : PS := NS begun begun.size texts (texts ++ [.empty]) texts.length texts
omit hT hb hbz h8 in
theorem hwT_mid {j : Nat} (hj : j < texts.length) : hwT texts begun j = texts.getD j .empty := by
  unfold hwT
  rw [List.getD_eq_getElem?_getD, List.getD_eq_getElem?_getD, List.getElem?_append_left hj]
omit hT hb hbz h8 in
theorem hwT_last : hwT texts begun texts.length = begun := by
  unfold hwT
  rw [List.getD_eq_getElem?_getD, List.getElem?_append_right (Nat.le_refl _), Nat.sub_self]
  rfl
include ho hm in
theorem goes_begun : Goes S.nsFed ns0 (lineKeys texts ++ begunKeys begun) (hwB texts begun) := by
  have hq : (S.cp 0 0).offs = [] := ho
  have hqm : 1 ≤ (S.cp 0 0).most := hm
  have hg := goes_lines (S := S) ho hm texts [] (fun x hx => by cases hx) hT (by simpa using h8)
  simp only [List.nil_append] at hg
  have hg : Goes S.nsFed ns0 (lineKeys texts) (NS .empty 0 texts (texts ++ [.empty]) texts.length texts) := hg
  refine Goes.append (s1 := NS .empty 0 texts (texts ++ [.empty]) texts.length texts) hg ?_
  have hD : ∀ x ∈ texts ++ [.empty], Prn x ∧ x.size ≤ 40 := fun x hx => by
    simp only [List.mem_append, List.mem_singleton] at hx
    rcases hx with hx | rfl
    · exact ⟨(hT x hx).1, (hT x hx).2.1⟩
    · exact empty_good
  unfold begunKeys
  by_cases he : begun = .empty
  · rw [if_pos he]
    subst he
    exact ⟨hg.last, rfl⟩
  · rw [if_neg he]
    have hne : begun.size ≠ 0 := fun h => he (by
      apply ByteArray.ext
      apply Array.eq_empty_of_size_eq_zero
      exact h)
    have hn := prn_ne hne
    have hkt : keyOf begun.data.toList = 86 := key_text hn.2 (by rw [toList_mk]; exact hb)
    refine ⟨hg.last, .inl ⟨hkt, by omega, hb⟩, hwB texts begun, ?_, hw_ok hb hbz (Nat.le_refl _) (fun x hx => ⟨(hT x hx).1, (hT x hx).2.1⟩) h8 hD (by simp; omega) (by simp) h8, rfl⟩
    unfold Sess.nsFed
    rw [ns_text hq hqm hkt, toList_mk, putT_new]
    simp [hwB]
include ho hm h1 in
theorem goes_up1 : Goes S.nsFed (hwB texts begun) [upT] (hwS texts begun (texts.length - 1)) := by
  have hq : (S.cp 0 0).offs = [] := ho
  have hqm : 1 ≤ (S.cp 0 0).most := hm
  have hg := (goes_begun (S := S) ho hm hT h8 hb hbz).last
  refine ⟨hg, .inr (.inr (.inl key_up)), _, ?_, hwS_ok hT h8 hb hbz (by omega), rfl⟩
  unfold Sess.nsFed
  have h := ns_up (q := S.cp 0 0) (down := S.down) (et := .empty) (l := upT.data.toList) (t := begun) (k := begun.size) (hs := texts) (ts := texts ++ [.empty]) (hsel := texts.length) (ls := texts) hq hqm key_up (by rw [List.length_append, List.length_singleton]; omega) (by omega)
  have e1 : (texts ++ [ByteArray.empty]).set texts.length begun = texts ++ [begun] := by
    rw [List.set_append_right _ _ (Nat.le_refl _), Nat.sub_self]; rfl
  have e2 : (texts ++ [ByteArray.empty]).getD (texts.length - 1) .empty = hwT texts begun (texts.length - 1) := by
    rw [hwT_mid (by omega), List.getD_eq_getElem?_getD, List.getD_eq_getElem?_getD, List.getElem?_append_left (by omega)]
  rw [e1, e2] at h
  exact h
include ho hm h1 in
theorem goes_walk {n : Nat} (hn1 : 1 ≤ n) (hn : n ≤ texts.length) :
    Goes S.nsFed ns0 (lineKeys texts ++ begunKeys begun ++ List.replicate n upT) (hwS texts begun (texts.length - n)) ∧
    Goes S.nsFed ns0 (lineKeys texts ++ begunKeys begun ++ List.replicate n upT ++ List.replicate n dnT) (hwS texts begun texts.length) := by
  have ha := goes_begun (S := S) ho hm hT h8 hb hbz
  have hb1 := goes_up1 (S := S) ho hm hT h1 h8 hb hbz
  have hu := goes_ups (S := S) ho hm hT h8 hb hbz (n - 1) (texts.length - n) (by omega)
  rw [show texts.length - n + (n - 1) = texts.length - 1 by omega] at hu
  have hr : List.replicate n upT = [upT] ++ List.replicate (n - 1) upT := by
    obtain ⟨m, rfl⟩ : ∃ m, n = m + 1 := ⟨n - 1, by omega⟩
    rfl
  have h2 : Goes S.nsFed ns0 (lineKeys texts ++ begunKeys begun ++ List.replicate n upT) (hwS texts begun (texts.length - n)) := by
    rw [hr]
    exact ha.append (hb1.append hu)
  refine ⟨h2, ?_⟩
  have hd := goes_dns (S := S) ho hm hT h8 hb hbz n (texts.length - n) (by omega)
  rw [show texts.length - n + n = texts.length by omega] at hd
  exact h2.append hd
end
end Go.Proofs.YtiepopbmbgfhkaaGreat
