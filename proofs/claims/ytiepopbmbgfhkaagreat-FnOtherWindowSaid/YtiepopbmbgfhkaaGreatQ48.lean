/-
  The set's player: what any key that is looked at is bound to.
  The set's player: a key, whatever it is.
-/
import Derived.Test.YtiepopbmbgfhkaaGreatQ47
namespace Go.Proofs.YtiepopbmbgfhkaaGreat
open Go.RowKit
set_option maxHeartbeats 8000000
set_option maxRecDepth 20000
set_option linter.unusedVariables false
set_option linter.unusedSimpArgs false

/-- A text is no key. -/
theorem text_ne {c : ByteArray} (hp : Prn c) (h0 : 0 < c.size) : ∀ k ∈ theKeys, (c.toList == k) = false := by
  have hall : ∀ k ∈ theKeys, k ≠ [] ∧ ((k.head?.map UInt8.toNat).getD 0 < 32 ∨ (k.head?.map UInt8.toNat).getD 0 = 127) := by decide
  intro k hk
  obtain ⟨hne, hx⟩ := hall k hk
  obtain ⟨x, l, rfl⟩ : ∃ x l, k = x :: l := by cases k with | nil => exact absurd rfl hne | cons x l => exact ⟨x, l, rfl⟩
  simp only [List.head?_cons, Option.map_some, Option.getD_some] at hx
  rw [beq_eq_false_iff_ne]
  intro e
  obtain ⟨h0', e0⟩ := head_of e
  have := hp 0 h0'
  rw [e0] at this
  omega
theorem mode_com {S : Sess} (h : S.plain = true) (key : Int) (q : ByteArray × Nat) : bdF S.mode key q = apB comT key q := by
  have e : (commonT.toList == [101, 109, 97, 99, 115]) = false := by rw [ByteArray.toList_eq]; decide
  unfold bdF Sess.mode
  rw [h]
  simp only [if_true]
  rw [if_neg (by rw [e]; simp)]
theorem mode_ema {S : Sess} (h : S.plain = false) (key : Int) (q : ByteArray × Nat) : bdF S.mode key q = apB emaT key (apB comT key q) := by
  have e : (emacsT.toList == [101, 109, 97, 99, 115]) = true := by rw [ByteArray.toList_eq]; decide
  unfold bdF Sess.mode
  rw [h]
  simp only [Bool.false_eq_true, if_false]
  rw [if_pos e]

structure NoBd (c : ByteArray) : Prop where
  k0 : (c.toList == [27, 91, 67]) = false
  k1 : (c.toList == [6]) = false
  k2 : (c.toList == [27, 91, 68]) = false
  k3 : (c.toList == [2]) = false
  k4 : (c.toList == [27, 91, 51, 126]) = false
  k5 : (c.toList == [4]) = false
  k6 : (c.toList == [8]) = false
  k7 : (c.toList == [127]) = false
  k8 : (c.toList == [1]) = false
  k9 : (c.toList == [5]) = false
  k10 : (c.toList == [11]) = false
  k11 : (c.toList == [21]) = false
  k12 : (c.toList == [23]) = false

section
variable {nb base : Nat} {w : World} {p : Nat} {S : Sess} {ov hv : Value} {P : PL} {V : PV}
theorem bd_no1 {c : ByteArray} (h : Ply base w p S ov hv P V) (hnb : V.bs.length ≤ nb) (h0 : 0 < c.size) (hpl : S.plain = true) (h32 : c[0].toNat < 32) (h27 : c[0].toNat ≠ 27) :
    Calls Tryz.prog 58 #[.pointer (some ⟨p, 0, none⟩), .string c] w (PlyPost nb base p S ov hv P (.tuple #[]) w) := by
  have hC := plC h.blk
  have c9 := hC.c9
  have hlt := hC.lt
  rw [hpl] at c9
  have d1 : decide ((c[0].toNat : Int) < 32) = true := by simp; omega
  have d2 : (c[0].toNat : Int) < 32 := by omega
  have d3 : ((c[0].toNat : Int) != 27) = true := (int_ne (by omega)).2
  go_enter Tryz.func58, Tryz.ntmps58
  go_wp2_with (fail)
  go_end0
  exact ⟨rfl, ⟨V, h.fr0 ((Fr.refl 0 [] [] w).alloc _), hnb⟩, (Fr.refl _ _ _ _).alloc _⟩
theorem bd_no2 {c : ByteArray} (h : Ply base w p S ov hv P V) (hnb : V.bs.length ≤ nb) (h0 : 0 < c.size) (hno : NoBd c) (hpl : S.plain = false ∨ 32 ≤ c[0].toNat ∨ c[0].toNat = 27) :
    Calls Tryz.prog 58 #[.pointer (some ⟨p, 0, none⟩), .string c] w (PlyPost nb base p S ov hv P (.tuple #[]) w) := by
  have hC := plC h.blk
  have c9 := hC.c9
  have hlt := hC.lt
  obtain ⟨k0, k1, k2, k3, k4, k5, k6, k7, k8, k9, k10, k11, k12⟩ := hno
  cases hp : S.plain with
  | false =>
    rw [hp] at c9
    clear hpl
    go_enter Tryz.func58, Tryz.ntmps58
    go_wp2_with (fail)
    go_end0
    exact ⟨rfl, ⟨V, h.fr0 ((Fr.refl 0 [] [] w).alloc _), hnb⟩, (Fr.refl _ _ _ _).alloc _⟩
  | true =>
    rw [hp] at c9
    by_cases h32 : 32 ≤ c[0].toNat
    · have d1 : decide ((c[0].toNat : Int) < 32) = false := by simp; omega
      have d2 : ¬ (c[0].toNat : Int) < 32 := by omega
      clear hpl
      go_enter Tryz.func58, Tryz.ntmps58
      go_wp2_with (fail)
      go_end0
      exact ⟨rfl, ⟨V, h.fr0 ((Fr.refl 0 [] [] w).alloc _), hnb⟩, (Fr.refl _ _ _ _).alloc _⟩
    · have e27 : c[0].toNat = 27 := by
        rcases hpl with e | e | e
        · rw [hp] at e; cases e
        · exact absurd e h32
        · exact e
      have e27i : (c[0].toNat : Int) = 27 := by omega
      clear hpl
      go_enter Tryz.func58, Tryz.ntmps58
      go_wp2_with (fail)
      go_end0
      exact ⟨rfl, ⟨V, h.fr0 ((Fr.refl 0 [] [] w).alloc _), hnb⟩, (Fr.refl _ _ _ _).alloc _⟩

theorem pBound_c {c : ByteArray} (h : Ply base w p S ov hv P V) (hnb : V.bs.length ≤ nb) (ht : Prn P.s.t) (hts : P.s.t.size ≤ 1000) (hk : P.s.k ≤ P.s.t.size) (hc : KR c) (h0 : 0 < c.size) :
    Calls Tryz.prog 58 #[.pointer (some ⟨p, 0, none⟩), .string c] w (PlyPost nb base p S ov hv (P.st (bdP S.mode (keyOf c.data.toList) P.s)) (.tuple #[]) w) := by
  have same : ∀ key : Int, bdF S.mode key (P.s.t, P.s.k) = (P.s.t, P.s.k) → P.st (bdP S.mode key P.s) = P := fun key e => by
    unfold bdP; rw [e]; rfl
  have doc : ∀ (key : Int) (g : ByteArray → Nat → ByteArray × Nat), bdF S.mode key (P.s.t, P.s.k) = g P.s.t P.s.k → P.st (bdP S.mode key P.s) = P.st (P.s.doc g) := fun key g e => by
    unfold bdP; rw [e]; rfl
  obtain ⟨hcs, hp | hkey⟩ := hc
  · have hne := text_ne hp h0
    have h86 : keyOf c.data.toList = 86 := by
      refine key_text (fun e => ?_) (by simpa using hp)
      have : c.data.toList.length = 0 := by rw [e]; rfl
      have h1 : c.data.size = 0 := by simpa using this
      have h2 : c.data.size = c.size := rfl
      omega
    rw [h86, same 86 (bdF_none (by omega))]
    exact bd_no2 h hnb h0 ⟨hne _ (by decide), hne _ (by decide), hne _ (by decide), hne _ (by decide), hne _ (by decide), hne _ (by decide), hne _ (by decide), hne _ (by decide), hne _ (by decide), hne _ (by decide), hne _ (by decide), hne _ (by decide), hne _ (by decide)⟩ (.inr (.inl (hp 0 h0).1))
  · have hl := ByteArray.toList_eq c
    have hall : c.toList = [13] ∨ c.toList = [10] ∨ c.toList = [9] ∨ c.toList = [27, 91, 90] ∨ c.toList = [27, 91, 65] ∨ c.toList = [27, 91, 66] ∨ c.toList = [27, 91, 67] ∨ c.toList = [27, 91, 68] ∨ c.toList = [27, 91, 51, 126] ∨ c.toList = [1] ∨ c.toList = [2] ∨ c.toList = [3] ∨ c.toList = [4] ∨ c.toList = [5] ∨ c.toList = [6] ∨ c.toList = [8] ∨ c.toList = [11] ∨ c.toList = [127] ∨ c.toList = [14] ∨ c.toList = [16] ∨ c.toList = [21] ∨ c.toList = [23] := by simpa [theKeys] using hkey
    rcases hall with hc | hc | hc | hc | hc | hc | hc | hc | hc | hc | hc | hc | hc | hc | hc | hc | hc | hc | hc | hc | hc | hc
    · have hkn : keyOf c.data.toList = 13 := by rw [← hl, hc]; decide
      rw [hkn]
      obtain ⟨h0', hc0⟩ := head_of hc
      rw [same 13 (bdF_none (by omega))]
      cases hpl : S.plain with
      | true => exact bd_no1 h hnb h0 hpl (by rw [hc0]; decide) (by rw [hc0]; decide)
      | false => exact bd_no2 h hnb h0 ⟨by rw [hc]; decide, by rw [hc]; decide, by rw [hc]; decide, by rw [hc]; decide, by rw [hc]; decide, by rw [hc]; decide, by rw [hc]; decide, by rw [hc]; decide, by rw [hc]; decide, by rw [hc]; decide, by rw [hc]; decide, by rw [hc]; decide, by rw [hc]; decide⟩ (.inl hpl)
    · have hkn : keyOf c.data.toList = 55 := by rw [← hl, hc]; decide
      rw [hkn]
      obtain ⟨h0', hc0⟩ := head_of hc
      rw [same 55 (bdF_none (by omega))]
      cases hpl : S.plain with
      | true => exact bd_no1 h hnb h0 hpl (by rw [hc0]; decide) (by rw [hc0]; decide)
      | false => exact bd_no2 h hnb h0 ⟨by rw [hc]; decide, by rw [hc]; decide, by rw [hc]; decide, by rw [hc]; decide, by rw [hc]; decide, by rw [hc]; decide, by rw [hc]; decide, by rw [hc]; decide, by rw [hc]; decide, by rw [hc]; decide, by rw [hc]; decide, by rw [hc]; decide, by rw [hc]; decide⟩ (.inl hpl)
    · have hkn : keyOf c.data.toList = 54 := by rw [← hl, hc]; decide
      rw [hkn]
      obtain ⟨h0', hc0⟩ := head_of hc
      rw [same 54 (bdF_none (by omega))]
      cases hpl : S.plain with
      | true => exact bd_no1 h hnb h0 hpl (by rw [hc0]; decide) (by rw [hc0]; decide)
      | false => exact bd_no2 h hnb h0 ⟨by rw [hc]; decide, by rw [hc]; decide, by rw [hc]; decide, by rw [hc]; decide, by rw [hc]; decide, by rw [hc]; decide, by rw [hc]; decide, by rw [hc]; decide, by rw [hc]; decide, by rw [hc]; decide, by rw [hc]; decide, by rw [hc]; decide, by rw [hc]; decide⟩ (.inl hpl)
    · have hkn : keyOf c.data.toList = 51 := by rw [← hl, hc]; decide
      rw [hkn]
      obtain ⟨h0', hc0⟩ := head_of hc
      rw [same 51 (bdF_none (by omega))]
      exact bd_no2 h hnb h0 ⟨by rw [hc]; decide, by rw [hc]; decide, by rw [hc]; decide, by rw [hc]; decide, by rw [hc]; decide, by rw [hc]; decide, by rw [hc]; decide, by rw [hc]; decide, by rw [hc]; decide, by rw [hc]; decide, by rw [hc]; decide, by rw [hc]; decide, by rw [hc]; decide⟩ (.inr (.inr (by rw [hc0]; decide)))
    · have hkn : keyOf c.data.toList = 36 := by rw [← hl, hc]; decide
      rw [hkn]
      obtain ⟨h0', hc0⟩ := head_of hc
      rw [same 36 (bdF_none (by omega))]
      exact bd_no2 h hnb h0 ⟨by rw [hc]; decide, by rw [hc]; decide, by rw [hc]; decide, by rw [hc]; decide, by rw [hc]; decide, by rw [hc]; decide, by rw [hc]; decide, by rw [hc]; decide, by rw [hc]; decide, by rw [hc]; decide, by rw [hc]; decide, by rw [hc]; decide, by rw [hc]; decide⟩ (.inr (.inr (by rw [hc0]; decide)))
    · have hkn : keyOf c.data.toList = 37 := by rw [← hl, hc]; decide
      rw [hkn]
      obtain ⟨h0', hc0⟩ := head_of hc
      rw [same 37 (bdF_none (by omega))]
      exact bd_no2 h hnb h0 ⟨by rw [hc]; decide, by rw [hc]; decide, by rw [hc]; decide, by rw [hc]; decide, by rw [hc]; decide, by rw [hc]; decide, by rw [hc]; decide, by rw [hc]; decide, by rw [hc]; decide, by rw [hc]; decide, by rw [hc]; decide, by rw [hc]; decide, by rw [hc]; decide⟩ (.inr (.inr (by rw [hc0]; decide)))
    · have hkn : keyOf c.data.toList = 38 := by rw [← hl, hc]; decide
      rw [hkn]
      obtain ⟨h0', hc0⟩ := head_of hc
      rw [doc 38 gRight (by cases hpl : S.plain with | true => rw [mode_com hpl]; rfl | false => rw [mode_ema hpl]; rfl)]
      exact bd_right h hnb ht hts hk hc
    · have hkn : keyOf c.data.toList = 39 := by rw [← hl, hc]; decide
      rw [hkn]
      obtain ⟨h0', hc0⟩ := head_of hc
      rw [doc 39 gLeft (by cases hpl : S.plain with | true => rw [mode_com hpl]; rfl | false => rw [mode_ema hpl]; rfl)]
      exact bd_left h hnb ht hts hk hc
    · have hkn : keyOf c.data.toList = 46 := by rw [← hl, hc]; decide
      rw [hkn]
      obtain ⟨h0', hc0⟩ := head_of hc
      rw [doc 46 gDel (by cases hpl : S.plain with | true => rw [mode_com hpl]; rfl | false => rw [mode_ema hpl]; rfl)]
      exact bd_del h hnb ht hts hk hc
    · have hkn : keyOf c.data.toList = 1 := by rw [← hl, hc]; decide
      rw [hkn]
      obtain ⟨h0', hc0⟩ := head_of hc
      cases hpl : S.plain with
      | true =>
        rw [same 1 (by rw [mode_com hpl]; rfl)]
        exact bd_no1 h hnb h0 hpl (by rw [hc0]; decide) (by rw [hc0]; decide)
      | false =>
        rw [doc 1 gStart (by rw [mode_ema hpl]; rfl)]
        exact bd_ctlA h hnb ht hts hk hc hpl
    · have hkn : keyOf c.data.toList = 2 := by rw [← hl, hc]; decide
      rw [hkn]
      obtain ⟨h0', hc0⟩ := head_of hc
      cases hpl : S.plain with
      | true =>
        rw [same 2 (by rw [mode_com hpl]; rfl)]
        exact bd_no1 h hnb h0 hpl (by rw [hc0]; decide) (by rw [hc0]; decide)
      | false =>
        rw [doc 2 gLeft (by rw [mode_ema hpl]; rfl)]
        exact bd_ctlB h hnb ht hts hk hc hpl
    · have hkn : keyOf c.data.toList = 3 := by rw [← hl, hc]; decide
      rw [hkn]
      obtain ⟨h0', hc0⟩ := head_of hc
      rw [same 3 (bdF_none (by omega))]
      cases hpl : S.plain with
      | true => exact bd_no1 h hnb h0 hpl (by rw [hc0]; decide) (by rw [hc0]; decide)
      | false => exact bd_no2 h hnb h0 ⟨by rw [hc]; decide, by rw [hc]; decide, by rw [hc]; decide, by rw [hc]; decide, by rw [hc]; decide, by rw [hc]; decide, by rw [hc]; decide, by rw [hc]; decide, by rw [hc]; decide, by rw [hc]; decide, by rw [hc]; decide, by rw [hc]; decide, by rw [hc]; decide⟩ (.inl hpl)
    · have hkn : keyOf c.data.toList = 4 := by rw [← hl, hc]; decide
      rw [hkn]
      obtain ⟨h0', hc0⟩ := head_of hc
      cases hpl : S.plain with
      | true =>
        rw [same 4 (by rw [mode_com hpl]; rfl)]
        exact bd_no1 h hnb h0 hpl (by rw [hc0]; decide) (by rw [hc0]; decide)
      | false =>
        rw [doc 4 gDel (by rw [mode_ema hpl]; rfl)]
        exact bd_ctlD h hnb ht hts hk hc hpl
    · have hkn : keyOf c.data.toList = 5 := by rw [← hl, hc]; decide
      rw [hkn]
      obtain ⟨h0', hc0⟩ := head_of hc
      cases hpl : S.plain with
      | true =>
        rw [same 5 (by rw [mode_com hpl]; rfl)]
        exact bd_no1 h hnb h0 hpl (by rw [hc0]; decide) (by rw [hc0]; decide)
      | false =>
        rw [doc 5 gEnd (by rw [mode_ema hpl]; rfl)]
        exact bd_ctlE h hnb ht hts hk hc hpl
    · have hkn : keyOf c.data.toList = 6 := by rw [← hl, hc]; decide
      rw [hkn]
      obtain ⟨h0', hc0⟩ := head_of hc
      cases hpl : S.plain with
      | true =>
        rw [same 6 (by rw [mode_com hpl]; rfl)]
        exact bd_no1 h hnb h0 hpl (by rw [hc0]; decide) (by rw [hc0]; decide)
      | false =>
        rw [doc 6 gRight (by rw [mode_ema hpl]; rfl)]
        exact bd_ctlF h hnb ht hts hk hc hpl
    · have hkn : keyOf c.data.toList = 8 := by rw [← hl, hc]; decide
      rw [hkn]
      obtain ⟨h0', hc0⟩ := head_of hc
      cases hpl : S.plain with
      | true =>
        rw [same 8 (by rw [mode_com hpl]; rfl)]
        exact bd_no1 h hnb h0 hpl (by rw [hc0]; decide) (by rw [hc0]; decide)
      | false =>
        rw [doc 8 gBack (by rw [mode_ema hpl]; rfl)]
        exact bd_ctlH h hnb ht hts hk hc hpl
    · have hkn : keyOf c.data.toList = 11 := by rw [← hl, hc]; decide
      rw [hkn]
      obtain ⟨h0', hc0⟩ := head_of hc
      cases hpl : S.plain with
      | true =>
        rw [same 11 (by rw [mode_com hpl]; rfl)]
        exact bd_no1 h hnb h0 hpl (by rw [hc0]; decide) (by rw [hc0]; decide)
      | false =>
        rw [doc 11 gKill (by rw [mode_ema hpl]; rfl)]
        exact bd_ctlK h hnb ht hts hk hc hpl
    · have hkn : keyOf c.data.toList = 53 := by rw [← hl, hc]; decide
      rw [hkn]
      obtain ⟨h0', hc0⟩ := head_of hc
      rw [doc 53 gBack (by cases hpl : S.plain with | true => rw [mode_com hpl]; rfl | false => rw [mode_ema hpl]; rfl)]
      exact bd_back h hnb ht hts hk hc
    · have hkn : keyOf c.data.toList = 14 := by rw [← hl, hc]; decide
      rw [hkn]
      obtain ⟨h0', hc0⟩ := head_of hc
      rw [same 14 (bdF_none (by omega))]
      cases hpl : S.plain with
      | true => exact bd_no1 h hnb h0 hpl (by rw [hc0]; decide) (by rw [hc0]; decide)
      | false => exact bd_no2 h hnb h0 ⟨by rw [hc]; decide, by rw [hc]; decide, by rw [hc]; decide, by rw [hc]; decide, by rw [hc]; decide, by rw [hc]; decide, by rw [hc]; decide, by rw [hc]; decide, by rw [hc]; decide, by rw [hc]; decide, by rw [hc]; decide, by rw [hc]; decide, by rw [hc]; decide⟩ (.inl hpl)
    · have hkn : keyOf c.data.toList = 16 := by rw [← hl, hc]; decide
      rw [hkn]
      obtain ⟨h0', hc0⟩ := head_of hc
      rw [same 16 (bdF_none (by omega))]
      cases hpl : S.plain with
      | true => exact bd_no1 h hnb h0 hpl (by rw [hc0]; decide) (by rw [hc0]; decide)
      | false => exact bd_no2 h hnb h0 ⟨by rw [hc]; decide, by rw [hc]; decide, by rw [hc]; decide, by rw [hc]; decide, by rw [hc]; decide, by rw [hc]; decide, by rw [hc]; decide, by rw [hc]; decide, by rw [hc]; decide, by rw [hc]; decide, by rw [hc]; decide, by rw [hc]; decide, by rw [hc]; decide⟩ (.inl hpl)
    · have hkn : keyOf c.data.toList = 21 := by rw [← hl, hc]; decide
      rw [hkn]
      obtain ⟨h0', hc0⟩ := head_of hc
      cases hpl : S.plain with
      | true =>
        rw [same 21 (by rw [mode_com hpl]; rfl)]
        exact bd_no1 h hnb h0 hpl (by rw [hc0]; decide) (by rw [hc0]; decide)
      | false =>
        rw [doc 21 gKillB (by rw [mode_ema hpl]; rfl)]
        exact bd_ctlU h hnb ht hts hk hc hpl
    · have hkn : keyOf c.data.toList = 23 := by rw [← hl, hc]; decide
      rw [hkn]
      obtain ⟨h0', hc0⟩ := head_of hc
      cases hpl : S.plain with
      | true =>
        rw [same 23 (by rw [mode_com hpl]; rfl)]
        exact bd_no1 h hnb h0 hpl (by rw [hc0]; decide) (by rw [hc0]; decide)
      | false =>
        rw [doc 23 gWord (by rw [mode_ema hpl]; rfl)]
        exact bd_ctlW h hnb ht hts hk hc hpl
end
end Go.Proofs.YtiepopbmbgfhkaaGreat

namespace Go.Proofs.YtiepopbmbgfhkaaGreat
open Go.RowKit
set_option maxHeartbeats 8000000
set_option maxRecDepth 20000
set_option linter.unusedVariables false
set_option linter.unusedSimpArgs false

theorem PlyPost.le {nb nb' base p : Nat} {S : Sess} {ov hv : Value} {P' : PL} {r : Value} {w w' : World} {e : Ending} (h : PlyPost nb base p S ov hv P' r w e w') (hn : nb ≤ nb') : PlyPost nb' base p S ov hv P' r w e w' := by
  obtain ⟨h1, ⟨V, h2, h3⟩, h4⟩ := h
  exact ⟨h1, ⟨V, h2, Nat.le_trans h3 hn⟩, h4⟩
theorem text_key {c : ByteArray} (hp : Prn c) (h0 : 0 < c.size) : keyOf c.data.toList = 86 := by
  refine key_text (fun e => ?_) (by simpa using hp)
  have : c.data.toList.length = 0 := by rw [e]; rfl
  have h1 : c.data.size = 0 := by simpa using this
  have h2 : c.data.size = c.size := rfl
  omega

section
variable {nb base : Nat} {w : World} {p : Nat} {S : Sess} {ov hv : Value} {P : PL} {V : PV} {i : Nat}
/-- Any key but four. -/
theorem choose_rest {c : ByteArray} (h : Ply base w p S ov hv P V) (hnb : V.bs.length ≤ nb) (hS : SessOk S) (hkp : Kept S i P.s) (hc : OtherKey c) (key : Int) (n1 : key ≠ 37) (n2 : key ≠ 54) (n3 : key ≠ 36) (n4 : key ≠ 51) :
    Calls Tryz.prog 56 #[.pointer (some ⟨p, 0, none⟩), .string c, .bool (decide (P.s.sel ≠ -1))] w (PlyPost nb base p S ov hv (P.st (P.s.choose (S.cp 0 0) S.down key)) (.tuple #[]) w) := by
  have e : P.s.choose (S.cp 0 0) S.down key = (P.s.chosen (S.cp 0 0)).wt P.s.tmp := by
    unfold PS.choose PS.comp
    rw [if_neg n1, if_neg n2, if_neg n3, if_neg n4]
  rw [e]
  by_cases hs : P.s.sel = -1
  · rw [show decide (P.s.sel ≠ -1) = false by simpa using hs]
    exact choose_none h hnb hS hc hs
  · rw [show decide (P.s.sel ≠ -1) = true by simpa using hs]
    obtain ⟨n, e1, e2, -⟩ := hkp.sel.resolve_left (fun h => hs h.1)
    exact choose_some h hnb hS hkp hc e1 e2

theorem pChoose_c {c : ByteArray} (h : Ply base w p S ov hv P V) (hnb : V.bs.length ≤ nb) (hS : SessOk S) (hkp : Kept S i P.s) (hc : KR c) (h0 : 0 < c.size) :
    Calls Tryz.prog 56 #[.pointer (some ⟨p, 0, none⟩), .string c, .bool (decide (P.s.sel ≠ -1))] w (PlyPost nb base p S ov hv (P.st (P.s.choose (S.cp 0 0) S.down (keyOf c.data.toList))) (.tuple #[]) w) := by
  obtain ⟨hcs, hp | hkey⟩ := hc
  · have hne := text_ne hp h0
    rw [text_key hp h0]
    exact choose_rest h hnb hS hkp ⟨hne _ (by decide), hne _ (by decide), hne _ (by decide), hne _ (by decide)⟩ 86 (by omega) (by omega) (by omega) (by omega)
  · have hl := ByteArray.toList_eq c
    have hall : c.toList = [13] ∨ c.toList = [10] ∨ c.toList = [9] ∨ c.toList = [27, 91, 90] ∨ c.toList = [27, 91, 65] ∨ c.toList = [27, 91, 66] ∨ c.toList = [27, 91, 67] ∨ c.toList = [27, 91, 68] ∨ c.toList = [27, 91, 51, 126] ∨ c.toList = [1] ∨ c.toList = [2] ∨ c.toList = [3] ∨ c.toList = [4] ∨ c.toList = [5] ∨ c.toList = [6] ∨ c.toList = [8] ∨ c.toList = [11] ∨ c.toList = [127] ∨ c.toList = [14] ∨ c.toList = [16] ∨ c.toList = [21] ∨ c.toList = [23] := by simpa [theKeys] using hkey
    rcases hall with hc | hc | hc | hc | hc | hc | hc | hc | hc | hc | hc | hc | hc | hc | hc | hc | hc | hc | hc | hc | hc | hc
    · rw [show keyOf c.data.toList = 13 by rw [← hl, hc]; decide]
      exact choose_rest h hnb hS hkp ⟨by rw [hc]; decide, by rw [hc]; decide, by rw [hc]; decide, by rw [hc]; decide⟩ 13 (by omega) (by omega) (by omega) (by omega)
    · rw [show keyOf c.data.toList = 55 by rw [← hl, hc]; decide]
      exact choose_rest h hnb hS hkp ⟨by rw [hc]; decide, by rw [hc]; decide, by rw [hc]; decide, by rw [hc]; decide⟩ 55 (by omega) (by omega) (by omega) (by omega)
    · rw [show keyOf c.data.toList = 54 by rw [← hl, hc]; decide]
      exact choose_tab h hnb hS hkp hc _
    · rw [show keyOf c.data.toList = 51 by rw [← hl, hc]; decide]
      have e : P.s.choose (S.cp 0 0) S.down 51 = (P.s.prev (S.cp 0 0)).wt P.s.tmp := by
        unfold PS.choose PS.comp
        rw [if_neg (by omega), if_neg (by omega), if_neg (by omega), if_pos rfl]
      rw [e]
      exact choose_back h hnb hS hkp hc _
    · rw [show keyOf c.data.toList = 36 by rw [← hl, hc]; decide]
      by_cases hs : P.s.sel = -1
      · have e : P.s.choose (S.cp 0 0) S.down 36 = P.s := by
          unfold PS.choose PS.comp
          rw [if_neg (by omega), if_neg (by omega), if_pos rfl, if_neg (by simpa using hs)]
          rfl
        rw [e, show decide (P.s.sel ≠ -1) = false by simpa using hs]
        exact choose_no h hnb hS (.inr hc)
      · have e : P.s.choose (S.cp 0 0) S.down 36 = (P.s.prev (S.cp 0 0)).wt P.s.tmp := by
          unfold PS.choose PS.comp
          rw [if_neg (by omega), if_neg (by omega), if_pos rfl, if_pos hs]
        rw [e, show decide (P.s.sel ≠ -1) = true by simpa using hs]
        exact choose_up h hnb hS hkp hc _ rfl
    · rw [show keyOf c.data.toList = 37 by rw [← hl, hc]; decide]
      by_cases hs : P.s.sel = -1
      · rw [show decide (P.s.sel ≠ -1) = false by simpa using hs]
        cases hd : S.down with
        | true =>
          have e : P.s.choose (S.cp 0 0) true 37 = (P.s.next (S.cp 0 0)).wt P.s.tmp := by
            unfold PS.choose PS.comp
            rw [if_pos rfl, if_pos (.inr rfl)]
          rw [e]
          exact choose_down2 h hnb hS hkp hc _ rfl hd
        | false =>
          have e : P.s.choose (S.cp 0 0) false 37 = P.s := by
            unfold PS.choose PS.comp
            rw [if_pos rfl, if_neg (by simpa using hs)]
            rfl
          rw [e]
          exact choose_no h hnb hS (.inl ⟨hc, hd⟩)
      · have e : P.s.choose (S.cp 0 0) S.down 37 = (P.s.next (S.cp 0 0)).wt P.s.tmp := by
          unfold PS.choose PS.comp
          rw [if_pos rfl, if_pos (.inl hs)]
        rw [e, show decide (P.s.sel ≠ -1) = true by simpa using hs]
        exact choose_down h hnb hS hkp hc _ rfl
    · rw [show keyOf c.data.toList = 38 by rw [← hl, hc]; decide]
      exact choose_rest h hnb hS hkp ⟨by rw [hc]; decide, by rw [hc]; decide, by rw [hc]; decide, by rw [hc]; decide⟩ 38 (by omega) (by omega) (by omega) (by omega)
    · rw [show keyOf c.data.toList = 39 by rw [← hl, hc]; decide]
      exact choose_rest h hnb hS hkp ⟨by rw [hc]; decide, by rw [hc]; decide, by rw [hc]; decide, by rw [hc]; decide⟩ 39 (by omega) (by omega) (by omega) (by omega)
    · rw [show keyOf c.data.toList = 46 by rw [← hl, hc]; decide]
      exact choose_rest h hnb hS hkp ⟨by rw [hc]; decide, by rw [hc]; decide, by rw [hc]; decide, by rw [hc]; decide⟩ 46 (by omega) (by omega) (by omega) (by omega)
    · rw [show keyOf c.data.toList = 1 by rw [← hl, hc]; decide]
      exact choose_rest h hnb hS hkp ⟨by rw [hc]; decide, by rw [hc]; decide, by rw [hc]; decide, by rw [hc]; decide⟩ 1 (by omega) (by omega) (by omega) (by omega)
    · rw [show keyOf c.data.toList = 2 by rw [← hl, hc]; decide]
      exact choose_rest h hnb hS hkp ⟨by rw [hc]; decide, by rw [hc]; decide, by rw [hc]; decide, by rw [hc]; decide⟩ 2 (by omega) (by omega) (by omega) (by omega)
    · rw [show keyOf c.data.toList = 3 by rw [← hl, hc]; decide]
      exact choose_rest h hnb hS hkp ⟨by rw [hc]; decide, by rw [hc]; decide, by rw [hc]; decide, by rw [hc]; decide⟩ 3 (by omega) (by omega) (by omega) (by omega)
    · rw [show keyOf c.data.toList = 4 by rw [← hl, hc]; decide]
      exact choose_rest h hnb hS hkp ⟨by rw [hc]; decide, by rw [hc]; decide, by rw [hc]; decide, by rw [hc]; decide⟩ 4 (by omega) (by omega) (by omega) (by omega)
    · rw [show keyOf c.data.toList = 5 by rw [← hl, hc]; decide]
      exact choose_rest h hnb hS hkp ⟨by rw [hc]; decide, by rw [hc]; decide, by rw [hc]; decide, by rw [hc]; decide⟩ 5 (by omega) (by omega) (by omega) (by omega)
    · rw [show keyOf c.data.toList = 6 by rw [← hl, hc]; decide]
      exact choose_rest h hnb hS hkp ⟨by rw [hc]; decide, by rw [hc]; decide, by rw [hc]; decide, by rw [hc]; decide⟩ 6 (by omega) (by omega) (by omega) (by omega)
    · rw [show keyOf c.data.toList = 8 by rw [← hl, hc]; decide]
      exact choose_rest h hnb hS hkp ⟨by rw [hc]; decide, by rw [hc]; decide, by rw [hc]; decide, by rw [hc]; decide⟩ 8 (by omega) (by omega) (by omega) (by omega)
    · rw [show keyOf c.data.toList = 11 by rw [← hl, hc]; decide]
      exact choose_rest h hnb hS hkp ⟨by rw [hc]; decide, by rw [hc]; decide, by rw [hc]; decide, by rw [hc]; decide⟩ 11 (by omega) (by omega) (by omega) (by omega)
    · rw [show keyOf c.data.toList = 53 by rw [← hl, hc]; decide]
      exact choose_rest h hnb hS hkp ⟨by rw [hc]; decide, by rw [hc]; decide, by rw [hc]; decide, by rw [hc]; decide⟩ 53 (by omega) (by omega) (by omega) (by omega)
    · rw [show keyOf c.data.toList = 14 by rw [← hl, hc]; decide]
      exact choose_rest h hnb hS hkp ⟨by rw [hc]; decide, by rw [hc]; decide, by rw [hc]; decide, by rw [hc]; decide⟩ 14 (by omega) (by omega) (by omega) (by omega)
    · rw [show keyOf c.data.toList = 16 by rw [← hl, hc]; decide]
      exact choose_rest h hnb hS hkp ⟨by rw [hc]; decide, by rw [hc]; decide, by rw [hc]; decide, by rw [hc]; decide⟩ 16 (by omega) (by omega) (by omega) (by omega)
    · rw [show keyOf c.data.toList = 21 by rw [← hl, hc]; decide]
      exact choose_rest h hnb hS hkp ⟨by rw [hc]; decide, by rw [hc]; decide, by rw [hc]; decide, by rw [hc]; decide⟩ 21 (by omega) (by omega) (by omega) (by omega)
    · rw [show keyOf c.data.toList = 23 by rw [← hl, hc]; decide]
      exact choose_rest h hnb hS hkp ⟨by rw [hc]; decide, by rw [hc]; decide, by rw [hc]; decide, by rw [hc]; decide⟩ 23 (by omega) (by omega) (by omega) (by omega)

theorem act_more {c : ByteArray} (h : Ply base w p S ov hv P V) (hnb : V.bs.length ≤ nb) (hov : P.over = false) (hc : NoAct c) (h0 : 0 < c.size) (ho : c[0].toNat < 32 ∨ c.toList = [127]) (cpl : Bool) (l : List UInt8) (n : Int) (hl : keyOf l = n) (hn : n ≠ 55 ∧ n ≠ 13 ∧ n ≠ 3 ∧ n ≠ 36 ∧ n ≠ 16 ∧ n ≠ 37 ∧ n ≠ 14 ∧ n ≠ 4 ∧ n ≠ 86) :
    Calls Tryz.prog 57 #[.pointer (some ⟨p, 0, none⟩), .string c, .bool cpl] w (PlyPost (nb + 1) base p S ov hv ⟨(P.s.act S.exit S.down cpl l).1, (P.s.act S.exit S.down cpl l).2.1, P.opn || (P.s.act S.exit S.down cpl l).2.2.1⟩ (.bool (P.s.act S.exit S.down cpl l).2.2.2) w) := by
  have e : P.s.act S.exit S.down cpl l = (P.s, false, false, false) := by
    unfold PS.act
    rw [hl, if_neg (by omega), if_neg (by omega), if_neg (by omega), if_neg (by omega), if_neg (by omega), if_neg (by omega)]
  rw [e]
  have eP : (⟨P.s, false, P.opn || false⟩ : PL) = P := by rw [Bool.or_false, ← hov]
  show Calls _ _ _ _ (PlyPost (nb + 1) base p S ov hv ⟨P.s, false, P.opn || false⟩ (.bool false) w)
  rw [eP]
  exact (act_other h hnb hc h0 ho cpl).mono fun e w' h => h.le (by omega)

theorem pAct_c {c : ByteArray} (h : Ply base w p S ov hv P V) (hnb : V.bs.length ≤ nb) (hnb9 : nb ≤ 1000) (hA : ActH P.s) (hov : P.over = false) (hc : KR c) (h0 : 0 < c.size) (cpl : Bool) :
    Calls Tryz.prog 57 #[.pointer (some ⟨p, 0, none⟩), .string c, .bool cpl] w (PlyPost (nb + 1) base p S ov hv ⟨(P.s.act S.exit S.down cpl c.data.toList).1, (P.s.act S.exit S.down cpl c.data.toList).2.1, P.opn || (P.s.act S.exit S.down cpl c.data.toList).2.2.1⟩ (.bool (P.s.act S.exit S.down cpl c.data.toList).2.2.2) w) := by
  obtain ⟨l, hl9⟩ : ∃ l, c.data.toList = l := ⟨_, rfl⟩
  have up : ∀ {P' : PL} {r : Value} {e : Ending} {w' : World}, PlyPost nb base p S ov hv P' r w e w' → PlyPost (nb + 1) base p S ov hv P' r w e w' := fun h => h.le (by omega)
  have same : ∀ (b : Bool), (⟨P.s, false, P.opn || false⟩ : PL) = P := fun _ => by rw [Bool.or_false, ← hov]
  obtain ⟨hcs, hp | hkey⟩ := hc
  · have hne := text_ne hp h0
    have hk := text_key hp h0
    have hcl : (⟨l.toArray⟩ : ByteArray) = c := by rw [← hl9]
    rw [hl9] at hk ⊢
    have e : P.s.act S.exit S.down cpl l = (P.s.typed c, false, false, false) := by
      unfold PS.act
      rw [hk, if_neg (by omega), if_neg (by omega), if_neg (by omega), if_neg (by omega), if_neg (by omega), if_pos rfl, hcl]
    rw [e]
    have eP : (⟨P.s.typed c, false, P.opn || false⟩ : PL) = P.st (P.s.typed c) := by rw [Bool.or_false, ← hov]; rfl
    show Calls _ _ _ _ (PlyPost (nb + 1) base p S ov hv ⟨P.s.typed c, false, P.opn || false⟩ (.bool false) w)
    rw [eP]
    exact (act_text h hnb hA ⟨hne _ (by decide), hne _ (by decide), hne _ (by decide), hne _ (by decide), hne _ (by decide), hne _ (by decide), hne _ (by decide), hne _ (by decide)⟩ hp hcs h0 (hne _ (by decide)) cpl).mono fun e w' h => up h
  · have hl := ByteArray.toList_eq c
    rw [hl9] at hl ⊢
    have hall : c.toList = [13] ∨ c.toList = [10] ∨ c.toList = [9] ∨ c.toList = [27, 91, 90] ∨ c.toList = [27, 91, 65] ∨ c.toList = [27, 91, 66] ∨ c.toList = [27, 91, 67] ∨ c.toList = [27, 91, 68] ∨ c.toList = [27, 91, 51, 126] ∨ c.toList = [1] ∨ c.toList = [2] ∨ c.toList = [3] ∨ c.toList = [4] ∨ c.toList = [5] ∨ c.toList = [6] ∨ c.toList = [8] ∨ c.toList = [11] ∨ c.toList = [127] ∨ c.toList = [14] ∨ c.toList = [16] ∨ c.toList = [21] ∨ c.toList = [23] := by simpa [theKeys] using hkey
    rcases hall with hc | hc | hc | hc | hc | hc | hc | hc | hc | hc | hc | hc | hc | hc | hc | hc | hc | hc | hc | hc | hc | hc
    · have hk : keyOf l = 13 := by rw [← hl, hc]; decide
      have e : P.s.act S.exit S.down cpl l = (P.s.ran, decide (S.exit ≠ .empty ∧ P.s.t = S.exit), false, false) := by
        unfold PS.act
        rw [hk, if_pos (by omega)]
      rw [e]
      show Calls _ _ _ _ (PlyPost (nb + 1) base p S ov hv ⟨P.s.ran, decide (S.exit ≠ .empty ∧ P.s.t = S.exit), P.opn || false⟩ (.bool false) w)
      rw [Bool.or_false]
      exact act_enter0 h hnb hnb9 hA hov hc cpl
    · have hk : keyOf l = 55 := by rw [← hl, hc]; decide
      have e : P.s.act S.exit S.down cpl l = (P.s.ran, decide (S.exit ≠ .empty ∧ P.s.t = S.exit), false, false) := by
        unfold PS.act
        rw [hk, if_pos (by omega)]
      rw [e]
      show Calls _ _ _ _ (PlyPost (nb + 1) base p S ov hv ⟨P.s.ran, decide (S.exit ≠ .empty ∧ P.s.t = S.exit), P.opn || false⟩ (.bool false) w)
      rw [Bool.or_false]
      exact act_enter1 h hnb hnb9 hA hov hc cpl
    · have hk : keyOf l = 54 := by rw [← hl, hc]; decide
      obtain ⟨h0', hc0⟩ := head_of hc
      exact act_more h hnb hov ⟨by rw [hc]; decide, by rw [hc]; decide, by rw [hc]; decide, by rw [hc]; decide, by rw [hc]; decide, by rw [hc]; decide, by rw [hc]; decide, by rw [hc]; decide⟩ h0 (.inl (by rw [hc0]; decide)) cpl l 54 hk (by omega)
    · have hk : keyOf l = 51 := by rw [← hl, hc]; decide
      obtain ⟨h0', hc0⟩ := head_of hc
      exact act_more h hnb hov ⟨by rw [hc]; decide, by rw [hc]; decide, by rw [hc]; decide, by rw [hc]; decide, by rw [hc]; decide, by rw [hc]; decide, by rw [hc]; decide, by rw [hc]; decide⟩ h0 (.inl (by rw [hc0]; decide)) cpl l 51 hk (by omega)
    · have hk : keyOf l = 36 := by rw [← hl, hc]; decide
      have e : P.s.act S.exit S.down cpl l = (if cpl then P.s else P.s.older, false, false, false) := by
        unfold PS.act
        rw [hk, if_neg (by omega), if_neg (by omega), if_pos (by omega)]
      rw [e]
      show Calls _ _ _ _ (PlyPost (nb + 1) base p S ov hv ⟨if cpl then P.s else P.s.older, false, P.opn || false⟩ (.bool false) w)
      by_cases hno : cpl = true ∨ P.s.hsel = 0
      · have e2 : (if cpl then P.s else P.s.older) = P.s := by
          cases cpl with
          | true => rfl
          | false =>
            have h9 : P.s.hsel = 0 := by simpa using hno
            show P.s.older = P.s
            unfold PS.older
            rw [if_pos (.inr h9)]
        rw [e2, same true]
        exact (act_up_no0 h hnb hc cpl hno).mono fun e w' h => up h
      · obtain rfl : cpl = false := by cases cpl; rfl; exact absurd (.inl rfl) hno
        have eP : (⟨P.s.older, false, P.opn || false⟩ : PL) = P.st P.s.older := by rw [Bool.or_false, ← hov]; rfl
        show Calls _ _ _ _ (PlyPost (nb + 1) base p S ov hv ⟨P.s.older, false, P.opn || false⟩ (.bool false) w)
        rw [eP]
        exact (act_up0 h hnb hA hc (fun h => hno (.inr h))).mono fun e w' h => up h
    · have hk : keyOf l = 37 := by rw [← hl, hc]; decide
      have e : P.s.act S.exit S.down cpl l = (if cpl then P.s else P.s.newer, false, !cpl && decide (P.s.hsel + 1 < P.s.ts.length) && S.down, true) := by
        unfold PS.act
        rw [hk, if_neg (by omega), if_neg (by omega), if_neg (by omega), if_pos (by omega)]
        simp
      rw [e]
      show Calls _ _ _ _ (PlyPost (nb + 1) base p S ov hv ⟨if cpl then P.s else P.s.newer, false, P.opn || (!cpl && decide (P.s.hsel + 1 < P.s.ts.length) && S.down)⟩ (.bool true) w)
      by_cases hno : cpl = true ∨ P.s.ts.length ≤ P.s.hsel + 1
      · have e2 : (if cpl then P.s else P.s.newer) = P.s := by
          cases cpl with
          | true => rfl
          | false =>
            have h9 : P.s.ts.length ≤ P.s.hsel + 1 := by simpa using hno
            show P.s.newer = P.s
            unfold PS.newer
            rw [if_pos h9]
        have e3 : (!cpl && decide (P.s.hsel + 1 < P.s.ts.length) && S.down) = false := by
          rcases hno with h9 | h9
          · rw [h9]; simp
          · rw [show decide (P.s.hsel + 1 < P.s.ts.length) = false by simp; omega]; simp
        rw [e2, e3, same true]
        exact (act_dn_no0 h hnb hA hc cpl hno).mono fun e w' h => up h
      · obtain rfl : cpl = false := by cases cpl; rfl; exact absurd (.inl rfl) hno
        have hlt : P.s.hsel + 1 < P.s.ts.length := by
          have : ¬ P.s.ts.length ≤ P.s.hsel + 1 := fun h => hno (.inr h)
          omega
        have e3 : (!false && decide (P.s.hsel + 1 < P.s.ts.length) && S.down) = S.down := by rw [decide_eq_true hlt]; simp
        rw [e3]
        have h9 := act_dn0 h hnb hA hc hlt
        rw [hov] at h9
        exact h9.mono fun e w' h => up h
    · have hk : keyOf l = 38 := by rw [← hl, hc]; decide
      obtain ⟨h0', hc0⟩ := head_of hc
      exact act_more h hnb hov ⟨by rw [hc]; decide, by rw [hc]; decide, by rw [hc]; decide, by rw [hc]; decide, by rw [hc]; decide, by rw [hc]; decide, by rw [hc]; decide, by rw [hc]; decide⟩ h0 (.inl (by rw [hc0]; decide)) cpl l 38 hk (by omega)
    · have hk : keyOf l = 39 := by rw [← hl, hc]; decide
      obtain ⟨h0', hc0⟩ := head_of hc
      exact act_more h hnb hov ⟨by rw [hc]; decide, by rw [hc]; decide, by rw [hc]; decide, by rw [hc]; decide, by rw [hc]; decide, by rw [hc]; decide, by rw [hc]; decide, by rw [hc]; decide⟩ h0 (.inl (by rw [hc0]; decide)) cpl l 39 hk (by omega)
    · have hk : keyOf l = 46 := by rw [← hl, hc]; decide
      obtain ⟨h0', hc0⟩ := head_of hc
      exact act_more h hnb hov ⟨by rw [hc]; decide, by rw [hc]; decide, by rw [hc]; decide, by rw [hc]; decide, by rw [hc]; decide, by rw [hc]; decide, by rw [hc]; decide, by rw [hc]; decide⟩ h0 (.inl (by rw [hc0]; decide)) cpl l 46 hk (by omega)
    · have hk : keyOf l = 1 := by rw [← hl, hc]; decide
      obtain ⟨h0', hc0⟩ := head_of hc
      exact act_more h hnb hov ⟨by rw [hc]; decide, by rw [hc]; decide, by rw [hc]; decide, by rw [hc]; decide, by rw [hc]; decide, by rw [hc]; decide, by rw [hc]; decide, by rw [hc]; decide⟩ h0 (.inl (by rw [hc0]; decide)) cpl l 1 hk (by omega)
    · have hk : keyOf l = 2 := by rw [← hl, hc]; decide
      obtain ⟨h0', hc0⟩ := head_of hc
      exact act_more h hnb hov ⟨by rw [hc]; decide, by rw [hc]; decide, by rw [hc]; decide, by rw [hc]; decide, by rw [hc]; decide, by rw [hc]; decide, by rw [hc]; decide, by rw [hc]; decide⟩ h0 (.inl (by rw [hc0]; decide)) cpl l 2 hk (by omega)
    · have hk : keyOf l = 3 := by rw [← hl, hc]; decide
      have e : P.s.act S.exit S.down cpl l = (P.s.cancel, false, false, false) := by
        unfold PS.act
        rw [hk, if_neg (by omega), if_pos rfl]
      rw [e]
      have eP : (⟨P.s.cancel, false, P.opn || false⟩ : PL) = P.st P.s.cancel := by rw [Bool.or_false, ← hov]; rfl
      show Calls _ _ _ _ (PlyPost (nb + 1) base p S ov hv ⟨P.s.cancel, false, P.opn || false⟩ (.bool false) w)
      rw [eP]
      exact act_c h hnb hnb9 hA hc cpl
    · have hk : keyOf l = 4 := by rw [← hl, hc]; decide
      have e : P.s.act S.exit S.down cpl l = (P.s, decide (P.s.t = .empty), false, false) := by
        unfold PS.act
        rw [hk, if_neg (by omega), if_neg (by omega), if_neg (by omega), if_neg (by omega), if_pos rfl]
      rw [e]
      show Calls _ _ _ _ (PlyPost (nb + 1) base p S ov hv ⟨P.s, decide (P.s.t = .empty), P.opn || false⟩ (.bool false) w)
      by_cases hz : P.s.t = .empty
      · rw [decide_eq_true hz, Bool.or_false]
        exact act_d h hnb hnb9 hc cpl hz
      · rw [decide_eq_false hz, same true]
        exact (act_d_no h hnb hc cpl hz).mono fun e w' h => up h
    · have hk : keyOf l = 5 := by rw [← hl, hc]; decide
      obtain ⟨h0', hc0⟩ := head_of hc
      exact act_more h hnb hov ⟨by rw [hc]; decide, by rw [hc]; decide, by rw [hc]; decide, by rw [hc]; decide, by rw [hc]; decide, by rw [hc]; decide, by rw [hc]; decide, by rw [hc]; decide⟩ h0 (.inl (by rw [hc0]; decide)) cpl l 5 hk (by omega)
    · have hk : keyOf l = 6 := by rw [← hl, hc]; decide
      obtain ⟨h0', hc0⟩ := head_of hc
      exact act_more h hnb hov ⟨by rw [hc]; decide, by rw [hc]; decide, by rw [hc]; decide, by rw [hc]; decide, by rw [hc]; decide, by rw [hc]; decide, by rw [hc]; decide, by rw [hc]; decide⟩ h0 (.inl (by rw [hc0]; decide)) cpl l 6 hk (by omega)
    · have hk : keyOf l = 8 := by rw [← hl, hc]; decide
      obtain ⟨h0', hc0⟩ := head_of hc
      exact act_more h hnb hov ⟨by rw [hc]; decide, by rw [hc]; decide, by rw [hc]; decide, by rw [hc]; decide, by rw [hc]; decide, by rw [hc]; decide, by rw [hc]; decide, by rw [hc]; decide⟩ h0 (.inl (by rw [hc0]; decide)) cpl l 8 hk (by omega)
    · have hk : keyOf l = 11 := by rw [← hl, hc]; decide
      obtain ⟨h0', hc0⟩ := head_of hc
      exact act_more h hnb hov ⟨by rw [hc]; decide, by rw [hc]; decide, by rw [hc]; decide, by rw [hc]; decide, by rw [hc]; decide, by rw [hc]; decide, by rw [hc]; decide, by rw [hc]; decide⟩ h0 (.inl (by rw [hc0]; decide)) cpl l 11 hk (by omega)
    · have hk : keyOf l = 53 := by rw [← hl, hc]; decide
      obtain ⟨h0', hc0⟩ := head_of hc
      exact act_more h hnb hov ⟨by rw [hc]; decide, by rw [hc]; decide, by rw [hc]; decide, by rw [hc]; decide, by rw [hc]; decide, by rw [hc]; decide, by rw [hc]; decide, by rw [hc]; decide⟩ h0 (.inr hc) cpl l 53 hk (by omega)
    · have hk : keyOf l = 14 := by rw [← hl, hc]; decide
      have e : P.s.act S.exit S.down cpl l = (if cpl then P.s else P.s.newer, false, !cpl && decide (P.s.hsel + 1 < P.s.ts.length) && false, true) := by
        unfold PS.act
        rw [hk, if_neg (by omega), if_neg (by omega), if_neg (by omega), if_pos (by omega)]
        simp
      rw [e]
      show Calls _ _ _ _ (PlyPost (nb + 1) base p S ov hv ⟨if cpl then P.s else P.s.newer, false, P.opn || (!cpl && decide (P.s.hsel + 1 < P.s.ts.length) && false)⟩ (.bool true) w)
      by_cases hno : cpl = true ∨ P.s.ts.length ≤ P.s.hsel + 1
      · have e2 : (if cpl then P.s else P.s.newer) = P.s := by
          cases cpl with
          | true => rfl
          | false =>
            have h9 : P.s.ts.length ≤ P.s.hsel + 1 := by simpa using hno
            show P.s.newer = P.s
            unfold PS.newer
            rw [if_pos h9]
        have e3 : (!cpl && decide (P.s.hsel + 1 < P.s.ts.length) && false) = false := by
          rcases hno with h9 | h9
          · rw [h9]; simp
          · rw [show decide (P.s.hsel + 1 < P.s.ts.length) = false by simp; omega]; simp
        rw [e2, e3, same true]
        exact (act_dn_no1 h hnb hA hc cpl hno).mono fun e w' h => up h
      · obtain rfl : cpl = false := by cases cpl; rfl; exact absurd (.inl rfl) hno
        have hlt : P.s.hsel + 1 < P.s.ts.length := by
          have : ¬ P.s.ts.length ≤ P.s.hsel + 1 := fun h => hno (.inr h)
          omega
        have e3 : (!false && decide (P.s.hsel + 1 < P.s.ts.length) && false) = false := by rw [decide_eq_true hlt]; simp
        rw [e3]
        have h9 := act_dn1 h hnb hA hc hlt
        rw [hov] at h9
        exact h9.mono fun e w' h => up h
    · have hk : keyOf l = 16 := by rw [← hl, hc]; decide
      have e : P.s.act S.exit S.down cpl l = (if cpl then P.s else P.s.older, false, false, false) := by
        unfold PS.act
        rw [hk, if_neg (by omega), if_neg (by omega), if_pos (by omega)]
      rw [e]
      show Calls _ _ _ _ (PlyPost (nb + 1) base p S ov hv ⟨if cpl then P.s else P.s.older, false, P.opn || false⟩ (.bool false) w)
      by_cases hno : cpl = true ∨ P.s.hsel = 0
      · have e2 : (if cpl then P.s else P.s.older) = P.s := by
          cases cpl with
          | true => rfl
          | false =>
            have h9 : P.s.hsel = 0 := by simpa using hno
            show P.s.older = P.s
            unfold PS.older
            rw [if_pos (.inr h9)]
        rw [e2, same true]
        exact (act_up_no1 h hnb hc cpl hno).mono fun e w' h => up h
      · obtain rfl : cpl = false := by cases cpl; rfl; exact absurd (.inl rfl) hno
        have eP : (⟨P.s.older, false, P.opn || false⟩ : PL) = P.st P.s.older := by rw [Bool.or_false, ← hov]; rfl
        show Calls _ _ _ _ (PlyPost (nb + 1) base p S ov hv ⟨P.s.older, false, P.opn || false⟩ (.bool false) w)
        rw [eP]
        exact (act_up1 h hnb hA hc (fun h => hno (.inr h))).mono fun e w' h => up h
    · have hk : keyOf l = 21 := by rw [← hl, hc]; decide
      obtain ⟨h0', hc0⟩ := head_of hc
      exact act_more h hnb hov ⟨by rw [hc]; decide, by rw [hc]; decide, by rw [hc]; decide, by rw [hc]; decide, by rw [hc]; decide, by rw [hc]; decide, by rw [hc]; decide, by rw [hc]; decide⟩ h0 (.inl (by rw [hc0]; decide)) cpl l 21 hk (by omega)
    · have hk : keyOf l = 23 := by rw [← hl, hc]; decide
      obtain ⟨h0', hc0⟩ := head_of hc
      exact act_more h hnb hov ⟨by rw [hc]; decide, by rw [hc]; decide, by rw [hc]; decide, by rw [hc]; decide, by rw [hc]; decide, by rw [hc]; decide, by rw [hc]; decide, by rw [hc]; decide⟩ h0 (.inl (by rw [hc0]; decide)) cpl l 23 hk (by omega)

/-- A line behind what a key does by itself is not too long. -/
theorem act_size {s : PS} {et : ByteArray} {down cpl : Bool} {l : List UInt8} (h1 : s.t.size ≤ 240) (hk : s.k ≤ s.t.size) (h2 : ∀ x ∈ s.ts, Prn x ∧ x.size ≤ 240) (hl : keyOf l = 86 → l.length ≤ 40) : (s.act et down cpl l).1.t.size ≤ 300 := by
  have e0 : (ByteArray.empty).size ≤ 300 := by decide
  unfold PS.act
  split
  · unfold PS.ran PS.enter
    split <;> exact e0
  split
  · exact e0
  split
  · cases cpl
    · show s.older.t.size ≤ 300
      unfold PS.older
      split
      · omega
      · exact Nat.le_trans (getD_prn h2 _).2 (by omega)
    · show s.t.size ≤ 300; omega
  split
  · cases cpl
    · show s.newer.t.size ≤ 300
      unfold PS.newer
      split
      · omega
      · exact Nat.le_trans (getD_prn h2 _).2 (by omega)
    · show s.t.size ≤ 300; omega
  split
  · show s.t.size ≤ 300; omega
  split
  · next h86 =>
    show (putT s.t s.k ⟨l.toArray⟩).size ≤ 300
    rw [size_put hk]
    have : (⟨l.toArray⟩ : ByteArray).size = l.length := by show l.toArray.size = _; simp
    have := hl h86
    omega
  · show s.t.size ≤ 300; omega
end
end Go.Proofs.YtiepopbmbgfhkaaGreat
