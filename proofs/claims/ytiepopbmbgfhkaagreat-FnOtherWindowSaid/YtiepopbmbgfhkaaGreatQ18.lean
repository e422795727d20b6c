/-
  feed: the keys that end a line.
  feed: up and down.
-/
import Derived.Test.YtiepopbmbgfhkaaGreatQ17
namespace Go.Proofs.YtiepopbmbgfhkaaGreat
open Go.RowKit
open List renaming setIfInBounds_toArray → zq1, set_cons_zero → zq2, set_cons_succ → zq3
open Int renaming toNat_natCast → zq4, toNat_sub → zq5, toNat_zero → zq6
set_option maxHeartbeats 2000000
set_option maxRecDepth 20000
set_option linter.unusedVariables false
set_option linter.unusedSimpArgs false

section
variable {base : Nat} {w w1 : World} {r o b L c : Nat} {pre : ByteArray} {cols n m : Nat} {t t' : ByteArray} {k k' : Nat} {q : Cp} {sel vs sel' vs' : Int} {tmp tmp' : List Pk}
theorem Scr.brk (h : Scr base w r o b L c pre cols n t k q sel vs tmp) (hR : Rn base w1 r o pre cols m) (hB : Buf base w1 b L t k) (hF : Fr base [5, 143] [b, r] w w1) : Scr base w1 r o b L c pre cols m t k q sel vs tmp := by
  obtain ⟨⟨cs, hb⟩, -⟩ := h.buf.blk
  obtain ⟨pc, hpc, -, hrB, -⟩ := h.rn.ren
  refine ⟨hR, hB, h.cm.fr hF (by simp) fun x hx => ?_⟩
  simp only [List.mem_cons, List.not_mem_nil, or_false] at hx
  rcases hx with rfl | rfl
  · exact ⟨cs, 121, hb, by decide, by decide, by decide, by decide⟩
  · exact ⟨_, 128, hrB, by decide, by decide, by decide, by decide⟩
end

section
variable {base : Nat} {w : World} {I : Pid} {D : Dyn}
theorem comp_keep (D : Dyn) (I : Pid) (key : Int) : (D.comp I key).hs = D.hs ∧ (D.comp I key).ts = D.ts ∧ (D.comp I key).hsel = D.hsel ∧ (D.comp I key).lines = D.lines ∧ (D.comp I key).n = D.n := by
  unfold Dyn.comp Dyn.chosen
  by_cases h1 : key = 37
  · rw [if_pos h1]
    by_cases h : D.sel ≠ -1 ∨ I.down = true
    · rw [if_pos h]; exact ⟨rfl, rfl, rfl, rfl, rfl⟩
    · rw [if_neg h]; exact ⟨rfl, rfl, rfl, rfl, rfl⟩
  · rw [if_neg h1]
    by_cases h2 : key = 54
    · rw [if_pos h2]; exact ⟨rfl, rfl, rfl, rfl, rfl⟩
    · rw [if_neg h2]
      by_cases h3 : key = 36
      · rw [if_pos h3]
        by_cases h : D.sel ≠ -1
        · rw [if_pos h]; exact ⟨rfl, rfl, rfl, rfl, rfl⟩
        · rw [if_neg h]; exact ⟨rfl, rfl, rfl, rfl, rfl⟩
      · rw [if_neg h3]
        by_cases h4 : key = 51
        · rw [if_pos h4]; exact ⟨rfl, rfl, rfl, rfl, rfl⟩
        · rw [if_neg h4]
          by_cases h : D.sel = -1
          · rw [if_pos h]; exact ⟨rfl, rfl, rfl, rfl, rfl⟩
          · rw [if_neg h]; exact ⟨rfl, rfl, rfl, rfl, rfl⟩

theorem St.compTT {w1 : World} (h : St base w I D) (hF : Fr base [] [D.b, D.L, I.c] w w1) : Fr base TT [] w w1 :=
  h.tt hF (by simp) (fun x hx => .inr (by simp only [List.mem_cons, List.not_mem_nil, or_false] at hx ⊢; rcases hx with h | h | h <;> simp [h]))

theorem feed_enter {u : Value} {l : List UInt8} {key : Int} {bd : PS → PS} (h : St base w I D) (hI : IdOk I) (hP : PsOk I D.ps) (hd : DatB w u l) (hkey : keyOf l = key) (hK : key = 55 ∨ key = 13) (hKB : KBnd base I key bd) (hn : D.n + 4000 ≤ 1000000000) :
    Calls Tryz.prog 48 #[.pointer (some ⟨I.p, 0, none⟩), u] w (FeedPost base I D (bd (D.ps.comp I.q I.down key).enter) false (some (D.ps.comp I.q I.down key).t) w) := by
  obtain ⟨cp, hcp⟩ : ∃ cp, cp = (D.sel != -1) := ⟨_, rfl⟩
  have hgk := getKey_c hd.dat
  rw [hkey] at hgk
  have hne : key ≠ 37 ∧ key ≠ 54 ∧ key ≠ 36 ∧ key ≠ 51 ∧ key ≠ 9 := by omega
  obtain ⟨o1, o2, o3, o4, o5, o6⟩ := comp_ok hI hP key ⟨hne.1, hne.2.1, hne.2.2.1, hne.2.2.2.1⟩
  obtain ⟨m1, m2, m3, m4, m5⟩ := comp_keep D I key
  have hh : D.hs.length ≤ 1000 := hP.hhl
  have hcomp := fun (w1 : World) (h1 : St base w1 I D) => comp_c h1 (StOk.of hI hP) cp hcp key hne.2.2.2.2
  rw [← ps_comp]
  obtain ⟨D1, hD1⟩ : ∃ D1, D.comp I key = D1 := ⟨_, rfl⟩
  rw [hD1] at o1 o2 o3 o4 o5 o6 m1 m2 m3 m4 m5 hcomp ⊢
  rw [← m1] at hh
  have HM := Lib.hid (And.intro m4 m5)
  have HO := Lib.hid (And.intro o4 (And.intro o5 o6))
  clear hkey hne hD1 m1 m2 m3 m4 m5 o4 o5 o6
  obtain ⟨ua, un, uc, rfl⟩ := hd.form
  rcases hK with rfl | rfl
  all_goals
    go_enter Tryz.func48, Tryz.ntmps48
    go_wp2_with (fail)
    refine hgk.mono ?_
    rintro e w1 ⟨rfl, hF1⟩
    have h1 := h.fr0 hF1
    have hcc := completing_c h1.scr.cm
    rw [← hcp] at hcc
    obtain ⟨c0, c1, c2, c3, c4, c5, c6, c7, c8, c9, f0, hlt⟩ := prC h1.pr
    clear hcp hgk
    go_wp2_with (fail)
    refine hcc.mono ?_
    rintro e w2 ⟨rfl, rfl⟩
    clear hcc
    go_wp2_with (fail)
    refine (hcomp _ h1).mono ?_
    rintro e w2 ⟨rfl, h2, hF2⟩
    clear hcomp
    have hT2 : Fr base TT [] w w2 := hF1.any.trans (h1.compTT hF2)
    obtain ⟨c0, c1, c2, c3, c4, c5, c6, c7, c8, c9, f0, hlt⟩ := prC h2.pr
    go_wp2_with (fail)
    have hS : (fun w' : World => w'.cell? ⟨I.p, 1, none⟩ = some (.pointer (some ⟨I.r, 0, none⟩)) ∧ w'.cell? ⟨I.p, 0, none⟩ = some (.pointer (some ⟨D1.b, 0, none⟩))) w2.drew := ⟨c1, c0⟩
    refine wp_region_plan [3, 7] [8] (fun w' : World => w'.cell? ⟨I.p, 1, none⟩ = some (.pointer (some ⟨I.r, 0, none⟩)) ∧ w'.cell? ⟨I.p, 0, none⟩ = some (.pointer (some ⟨D1.b, 0, none⟩))) (.pure 0 (.pure 1 (.pure 2 (.take 3 (.pure 4 (.pure 5 (.pure 6 (.take 7 (.go 8 .done))))))))) hmix (by kernel_rfl) ?_
    repeat (first | (refine plan_move rfl rfl rfl ?_; (try simp only [Act.put, zq1, zq2, zq3, zq4, zq5, zq6])) | (refine plan_pure (v := ?_) rfl rfl ?_ ?_; rotate_left; (intro w'; go_simp <;> with_reducible rfl); (try simp only [Act.put, zq1, zq2, zq3, zq4, zq5, zq6])) | (refine plan_take (v := ?_) rfl hS rfl ?_ ?_; rotate_left; (intro w' hSw; (try dsimp only at hSw); go_simp <;> with_reducible rfl); (try simp only [Act.put, zq1, zq2, zq3, zq4, zq5, zq6])))
    refine plan_go rfl (by kernel_rfl) rfl (fun K hK => ?_)
    go_simp; refine (breakLine_c h2.scr.rn.drew h2.scr.buf.drew hI.hpre hI.hpres hI.hc1 hI.hc2 o1 (by omega) o3 (by rw [HM.out.2]; omega)).mono ?_; rintro e w3 ⟨rfl, hR3, hB3, hF3⟩; refine hK _ _ ?_; clear hK K; (try simp only [Act.put, zq1, zq2, zq3, zq4, zq5, zq6])
    refine plan_done ?_
    have h3 := h2.drew.outUpd (h2.drew.scr.brk hR3 hB3 hF3) hF3 (by simp)
    have hT3 := (hT2.drew).trans (h2.drew.tt5 (hF3.mono (by simp) (by simp)))
    obtain ⟨c0, c1, c2, c3, c4, c5, c6, c7, c8, c9, f0, hlt⟩ := prC h3.pr
    go_wp2_with (fail)
    refine (text_c h3.scr.buf).mono ?_
    rintro e w4 ⟨rfl, j4, rfl⟩
    obtain ⟨X, hX⟩ : ∃ X, w3.heap.size = X := ⟨_, rfl⟩
    have hXB := (Blk.new' (w := w3) hX.symm #[.string D1.t] 106).drewN j4
    have hF5 : Fr 0 [] [] w3 ((w3.alloc (.cells #[.string D1.t] 106)).drewN j4) := ((Fr.refl 0 [] [] w3).alloc _).drewN j4
    have h5 := h3.fr0 hF5
    have hT5 := hT3.trans hF5.any
    obtain ⟨c0, c1, c2, c3, c4, c5, c6, c7, c8, c9, f0, hlt⟩ := prC h3.pr
    go_wp2_with (fail)
    refine (newBuffer_c _).mono ?_
    rintro e w6 ⟨b', L', rfl, hL', hb', hB6, hF6⟩
    have h6 := h5.fr0 hF6
    have hT6 := hT5.trans hF6.any
    have hbs : base ≤ X := by have := h3.bp; have := h3.lts; omega
    have hlts := h5.lts
    obtain ⟨h7, hF7⟩ := h6.newBuf (hB6.base (by simp; omega)) (by show L' ≠ D1.gh; have : D1.gh < _ := hlts.2.2.1; omega) (by show L' ≠ D1.gt; have : D1.gt < _ := hlts.2.2.2.1; omega) (fun g hg e => by have := hlts.2.2.2.2.2.2 g hg; omega)
    clear hL' hb' hlts
    have hT7 := hT6.trans (h6.tt hF7 (by simp) (by simp))
    have hX7 := (hF6.blk0 hXB).other (a := ⟨I.p, 0, none⟩) ((hF6.blk0 hXB).ne h6.pr (by decide)) (.pointer (some ⟨b', 0, none⟩))
    obtain ⟨c0, c1, c2, c3, c4, c5, c6, c7, c8, c9, f0, hlt⟩ := prC h6.pr
    obtain ⟨y0, -⟩ := hX7.c1
    have hXl := hX7.lt
    by_cases hz : D1.t = .empty
    · have hE1 : D1.t.toList.isEmpty = true := by rw [str_empty, hz]; rfl
      have hE2 : D1.t.toList = [] := by simpa using hE1
      have HZ := Lib.hid hz
      clear hz
      go_wp2_with (fail)
      refine (hKB _ _ h7 (stOk_mk hI prn_empty (by show ByteArray.empty.size ≤ 1000; decide) (Nat.zero_le _) HO.out.1 HO.out.2.1 HO.out.2.2)).mono ?_
      rintro e w9 ⟨rfl, ⟨D9, h9, hps9, hn9⟩, hF9⟩
      go_wp2
      go_ret2
      refine ⟨D9, _, rfl, h9, ?_, ?_, .inr ⟨X, D1.t, rfl, rfl, hF9.blk hX7 (.inr ⟨by simp, by decide⟩)⟩, hT7.trans hF9⟩
      · rw [hps9]
        congr 1
        unfold PS.enter
        rw [if_pos (show D1.ps.t = .empty from HZ.out)]
        rfl
      · rw [hn9]
        show D1.n + 3000 ≤ D.n + 4000
        have := HM.out.2
        omega
    · have hE := str_empty (a := D1.t)
      have hE3 : D1.t.size ≠ 0 := by
        intro e; apply hz; apply ByteArray.ext; apply Array.eq_empty_of_size_eq_zero; exact e
      have hE1 : D1.t.toList.isEmpty = false := by rw [hE]; simpa using hE3
      have hE2 : D1.t.toList ≠ [] := by intro e; rw [e] at hE1; simp at hE1
      have HZ := Lib.hid hz
      clear hz hE hE3
      go_wp2_with (fail)
      obtain ⟨c0, c1, c2, c3, c4, c5, c6, c7, c8, c9, f0, hlt⟩ := prC h7.pr
      have hS : (fun w' : World => w'.cell? ⟨I.p, 3, none⟩ = some (.pointer (some ⟨I.h, 0, none⟩)) ∧ w'.cell? ⟨X, 0, none⟩ = some (.string D1.t)) (w6.setCell ⟨I.p, 0, none⟩ (.pointer (some ⟨b', 0, none⟩))).drew := ⟨c3, y0⟩
      refine wp_region_plan [3, 7] [8] (fun w' : World => w'.cell? ⟨I.p, 3, none⟩ = some (.pointer (some ⟨I.h, 0, none⟩)) ∧ w'.cell? ⟨X, 0, none⟩ = some (.string D1.t)) (.pure 0 (.pure 1 (.pure 2 (.take 3 (.pure 4 (.pure 5 (.pure 6 (.take 7 (.go 8 .done))))))))) hmix (by kernel_rfl) ?_
      repeat (first | (refine plan_move rfl rfl rfl ?_; (try simp only [Act.put, zq1, zq2, zq3, zq4, zq5, zq6])) | (refine plan_pure (v := ?_) rfl rfl ?_ ?_; rotate_left; (intro w'; go_simp <;> with_reducible rfl); (try simp only [Act.put, zq1, zq2, zq3, zq4, zq5, zq6])) | (refine plan_take (v := ?_) rfl hS rfl ?_ ?_; rotate_left; (intro w' hSw; (try dsimp only at hSw); go_simp <;> with_reducible rfl); (try simp only [Act.put, zq1, zq2, zq3, zq4, zq5, zq6])))
      refine plan_go rfl (by kernel_rfl) rfl (fun K hK => ?_)
      go_simp; refine (hAdd_c h7.drew.hist D1.t (by show D1.hs.length ≤ 10000; omega)).mono ?_; rintro e w8 ⟨rfl, ⟨gh', gt', hg1, hg2, hH8⟩, hF8⟩; refine hK _ _ ?_; clear hK K; (try simp only [Act.put, zq1, zq2, zq3, zq4, zq5, zq6])
      refine plan_done ?_
      have h8 := h7.drew.histUpd hH8 (hF8.mono (by simp) (by simp)) hg1 (.inr hg2)
      have hT8 := (hT7.drew).trans (h7.drew.tt hF8 (by simp) (fun x hx => .inr (by simp only [List.mem_cons, List.not_mem_nil, or_false] at hx ⊢; rcases hx with h | h <;> simp [h])))
      obtain ⟨-, -, -, -, ⟨csh, hhB⟩, ⟨csg, hgB⟩, -⟩ := h7.blks
      have hX8 := hF8.blk hX7.drew (.inr ⟨by simp only [List.mem_cons, List.not_mem_nil, or_false]; rintro (e | e); exact absurd e (hX7.ne hhB (by decide)); exact absurd e (hX7.ne hgB (by decide)), by simp⟩)
      obtain ⟨c0, c1, c2, c3, c4, c5, c6, c7, c8, c9, f0, hlt⟩ := prC h8.pr
      go_wp2_with (fail)
      refine (hKB _ _ h8 (stOk_mk hI prn_empty (by show ByteArray.empty.size ≤ 1000; decide) (Nat.zero_le _) HO.out.1 HO.out.2.1 HO.out.2.2)).mono ?_
      rintro e w9 ⟨rfl, ⟨D9, h9, hps9, hn9⟩, hF9⟩
      go_wp2
      go_ret2
      refine ⟨D9, _, rfl, h9, ?_, ?_, .inr ⟨X, D1.t, rfl, rfl, hF9.blk hX8 (.inr ⟨by simp, by decide⟩)⟩, hT8.trans hF9⟩
      · rw [hps9]
        congr 1
        unfold PS.enter
        rw [if_neg (show ¬ D1.ps.t = .empty from HZ.out)]
        rfl
      · rw [hn9]
        show D1.n + 3000 ≤ D.n + 4000
        have := HM.out.2
        omega
end
end Go.Proofs.YtiepopbmbgfhkaaGreat

namespace Go.Proofs.YtiepopbmbgfhkaaGreat
open Go.RowKit
open List renaming setIfInBounds_toArray → zq1, set_cons_zero → zq2, set_cons_succ → zq3
open Int renaming toNat_natCast → zq4, toNat_sub → zq5, toNat_zero → zq6
set_option maxHeartbeats 2000000
set_option maxRecDepth 20000
set_option linter.unusedVariables false
set_option linter.unusedSimpArgs false

section
variable {base : Nat} {w : World} {I : Pid} {D : Dyn}
theorem StOk.line {D' : Dyn} (h : StOk I D) (e1 : D'.sel = D.sel) (e2 : D'.vs = D.vs) (e3 : D'.tmp = D.tmp) (ht : Prn D'.t) (hts : D'.t.size ≤ 1000) (hk : D'.k ≤ D'.t.size) : StOk I D' :=
  ⟨⟨h.ok.hpre, h.ok.hpres, h.ok.hc1, h.ok.hc2, ht, hts, hk, h.ok.hq, h.ok.hmost⟩, e3 ▸ h.tl, e3 ▸ h.tp, by rw [e1, e3]; exact h.sel, e2 ▸ h.v0, e2 ▸ h.v1⟩
theorem updS_ok {q : Cp} {sel vs : Int} {tmp : List Pk} (hol : q.offs.length ≤ 1000) (htl : tmp.length ≤ 1000) (hv0 : sel < tmp.length → 0 ≤ vs ∧ vs ≤ 1000) (hs : -2 ≤ sel) :
    ((updS q sel vs tmp).1 = -1 ∨ ∃ i : Nat, (updS q sel vs tmp).1 = i ∧ i < (updS q sel vs tmp).2.2.length) ∧ 0 ≤ (updS q sel vs tmp).2.1 ∧ (updS q sel vs tmp).2.1 ≤ 1000 ∧ ((updS q sel vs tmp).2.2 = tmp ∨ (updS q sel vs tmp).2.2 = q.offs) := by
  unfold updS
  by_cases h1 : (tmp.length : Int) ≤ sel
  · rw [if_pos h1]; exact ⟨.inl rfl, by show (0 : Int) ≤ 0; omega, by show (0 : Int) ≤ 1000; omega, .inr rfl⟩
  · rw [if_neg h1]
    by_cases h2 : sel < -1
    · rw [if_pos h2]
      refine ⟨?_, ?_, ?_, .inl rfl⟩
      · by_cases h0 : tmp.length = 0
        · left; show (tmp.length : Int) - 1 = -1; omega
        · right; exact ⟨tmp.length - 1, by show (tmp.length : Int) - 1 = _; omega, by show tmp.length - 1 < tmp.length; omega⟩
      · show (0 : Int) ≤ ((tmp.length - shown q tmp : Nat) : Int); omega
      · show ((tmp.length - shown q tmp : Nat) : Int) ≤ 1000; omega
    · rw [if_neg h2]
      have := hv0 (by omega)
      refine ⟨?_, this.1, this.2, .inl rfl⟩
      by_cases h3 : sel = -1
      · exact .inl h3
      · right; exact ⟨sel.toNat, by show sel = _; omega, by show sel.toNat < tmp.length; omega⟩
theorem stok_next (hI : IdOk I) (h : StOk I D) : StOk I (D.next I) := by
  have hm := hI.hq.most1
  have htl := h.tl
  have v0 := h.v0
  have v1 := h.v1
  have hb : -1 ≤ D.sel ∧ D.sel < 1000 := by rcases h.sel with e | ⟨i, e, hi⟩ <;> omega
  obtain ⟨q1, q2, q3, q4⟩ := updS_ok (q := I.q) (sel := D.sel + 1) (vs := if D.vs + I.q.most - 1 = D.sel then D.vs + 1 else D.vs) (tmp := D.tmp) (Nat.le_trans hI.hol (by omega)) htl (fun hlt => by split <;> omega) (by omega)
  refine ⟨h.ok, ?_, ?_, q1, q2, q3⟩
  · show (nextS I.q D.sel D.vs D.tmp).2.2.length ≤ 1000
    rcases q4 with e | e
    · unfold nextS; rw [e]; exact htl
    · unfold nextS; rw [e]; exact Nat.le_trans hI.hol (by omega)
  · show ∀ x ∈ (nextS I.q D.sel D.vs D.tmp).2.2, _
    rcases q4 with e | e
    · unfold nextS; rw [e]; exact h.tp
    · unfold nextS; rw [e]; exact hI.ho
theorem stok_prev (hI : IdOk I) (h : StOk I D) : StOk I (D.prev I) := by
  have hm := hI.hq.most1
  have htl := h.tl
  have v0 := h.v0
  have v1 := h.v1
  have hb : -1 ≤ D.sel ∧ D.sel < 1000 := by rcases h.sel with e | ⟨i, e, hi⟩ <;> omega
  obtain ⟨q1, q2, q3, q4⟩ := updS_ok (q := I.q) (sel := D.sel - 1) (vs := if D.vs = D.sel ∧ 0 < D.sel then D.vs - 1 else D.vs) (tmp := D.tmp) (Nat.le_trans hI.hol (by omega)) htl (fun hlt => by split <;> omega) (by omega)
  refine ⟨h.ok, ?_, ?_, q1, q2, q3⟩
  · show (prevS I.q D.sel D.vs D.tmp).2.2.length ≤ 1000
    rcases q4 with e | e
    · unfold prevS; rw [e]; exact htl
    · unfold prevS; rw [e]; exact Nat.le_trans hI.hol (by omega)
  · show ∀ x ∈ (prevS I.q D.sel D.vs D.tmp).2.2, _
    rcases q4 with e | e
    · unfold prevS; rw [e]; exact h.tp
    · unfold prevS; rw [e]; exact hI.ho
theorem stok_comp (hI : IdOk I) (hP : PsOk I D.ps) (key : Int) : StOk I (D.comp I key) ∧ (D.comp I key).t.size ≤ 600 := by
  have h := StOk.of hI hP
  have hts : D.t.size ≤ 600 := by have : D.t.size ≤ 500 := hP.hts; omega
  by_cases h1 : key = 37
  · unfold Dyn.comp; rw [if_pos h1]
    split
    · exact ⟨stok_next hI h, hts⟩
    · exact ⟨h, hts⟩
  by_cases h2 : key = 54
  · unfold Dyn.comp; rw [if_neg h1, if_pos h2]; exact ⟨stok_next hI h, hts⟩
  by_cases h3 : key = 36
  · unfold Dyn.comp; rw [if_neg h1, if_neg h2, if_pos h3]
    split
    · exact ⟨stok_prev hI h, hts⟩
    · exact ⟨h, hts⟩
  by_cases h4 : key = 51
  · unfold Dyn.comp; rw [if_neg h1, if_neg h2, if_neg h3, if_pos h4]; exact ⟨stok_prev hI h, hts⟩
  obtain ⟨o1, o2, o3, o4, o5, o6⟩ := comp_ok hI hP key ⟨h1, h2, h3, h4⟩
  exact ⟨stOk_mk hI o1 (by omega) o3 o4 o5 o6, o2⟩

/-- A key that does nothing by itself. -/
theorem feed_other {u : Value} {l : List UInt8} {key : Int} {bd : PS → PS} (h : St base w I D) (hI : IdOk I) (hP : PsOk I D.ps) (hd : DatB w u l) (hkey : keyOf l = key) (hK : key ∉ ([55, 10, 13, 3, 36, 16, 37, 14, 4, 86, 9] : List Int)) (hKB : KBnd base I key bd) :
    Calls Tryz.prog 48 #[.pointer (some ⟨I.p, 0, none⟩), u] w (FeedPost base I D (bd (D.ps.comp I.q I.down key)) false none w) := by
  obtain ⟨cp, hcp⟩ : ∃ cp, cp = (D.sel != -1) := ⟨_, rfl⟩
  have hgk := getKey_c hd.dat
  rw [hkey] at hgk
  simp only [List.mem_cons, List.not_mem_nil, or_false, not_or] at hK
  obtain ⟨k1, k2, k3, k4, k5, k6, k7, k8, k9, k10, k11⟩ := hK
  have hcomp := fun (w1 : World) (h1 : St base w1 I D) => comp_c h1 (StOk.of hI hP) cp hcp key k11
  obtain ⟨hst, hsz⟩ := stok_comp hI hP key
  obtain ⟨m1, m2, m3, m4, m5⟩ := comp_keep D I key
  have d1 := (int_ne k1).1
  have d2 := (int_ne k2).1
  have d3 := (int_ne k3).1
  have d4 := (int_ne k4).1
  have d5 := (int_ne k5).1
  have d6 := (int_ne k6).1
  have d7 := (int_ne k7).1
  have d8 := (int_ne k8).1
  have d9 := (int_ne k9).1
  have d10 := (int_ne k10).1
  rw [← ps_comp]
  obtain ⟨D1, hD1⟩ : ∃ D1, D.comp I key = D1 := ⟨_, rfl⟩
  rw [hD1] at hst hsz m5 hcomp ⊢
  have HM := Lib.hid m5
  clear hkey hD1 m1 m2 m3 m4 m5 k1 k2 k3 k4 k5 k6 k7 k8 k9 k10 k11
  obtain ⟨ua, un, uc, rfl⟩ := hd.form
  go_enter Tryz.func48, Tryz.ntmps48
  go_wp2_with (fail)
  refine hgk.mono ?_
  rintro e w1 ⟨rfl, hF1⟩
  have h1 := h.fr0 hF1
  have hcc := completing_c h1.scr.cm
  rw [← hcp] at hcc
  obtain ⟨c0, c1, c2, c3, c4, c5, c6, c7, c8, c9, f0, hlt⟩ := prC h1.pr
  clear hcp hgk
  go_wp2_with (fail)
  refine hcc.mono ?_
  rintro e w2 ⟨rfl, rfl⟩
  clear hcc
  go_wp2_with (fail)
  refine (hcomp _ h1).mono ?_
  rintro e w2 ⟨rfl, h2, hF2⟩
  clear hcomp
  have hT2 : Fr base TT [] w w2 := hF1.any.trans (h1.compTT hF2)
  obtain ⟨c0, c1, c2, c3, c4, c5, c6, c7, c8, c9, f0, hlt⟩ := prC h2.pr
  go_wp2_with (fail)
  refine (hKB _ _ h2 hst).mono ?_
  rintro e w9 ⟨rfl, ⟨D9, h9, hps9, hn9⟩, hF9⟩
  go_wp2
  go_ret2
  exact ⟨D9, _, rfl, h9, hps9, by rw [hn9, HM.out]; omega, .inl ⟨rfl, rfl⟩, hT2.trans hF9⟩

/-- ^D. -/
theorem feed_d {u : Value} {l : List UInt8} {bd : PS → PS} (h : St base w I D) (hI : IdOk I) (hP : PsOk I D.ps) (hd : DatB w u l) (hkey : keyOf l = 4) (hKB : (D.ps.comp I.q I.down 4).t ≠ .empty → KBnd base I 4 bd) :
    Calls Tryz.prog 48 #[.pointer (some ⟨I.p, 0, none⟩), u] w (FeedPost base I D (if (D.ps.comp I.q I.down 4).t = .empty then D.ps.comp I.q I.down 4 else bd (D.ps.comp I.q I.down 4)) (decide ((D.ps.comp I.q I.down 4).t = .empty)) none w) := by
  obtain ⟨cp, hcp⟩ : ∃ cp, cp = (D.sel != -1) := ⟨_, rfl⟩
  have hgk := getKey_c hd.dat
  rw [hkey] at hgk
  have hcomp := fun (w1 : World) (h1 : St base w1 I D) => comp_c h1 (StOk.of hI hP) cp hcp 4 (by omega)
  obtain ⟨hst, hsz⟩ := stok_comp hI hP 4
  obtain ⟨m1, m2, m3, m4, m5⟩ := comp_keep D I 4
  rw [← ps_comp] at hKB ⊢
  obtain ⟨D1, hD1⟩ : ∃ D1, D.comp I 4 = D1 := ⟨_, rfl⟩
  rw [hD1] at hst hsz m5 hcomp hKB ⊢
  have HM := Lib.hid m5
  clear hkey hD1 m1 m2 m3 m4 m5
  obtain ⟨ua, un, uc, rfl⟩ := hd.form
  by_cases hz : D1.t = .empty
  · have hE1 : D1.t.toList.isEmpty = true := by rw [str_empty, hz]; rfl
    have hE2 : D1.t.toList = [] := by simpa using hE1
    rw [if_pos (show D1.ps.t = .empty from hz)]
    have hdz : decide (D1.ps.t = .empty) = true := decide_eq_true hz
    rw [hdz]
    clear hz hdz hKB
    go_enter Tryz.func48, Tryz.ntmps48
    go_wp2_with (fail)
    refine hgk.mono ?_
    rintro e w1 ⟨rfl, hF1⟩
    have h1 := h.fr0 hF1
    have hcc := completing_c h1.scr.cm
    rw [← hcp] at hcc
    obtain ⟨c0, c1, c2, c3, c4, c5, c6, c7, c8, c9, f0, hlt⟩ := prC h1.pr
    clear hcp hgk
    go_wp2_with (fail)
    refine hcc.mono ?_
    rintro e w2 ⟨rfl, rfl⟩
    clear hcc
    go_wp2_with (fail)
    refine (hcomp _ h1).mono ?_
    rintro e w2 ⟨rfl, h2, hF2⟩
    clear hcomp
    have hT2 : Fr base TT [] w w2 := hF1.any.trans (h1.compTT hF2)
    obtain ⟨c0, c1, c2, c3, c4, c5, c6, c7, c8, c9, f0, hlt⟩ := prC h2.pr
    go_wp2_with (fail)
    refine (text_c h2.scr.buf).mono ?_
    rintro e w4 ⟨rfl, j4, rfl⟩
    go_wp2
    go_ret2
    exact ⟨D1, _, rfl, h2.drewN j4, rfl, by rw [HM.out]; omega, .inl ⟨rfl, rfl⟩, hT2.drewN j4⟩
  · have hE := str_empty (a := D1.t)
    have hE3 : D1.t.size ≠ 0 := by
      intro e; apply hz; apply ByteArray.ext; apply Array.eq_empty_of_size_eq_zero; exact e
    have hE1 : D1.t.toList.isEmpty = false := by rw [hE]; simpa using hE3
    have hE2 : D1.t.toList ≠ [] := by intro e; rw [e] at hE1; simp at hE1
    rw [if_neg (show ¬ D1.ps.t = .empty from hz)]
    have hdz : decide (D1.ps.t = .empty) = false := decide_eq_false hz
    rw [hdz]
    have hkb := hKB hz
    clear hz hE hE3 hdz hKB
    go_enter Tryz.func48, Tryz.ntmps48
    go_wp2_with (fail)
    refine hgk.mono ?_
    rintro e w1 ⟨rfl, hF1⟩
    have h1 := h.fr0 hF1
    have hcc := completing_c h1.scr.cm
    rw [← hcp] at hcc
    obtain ⟨c0, c1, c2, c3, c4, c5, c6, c7, c8, c9, f0, hlt⟩ := prC h1.pr
    clear hcp hgk
    go_wp2_with (fail)
    refine hcc.mono ?_
    rintro e w2 ⟨rfl, rfl⟩
    clear hcc
    go_wp2_with (fail)
    refine (hcomp _ h1).mono ?_
    rintro e w2 ⟨rfl, h2, hF2⟩
    clear hcomp
    have hT2 : Fr base TT [] w w2 := hF1.any.trans (h1.compTT hF2)
    obtain ⟨c0, c1, c2, c3, c4, c5, c6, c7, c8, c9, f0, hlt⟩ := prC h2.pr
    go_wp2_with (fail)
    refine (text_c h2.scr.buf).mono ?_
    rintro e w4 ⟨rfl, j4, rfl⟩
    have h4 := h2.drewN j4
    go_wp2_with (fail)
    refine (hkb _ _ h4 hst).mono ?_
    rintro e w9 ⟨rfl, ⟨D9, h9, hps9, hn9⟩, hF9⟩
    go_wp2
    go_ret2
    exact ⟨D9, _, rfl, h9, hps9, by rw [hn9, HM.out]; omega, .inl ⟨rfl, rfl⟩, (hT2.drewN j4).trans hF9⟩

/-- A text. -/
theorem feed_text {u : Value} {l : List UInt8} {bd : PS → PS} (h : St base w I D) (hI : IdOk I) (hP : PsOk I D.ps) (hd : DatB w u l) (hkey : keyOf l = 86) (hl : l.length ≤ 100) (hp : Prn ⟨l.toArray⟩) (hKB : KBnd base I 86 bd) :
    Calls Tryz.prog 48 #[.pointer (some ⟨I.p, 0, none⟩), u] w (FeedPost base I D (bd ((D.ps.comp I.q I.down 86).typed ⟨l.toArray⟩)) false none w) := by
  obtain ⟨cp, hcp⟩ : ∃ cp, cp = (D.sel != -1) := ⟨_, rfl⟩
  have hgk := getKey_c hd.dat
  rw [hkey] at hgk
  have hcomp := fun (w1 : World) (h1 : St base w1 I D) => comp_c h1 (StOk.of hI hP) cp hcp 86 (by omega)
  obtain ⟨hst, hsz⟩ := stok_comp hI hP 86
  obtain ⟨m1, m2, m3, m4, m5⟩ := comp_keep D I 86
  rw [← ps_comp]
  obtain ⟨D1, hD1⟩ : ∃ D1, D.comp I 86 = D1 := ⟨_, rfl⟩
  rw [hD1] at hst hsz m5 hcomp ⊢
  have HM := Lib.hid m5
  clear hkey hD1 m1 m2 m3 m4 m5
  obtain ⟨v, hv⟩ : ∃ v : ByteArray, v = ⟨l.toArray⟩ := ⟨_, rfl⟩
  rw [← hv] at hp ⊢
  have hvs : v.size ≤ 100 := by rw [hv]; show l.toArray.size ≤ 100; simpa using hl
  have HV := Lib.hid hv
  clear hv
  obtain ⟨ua, un, uc, rfl⟩ := hd.form
  go_enter Tryz.func48, Tryz.ntmps48
  go_wp2_with (fail)
  refine hgk.mono ?_
  rintro e w1 ⟨rfl, hF1⟩
  have h1 := h.fr0 hF1
  have hcc := completing_c h1.scr.cm
  rw [← hcp] at hcc
  obtain ⟨c0, c1, c2, c3, c4, c5, c6, c7, c8, c9, f0, hlt⟩ := prC h1.pr
  clear hcp hgk
  go_wp2_with (fail)
  refine hcc.mono ?_
  rintro e w2 ⟨rfl, rfl⟩
  clear hcc
  go_wp2_with (fail)
  refine (hcomp _ h1).mono ?_
  rintro e w2 ⟨rfl, h2, hF2⟩
  clear hcomp
  have hT2 : Fr base TT [] w w2 := hF1.any.trans (h1.compTT hF2)
  obtain ⟨c0, c1, c2, c3, c4, c5, c6, c7, c8, c9, f0, hlt⟩ := prC h2.pr
  go_wp2_with (fail)
  refine (ascii_c h2.pr).mono ?_
  rintro e w3 ⟨rfl, rfl⟩
  have hd2 := (hd.fr0 hF1).fr hF2 (by simp) (fun x hx => by
    obtain ⟨⟨csb, hb⟩, ⟨csL, hL⟩, ⟨csc, hc⟩, -⟩ := h1.blks
    simp only [List.mem_cons, List.not_mem_nil, or_false] at hx
    rcases hx with rfl | rfl | rfl
    · exact ⟨_, _, hb, by decide⟩
    · exact ⟨_, _, hL, by decide⟩
    · exact ⟨_, _, hc, by decide⟩)
  go_wp2_with (fail)
  have hS : (fun w' : World => w'.cell? ⟨I.p, 0, none⟩ = some (.pointer (some ⟨D1.b, 0, none⟩)) ∧ Dat w' (.slice ua un uc) l) w2.drew := ⟨c0, hd2.dat.drew⟩
  refine wp_region_plan [3, 5] [6] (fun w' : World => w'.cell? ⟨I.p, 0, none⟩ = some (.pointer (some ⟨D1.b, 0, none⟩)) ∧ Dat w' (.slice ua un uc) l) (.pure 0 (.pure 1 (.pure 2 (.take 3 (.pure 4 (.take 5 (.go 6 .done))))))) hmix (by kernel_rfl) ?_
  repeat (first | (refine plan_move rfl rfl rfl ?_; (try simp only [Act.put, zq1, zq2, zq3, zq4, zq5, zq6])) | (refine plan_take rfl hS rfl (fun w' hSw => ex_stringO HV rfl rfl hSw.2) ?_; (try simp only [Act.put, zq1, zq2, zq3, zq4, zq5, zq6])) | (refine plan_pure (v := ?_) rfl rfl ?_ ?_; rotate_left; (intro w'; go_simp <;> with_reducible rfl); (try simp only [Act.put, zq1, zq2, zq3, zq4, zq5, zq6])) | (refine plan_take (v := ?_) rfl hS rfl ?_ ?_; rotate_left; (intro w' hSw; (try dsimp only at hSw); go_simp <;> with_reducible rfl); (try simp only [Act.put, zq1, zq2, zq3, zq4, zq5, zq6])))
  refine plan_go rfl (by kernel_rfl) rfl (fun K hK => ?_)
  go_simp; refine (insert_c h2.drew.scr.buf v hst.ok.ht.asc hp.asc (by omega) (by omega) hst.ok.hk).mono ?_; rintro e w6 ⟨rfl, hB6, hF6⟩; refine hK _ _ ?_; clear hK K; (try simp only [Act.put, zq1, zq2, zq3, zq4, zq5, zq6])
  refine plan_done ?_
  have h6 := h2.drew.bufUpd hB6 hF6
  have hT6 := (hT2.drew).trans (h2.drew.tt hF6 (by simp) (fun x hx => .inr (by simp only [List.mem_cons, List.not_mem_nil, or_false] at hx ⊢; rcases hx with h | h <;> simp [h])))
  go_wp2_with (fail)
  have hsz6 := size_put (v := v) hst.ok.hk
  refine (hKB _ _ h6 (hst.line rfl rfl rfl (prn_put hst.ok.ht hp _) (by show (putT _ _ _).size ≤ 1000; rw [hsz6]; omega) (by show _ ≤ (putT _ _ _).size; rw [hsz6]; have := hst.ok.hk; show D1.k + v.size ≤ _; omega))).mono ?_
  rintro e w9 ⟨rfl, ⟨D9, h9, hps9, hn9⟩, hF9⟩
  go_wp2
  go_ret2
  exact ⟨D9, _, rfl, h9, hps9, by rw [hn9]; show D1.n ≤ D.n + 4000; rw [HM.out]; omega, .inl ⟨rfl, rfl⟩, hT6.trans hF9⟩
end
end Go.Proofs.YtiepopbmbgfhkaaGreat
