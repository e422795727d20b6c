/-
  feed: up and down.
-/
import Derived.Test.YtiepopbmbgfhkaaGreatB22
namespace Go.Proofs.YtiepopbmbgfhkaaGreat
open Go.RowKit
set_option maxHeartbeats 2000000
set_option maxRecDepth 20000
set_option linter.unusedVariables false
set_option linter.unusedSimpArgs false

section
variable {base : Nat} {w : World} {I : Pid} {D : Dyn}
theorem StOk.line {D' : Dyn} (h : StOk I D) (e1 : D'.sel = D.sel) (e2 : D'.vs = D.vs) (e3 : D'.tmp = D.tmp) (ht : Prn D'.t) (hts : D'.t.size ≤ 1000) (hk : D'.k ≤ D'.t.size) : StOk I D' :=
  ⟨⟨h.ok.hpre, h.ok.hpres, h.ok.hc1, h.ok.hc2, ht, hts, hk, h.ok.hq, h.ok.hmost⟩, e3 ▸ h.tl, e3 ▸ h.tp, by rw [e1, e3]; exact h.sel, e2 ▸ h.v0, e2 ▸ h.v1⟩
theorem updS_ok {q : Cp} {sel vs : Int} {tmp : List Pk} (hol : q.offs.length ≤ 1000) (htl : tmp.length ≤ 1000) (hv0 : sel < tmp.length → 0 ≤ vs ∧ vs ≤ 1000) (hs : -2 ≤ sel) :
    ((updS q sel vs tmp).1 = -1 ∨ ∃ i : Nat, (updS q sel vs tmp).1 = i ∧ i < (updS q sel vs tmp).2.2.length) ∧ 0 ≤ (updS q sel vs tmp).2.1 ∧ (updS q sel vs tmp).2.1 ≤ 1000 ∧ ((updS q sel vs tmp).2.2 = tmp ∨ (updS q sel vs tmp).2.2 = q.offs) := by
  unfold updS
  by_cases h1 : (tmp.length : Int) ≤ sel
  · rw [if_pos h1]; exact ⟨.inl rfl, by show (0 : Int) ≤ 0; omega, by show (0 : Int) ≤ 1000; omega, .inr rfl⟩
  · rw [if_neg h1]
    by_cases h2 : sel < -1
    · rw [if_pos h2]
      refine ⟨?_, ?_, ?_, .inl rfl⟩
      · by_cases h0 : tmp.length = 0
        · left; show (tmp.length : Int) - 1 = -1; omega
        · right; exact ⟨tmp.length - 1, by show (tmp.length : Int) - 1 = _; omega, by show tmp.length - 1 < tmp.length; omega⟩
      · show (0 : Int) ≤ ((tmp.length - shown q tmp : Nat) : Int); omega
      · show ((tmp.length - shown q tmp : Nat) : Int) ≤ 1000; omega
    · rw [if_neg h2]
      have := hv0 (by omega)
      refine ⟨?_, this.1, this.2, .inl rfl⟩
      by_cases h3 : sel = -1
      · exact .inl h3
      · right; exact ⟨sel.toNat, by show sel = _; omega, by show sel.toNat < tmp.length; omega⟩
theorem stok_next (hI : IdOk I) (h : StOk I D) : StOk I (D.next I) := by
  have hm := hI.hq.most1
  have htl := h.tl
  have v0 := h.v0
  have v1 := h.v1
  have hb : -1 ≤ D.sel ∧ D.sel < 1000 := by rcases h.sel with e | ⟨i, e, hi⟩ <;> omega
  obtain ⟨q1, q2, q3, q4⟩ := updS_ok (q := I.q) (sel := D.sel + 1) (vs := if D.vs + I.q.most - 1 = D.sel then D.vs + 1 else D.vs) (tmp := D.tmp) (Nat.le_trans hI.hol (by omega)) htl (fun hlt => by split <;> omega) (by omega)
  refine ⟨h.ok, ?_, ?_, q1, q2, q3⟩
  · show (nextS I.q D.sel D.vs D.tmp).2.2.length ≤ 1000
    rcases q4 with e | e
    · unfold nextS; rw [e]; exact htl
    · unfold nextS; rw [e]; exact Nat.le_trans hI.hol (by omega)
  · show ∀ x ∈ (nextS I.q D.sel D.vs D.tmp).2.2, _
    rcases q4 with e | e
    · unfold nextS; rw [e]; exact h.tp
    · unfold nextS; rw [e]; exact hI.ho
theorem stok_prev (hI : IdOk I) (h : StOk I D) : StOk I (D.prev I) := by
  have hm := hI.hq.most1
  have htl := h.tl
  have v0 := h.v0
  have v1 := h.v1
  have hb : -1 ≤ D.sel ∧ D.sel < 1000 := by rcases h.sel with e | ⟨i, e, hi⟩ <;> omega
  obtain ⟨q1, q2, q3, q4⟩ := updS_ok (q := I.q) (sel := D.sel - 1) (vs := if D.vs = D.sel ∧ 0 < D.sel then D.vs - 1 else D.vs) (tmp := D.tmp) (Nat.le_trans hI.hol (by omega)) htl (fun hlt => by split <;> omega) (by omega)
  refine ⟨h.ok, ?_, ?_, q1, q2, q3⟩
  · show (prevS I.q D.sel D.vs D.tmp).2.2.length ≤ 1000
    rcases q4 with e | e
    · unfold prevS; rw [e]; exact htl
    · unfold prevS; rw [e]; exact Nat.le_trans hI.hol (by omega)
  · show ∀ x ∈ (prevS I.q D.sel D.vs D.tmp).2.2, _
    rcases q4 with e | e
    · unfold prevS; rw [e]; exact h.tp
    · unfold prevS; rw [e]; exact hI.ho
theorem stok_comp (hI : IdOk I) (hP : PsOk I D.ps) (key : Int) : StOk I (D.comp I key) ∧ (D.comp I key).t.size ≤ 600 := by
  have h := StOk.of hI hP
  have hts : D.t.size ≤ 600 := by have : D.t.size ≤ 500 := hP.hts; omega
  by_cases h1 : key = 37
  · unfold Dyn.comp; rw [if_pos h1]
    split
    · exact ⟨stok_next hI h, hts⟩
    · exact ⟨h, hts⟩
  by_cases h2 : key = 54
  · unfold Dyn.comp; rw [if_neg h1, if_pos h2]; exact ⟨stok_next hI h, hts⟩
  by_cases h3 : key = 36
  · unfold Dyn.comp; rw [if_neg h1, if_neg h2, if_pos h3]
    split
    · exact ⟨stok_prev hI h, hts⟩
    · exact ⟨h, hts⟩
  by_cases h4 : key = 51
  · unfold Dyn.comp; rw [if_neg h1, if_neg h2, if_neg h3, if_pos h4]; exact ⟨stok_prev hI h, hts⟩
  obtain ⟨o1, o2, o3, o4, o5, o6⟩ := comp_ok hI hP key ⟨h1, h2, h3, h4⟩
  exact ⟨stOk_mk hI o1 (by omega) o3 o4 o5 o6, o2⟩

/-- A key that does nothing by itself. -/
theorem feed_other {u : Value} {l : List UInt8} {key : Int} {bd : PS → PS} (h : St base w I D) (hI : IdOk I) (hP : PsOk I D.ps) (hd : DatB w u l) (hkey : keyOf l = key) (hK : key ∉ ([55, 10, 13, 3, 36, 16, 37, 14, 4, 86, 9] : List Int)) (hKB : KBnd base I key bd) :
    Calls Tryz.prog 48 #[.pointer (some ⟨I.p, 0, none⟩), u] w (FeedPost base I D (bd (D.ps.comp I.q I.down key)) false none w) := by
  obtain ⟨cp, hcp⟩ : ∃ cp, cp = (D.sel != -1) := ⟨_, rfl⟩
  have hgk := getKey_c hd.dat
  rw [hkey] at hgk
  simp only [List.mem_cons, List.not_mem_nil, or_false, not_or] at hK
  obtain ⟨k1, k2, k3, k4, k5, k6, k7, k8, k9, k10, k11⟩ := hK
  have hcomp := fun (w1 : World) (h1 : St base w1 I D) => comp_c h1 (StOk.of hI hP) cp hcp key k11
  obtain ⟨hst, hsz⟩ := stok_comp hI hP key
  obtain ⟨m1, m2, m3, m4, m5⟩ := comp_keep D I key
  have d1 := (int_ne k1).1
  have d2 := (int_ne k2).1
  have d3 := (int_ne k3).1
  have d4 := (int_ne k4).1
  have d5 := (int_ne k5).1
  have d6 := (int_ne k6).1
  have d7 := (int_ne k7).1
  have d8 := (int_ne k8).1
  have d9 := (int_ne k9).1
  have d10 := (int_ne k10).1
  rw [← ps_comp]
  obtain ⟨D1, hD1⟩ : ∃ D1, D.comp I key = D1 := ⟨_, rfl⟩
  rw [hD1] at hst hsz m5 hcomp ⊢
  have HM := Lib.hid m5
  clear hkey hD1 m1 m2 m3 m4 m5 k1 k2 k3 k4 k5 k6 k7 k8 k9 k10 k11
  obtain ⟨ua, un, uc, rfl⟩ := hd.form
  go_enter Tryz.func48, Tryz.ntmps48
  go_wp2_with (fail)
  refine hgk.mono ?_
  rintro e w1 ⟨rfl, hF1⟩
  have h1 := h.fr0 hF1
  have hcc := completing_c h1.scr.cm
  rw [← hcp] at hcc
  obtain ⟨c0, c1, c2, c3, c4, c5, c6, c7, c8, c9, f0, hlt⟩ := prC h1.pr
  clear hcp hgk
  go_wp2_with (fail)
  refine hcc.mono ?_
  rintro e w2 ⟨rfl, rfl⟩
  clear hcc
  go_wp2_with (fail)
  refine (hcomp _ h1).mono ?_
  rintro e w2 ⟨rfl, h2, hF2⟩
  clear hcomp
  have hT2 : Fr base TT [] w w2 := hF1.any.trans (h1.compTT hF2)
  obtain ⟨c0, c1, c2, c3, c4, c5, c6, c7, c8, c9, f0, hlt⟩ := prC h2.pr
  go_wp2_with (fail)
  refine (hKB _ _ h2 hst).mono ?_
  rintro e w9 ⟨rfl, ⟨D9, h9, hps9, hn9⟩, hF9⟩
  go_wp2
  go_ret2
  exact ⟨D9, _, rfl, h9, hps9, by rw [hn9, HM.out]; omega, .inl ⟨rfl, rfl⟩, hT2.trans hF9⟩

/-- ^D. -/
theorem feed_d {u : Value} {l : List UInt8} {bd : PS → PS} (h : St base w I D) (hI : IdOk I) (hP : PsOk I D.ps) (hd : DatB w u l) (hkey : keyOf l = 4) (hKB : (D.ps.comp I.q I.down 4).t ≠ .empty → KBnd base I 4 bd) :
    Calls Tryz.prog 48 #[.pointer (some ⟨I.p, 0, none⟩), u] w (FeedPost base I D (if (D.ps.comp I.q I.down 4).t = .empty then D.ps.comp I.q I.down 4 else bd (D.ps.comp I.q I.down 4)) (decide ((D.ps.comp I.q I.down 4).t = .empty)) none w) := by
  obtain ⟨cp, hcp⟩ : ∃ cp, cp = (D.sel != -1) := ⟨_, rfl⟩
  have hgk := getKey_c hd.dat
  rw [hkey] at hgk
  have hcomp := fun (w1 : World) (h1 : St base w1 I D) => comp_c h1 (StOk.of hI hP) cp hcp 4 (by omega)
  obtain ⟨hst, hsz⟩ := stok_comp hI hP 4
  obtain ⟨m1, m2, m3, m4, m5⟩ := comp_keep D I 4
  rw [← ps_comp] at hKB ⊢
  obtain ⟨D1, hD1⟩ : ∃ D1, D.comp I 4 = D1 := ⟨_, rfl⟩
  rw [hD1] at hst hsz m5 hcomp hKB ⊢
  have HM := Lib.hid m5
  clear hkey hD1 m1 m2 m3 m4 m5
  obtain ⟨ua, un, uc, rfl⟩ := hd.form
  by_cases hz : D1.t = .empty
  · have hE1 : D1.t.toList.isEmpty = true := by rw [str_empty, hz]; rfl
    have hE2 : D1.t.toList = [] := by simpa using hE1
    rw [if_pos (show D1.ps.t = .empty from hz)]
    have hdz : decide (D1.ps.t = .empty) = true := decide_eq_true hz
    rw [hdz]
    clear hz hdz hKB
    go_enter Tryz.func48, Tryz.ntmps48
    go_wp2_with (fail)
    refine hgk.mono ?_
    rintro e w1 ⟨rfl, hF1⟩
    have h1 := h.fr0 hF1
    have hcc := completing_c h1.scr.cm
    rw [← hcp] at hcc
    obtain ⟨c0, c1, c2, c3, c4, c5, c6, c7, c8, c9, f0, hlt⟩ := prC h1.pr
    clear hcp hgk
    go_wp2_with (fail)
    refine hcc.mono ?_
    rintro e w2 ⟨rfl, rfl⟩
    clear hcc
    go_wp2_with (fail)
    refine (hcomp _ h1).mono ?_
    rintro e w2 ⟨rfl, h2, hF2⟩
    clear hcomp
    have hT2 : Fr base TT [] w w2 := hF1.any.trans (h1.compTT hF2)
    obtain ⟨c0, c1, c2, c3, c4, c5, c6, c7, c8, c9, f0, hlt⟩ := prC h2.pr
    go_wp2_with (fail)
    refine (text_c h2.scr.buf).mono ?_
    rintro e w4 ⟨rfl, j4, rfl⟩
    go_wp2
    go_ret2
    exact ⟨D1, _, rfl, h2.drewN j4, rfl, by rw [HM.out]; omega, .inl ⟨rfl, rfl⟩, hT2.drewN j4⟩
  · have hE := str_empty (a := D1.t)
    have hE3 : D1.t.size ≠ 0 := by
      intro e; apply hz; apply ByteArray.ext; apply Array.eq_empty_of_size_eq_zero; exact e
    have hE1 : D1.t.toList.isEmpty = false := by rw [hE]; simpa using hE3
    have hE2 : D1.t.toList ≠ [] := by intro e; rw [e] at hE1; simp at hE1
    rw [if_neg (show ¬ D1.ps.t = .empty from hz)]
    have hdz : decide (D1.ps.t = .empty) = false := decide_eq_false hz
    rw [hdz]
    have hkb := hKB hz
    clear hz hE hE3 hdz hKB
    go_enter Tryz.func48, Tryz.ntmps48
    go_wp2_with (fail)
    refine hgk.mono ?_
    rintro e w1 ⟨rfl, hF1⟩
    have h1 := h.fr0 hF1
    have hcc := completing_c h1.scr.cm
    rw [← hcp] at hcc
    obtain ⟨c0, c1, c2, c3, c4, c5, c6, c7, c8, c9, f0, hlt⟩ := prC h1.pr
    clear hcp hgk
    go_wp2_with (fail)
    refine hcc.mono ?_
    rintro e w2 ⟨rfl, rfl⟩
    clear hcc
    go_wp2_with (fail)
    refine (hcomp _ h1).mono ?_
    rintro e w2 ⟨rfl, h2, hF2⟩
    clear hcomp
    have hT2 : Fr base TT [] w w2 := hF1.any.trans (h1.compTT hF2)
    obtain ⟨c0, c1, c2, c3, c4, c5, c6, c7, c8, c9, f0, hlt⟩ := prC h2.pr
    go_wp2_with (fail)
    refine (text_c h2.scr.buf).mono ?_
    rintro e w4 ⟨rfl, j4, rfl⟩
    have h4 := h2.drewN j4
    go_wp2_with (fail)
    refine (hkb _ _ h4 hst).mono ?_
    rintro e w9 ⟨rfl, ⟨D9, h9, hps9, hn9⟩, hF9⟩
    go_wp2
    go_ret2
    exact ⟨D9, _, rfl, h9, hps9, by rw [hn9, HM.out]; omega, .inl ⟨rfl, rfl⟩, (hT2.drewN j4).trans hF9⟩

/-- A text. -/
theorem feed_text {u : Value} {l : List UInt8} {bd : PS → PS} (h : St base w I D) (hI : IdOk I) (hP : PsOk I D.ps) (hd : DatB w u l) (hkey : keyOf l = 86) (hl : l.length ≤ 100) (hp : Prn ⟨l.toArray⟩) (hKB : KBnd base I 86 bd) :
    Calls Tryz.prog 48 #[.pointer (some ⟨I.p, 0, none⟩), u] w (FeedPost base I D (bd ((D.ps.comp I.q I.down 86).typed ⟨l.toArray⟩)) false none w) := by
  obtain ⟨cp, hcp⟩ : ∃ cp, cp = (D.sel != -1) := ⟨_, rfl⟩
  have hgk := getKey_c hd.dat
  rw [hkey] at hgk
  have hcomp := fun (w1 : World) (h1 : St base w1 I D) => comp_c h1 (StOk.of hI hP) cp hcp 86 (by omega)
  obtain ⟨hst, hsz⟩ := stok_comp hI hP 86
  obtain ⟨m1, m2, m3, m4, m5⟩ := comp_keep D I 86
  rw [← ps_comp]
  obtain ⟨D1, hD1⟩ : ∃ D1, D.comp I 86 = D1 := ⟨_, rfl⟩
  rw [hD1] at hst hsz m5 hcomp ⊢
  have HM := Lib.hid m5
  clear hkey hD1 m1 m2 m3 m4 m5
  obtain ⟨v, hv⟩ : ∃ v : ByteArray, v = ⟨l.toArray⟩ := ⟨_, rfl⟩
  rw [← hv] at hp ⊢
  have hvs : v.size ≤ 100 := by rw [hv]; show l.toArray.size ≤ 100; simpa using hl
  have HV := Lib.hid hv
  clear hv
  obtain ⟨ua, un, uc, rfl⟩ := hd.form
  go_enter Tryz.func48, Tryz.ntmps48
  go_wp2_with (fail)
  refine hgk.mono ?_
  rintro e w1 ⟨rfl, hF1⟩
  have h1 := h.fr0 hF1
  have hcc := completing_c h1.scr.cm
  rw [← hcp] at hcc
  obtain ⟨c0, c1, c2, c3, c4, c5, c6, c7, c8, c9, f0, hlt⟩ := prC h1.pr
  clear hcp hgk
  go_wp2_with (fail)
  refine hcc.mono ?_
  rintro e w2 ⟨rfl, rfl⟩
  clear hcc
  go_wp2_with (fail)
  refine (hcomp _ h1).mono ?_
  rintro e w2 ⟨rfl, h2, hF2⟩
  clear hcomp
  have hT2 : Fr base TT [] w w2 := hF1.any.trans (h1.compTT hF2)
  obtain ⟨c0, c1, c2, c3, c4, c5, c6, c7, c8, c9, f0, hlt⟩ := prC h2.pr
  go_wp2_with (fail)
  refine (ascii_c h2.pr).mono ?_
  rintro e w3 ⟨rfl, rfl⟩
  have hd2 := (hd.fr0 hF1).fr hF2 (by simp) (fun x hx => by
    obtain ⟨⟨csb, hb⟩, ⟨csL, hL⟩, ⟨csc, hc⟩, -⟩ := h1.blks
    simp only [List.mem_cons, List.not_mem_nil, or_false] at hx
    rcases hx with rfl | rfl | rfl
    · exact ⟨_, _, hb, by decide⟩
    · exact ⟨_, _, hL, by decide⟩
    · exact ⟨_, _, hc, by decide⟩)
  go_wp2_with (fail)
  have hS : (fun w' : World => w'.cell? ⟨I.p, 0, none⟩ = some (.pointer (some ⟨D1.b, 0, none⟩)) ∧ Dat w' (.slice ua un uc) l) w2.drew := ⟨c0, hd2.dat.drew⟩
  refine wp_region_plan [3, 5] [6] (fun w' : World => w'.cell? ⟨I.p, 0, none⟩ = some (.pointer (some ⟨D1.b, 0, none⟩)) ∧ Dat w' (.slice ua un uc) l) (.pure 0 (.pure 1 (.pure 2 (.take 3 (.pure 4 (.take 5 (.go 6 .done))))))) hmix (by kernel_rfl) ?_
  refine plan_move rfl rfl rfl ?_; (try simp only [Act.put, List.setIfInBounds_toArray, List.set_cons_zero, List.set_cons_succ, Int.toNat_natCast, Int.toNat_sub, Int.toNat_zero])
  first | (refine plan_take rfl hS rfl (fun w' hSw => ex_stringO HV rfl rfl hSw.2) ?_; (try simp only [Act.put, List.setIfInBounds_toArray, List.set_cons_zero, List.set_cons_succ, Int.toNat_natCast, Int.toNat_sub, Int.toNat_zero])) | (refine plan_pure (v := ?_) rfl rfl ?_ ?_; rotate_left; (intro w'; go_simp <;> with_reducible rfl); (try simp only [Act.put, List.setIfInBounds_toArray, List.set_cons_zero, List.set_cons_succ, Int.toNat_natCast, Int.toNat_sub, Int.toNat_zero]))
  first | (refine plan_take rfl hS rfl (fun w' hSw => ex_stringO HV rfl rfl hSw.2) ?_; (try simp only [Act.put, List.setIfInBounds_toArray, List.set_cons_zero, List.set_cons_succ, Int.toNat_natCast, Int.toNat_sub, Int.toNat_zero])) | (refine plan_pure (v := ?_) rfl rfl ?_ ?_; rotate_left; (intro w'; go_simp <;> with_reducible rfl); (try simp only [Act.put, List.setIfInBounds_toArray, List.set_cons_zero, List.set_cons_succ, Int.toNat_natCast, Int.toNat_sub, Int.toNat_zero]))
  first | (refine plan_take rfl hS rfl (fun w' hSw => ex_stringO HV rfl rfl hSw.2) ?_; (try simp only [Act.put, List.setIfInBounds_toArray, List.set_cons_zero, List.set_cons_succ, Int.toNat_natCast, Int.toNat_sub, Int.toNat_zero])) | (refine plan_take (v := ?_) rfl hS rfl ?_ ?_; rotate_left; (intro w' hSw; (try dsimp only at hSw); go_simp <;> with_reducible rfl); (try simp only [Act.put, List.setIfInBounds_toArray, List.set_cons_zero, List.set_cons_succ, Int.toNat_natCast, Int.toNat_sub, Int.toNat_zero]))
  refine plan_move rfl rfl rfl ?_; (try simp only [Act.put, List.setIfInBounds_toArray, List.set_cons_zero, List.set_cons_succ, Int.toNat_natCast, Int.toNat_sub, Int.toNat_zero])
  first | (refine plan_take rfl hS rfl (fun w' hSw => ex_stringO HV rfl rfl hSw.2) ?_; (try simp only [Act.put, List.setIfInBounds_toArray, List.set_cons_zero, List.set_cons_succ, Int.toNat_natCast, Int.toNat_sub, Int.toNat_zero])) | (refine plan_take (v := ?_) rfl hS rfl ?_ ?_; rotate_left; (intro w' hSw; (try dsimp only at hSw); go_simp <;> with_reducible rfl); (try simp only [Act.put, List.setIfInBounds_toArray, List.set_cons_zero, List.set_cons_succ, Int.toNat_natCast, Int.toNat_sub, Int.toNat_zero]))
  refine plan_go rfl (by kernel_rfl) rfl (fun K hK => ?_)
  go_simp; refine (insert_c h2.drew.scr.buf v hst.ok.ht.asc hp.asc (by omega) (by omega) hst.ok.hk).mono ?_; rintro e w6 ⟨rfl, hB6, hF6⟩; refine hK _ _ ?_; clear hK K; (try simp only [Act.put, List.setIfInBounds_toArray, List.set_cons_zero, List.set_cons_succ, Int.toNat_natCast, Int.toNat_sub, Int.toNat_zero])
  refine plan_done ?_
  have h6 := h2.drew.bufUpd hB6 hF6
  have hT6 := (hT2.drew).trans (h2.drew.tt hF6 (by simp) (fun x hx => .inr (by simp only [List.mem_cons, List.not_mem_nil, or_false] at hx ⊢; rcases hx with h | h <;> simp [h])))
  go_wp2_with (fail)
  have hsz6 := size_put (v := v) hst.ok.hk
  refine (hKB _ _ h6 (hst.line rfl rfl rfl (prn_put hst.ok.ht hp _) (by show (putT _ _ _).size ≤ 1000; rw [hsz6]; omega) (by show _ ≤ (putT _ _ _).size; rw [hsz6]; have := hst.ok.hk; show D1.k + v.size ≤ _; omega))).mono ?_
  rintro e w9 ⟨rfl, ⟨D9, h9, hps9, hn9⟩, hF9⟩
  go_wp2
  go_ret2
  exact ⟨D9, _, rfl, h9, hps9, by rw [hn9]; show D1.n ≤ D.n + 4000; rw [HM.out]; omega, .inl ⟨rfl, rfl⟩, hT6.trans hF9⟩
end
end Go.Proofs.YtiepopbmbgfhkaaGreat
