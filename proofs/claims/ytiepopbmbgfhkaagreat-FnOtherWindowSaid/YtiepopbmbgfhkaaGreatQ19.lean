/-
  feed: up, down, ^C.
-/
import Derived.Test.YtiepopbmbgfhkaaGreatQ18
namespace Go.Proofs.YtiepopbmbgfhkaaGreat
open Go.RowKit
open List renaming setIfInBounds_toArray → zq1, set_cons_zero → zq2, set_cons_succ → zq3
open Int renaming toNat_natCast → zq4, toNat_sub → zq5, toNat_zero → zq6
set_option maxHeartbeats 2000000
set_option maxRecDepth 20000
set_option linter.unusedVariables false
set_option linter.unusedSimpArgs false

section
variable {base : Nat} {w : World} {I : Pid} {D : Dyn}
theorem older_eq {D1 D' : Dyn} {s : Nat} {x : ByteArray} (HH : Hid (D1.hsel = s + 1 ∧ s + 1 < D1.ts.length)) (hx : D1.ts[s]? = some x)
    (e : D' = { D1 with b := D'.b, L := D'.L, ts := D1.ts.set (s + 1) D1.t, hsel := s, t := x, k := x.size } := by rfl) : D'.ps = D1.ps.older := by
  rw [e]
  unfold PS.older
  obtain ⟨h1, h2⟩ := HH.out
  have e1 : D1.ps.hsel = s + 1 := h1
  have e2 : D1.ps.ts = D1.ts := rfl
  have e3 : D1.ps.t = D1.t := rfl
  rw [if_neg (by rw [e1, e2]; omega), e1, e2, e3]
  simp [Dyn.ps, List.getD_eq_getElem?_getD, hx]
theorem newer_eq {D1 D' : Dyn} {s : Nat} {x : ByteArray} (HH : Hid (D1.hsel = s ∧ s + 1 < D1.ts.length)) (hx : D1.ts[s + 1]? = some x)
    (e : D' = { D1 with b := D'.b, L := D'.L, ts := D1.ts.set s D1.t, hsel := s + 1, t := x, k := x.size } := by rfl) : D'.ps = D1.ps.newer := by
  rw [e]
  unfold PS.newer
  obtain ⟨h1, h2⟩ := HH.out
  have e1 : D1.ps.hsel = s := h1
  have e2 : D1.ps.ts = D1.ts := rfl
  have e3 : D1.ps.t = D1.t := rfl
  rw [if_neg (by rw [e1, e2]; omega), e1, e2, e3]
  simp [Dyn.ps, List.getD_eq_getElem?_getD, hx]
theorem older_cy {D1 : Dyn} {s : Nat} {x : ByteArray} (HH : Hid (D1.hsel = s + 1 ∧ s + 1 < D1.ts.length)) (h : St base w I D1) (hB : Buf base w D1.b D1.L D1.t D1.k) (hx : D1.ts[s]? = some x) (hp : Prn x ∧ x.size ≤ 500) (hl : D1.ts.length ≤ 1001) :
    Calls Tryz.prog 89 #[.pointer (some ⟨I.h, 0, none⟩), .pointer (some ⟨D1.b, 0, none⟩)] w (Turned base I.h D1.gh D1.gt D1.hs (D1.ts.set (s + 1) D1.t) s x w) := by
  have H := h.hist
  rw [HH.out.1] at H
  exact older_yes H hB HH.out.2 hx hp.1.asc (by omega) (by omega)
theorem newer_cy {D1 : Dyn} {s : Nat} {x : ByteArray} (HH : Hid (D1.hsel = s ∧ s + 1 < D1.ts.length)) (h : St base w I D1) (hB : Buf base w D1.b D1.L D1.t D1.k) (hx : D1.ts[s + 1]? = some x) (hp : Prn x ∧ x.size ≤ 500) (hl : D1.ts.length ≤ 1001) :
    Calls Tryz.prog 90 #[.pointer (some ⟨I.h, 0, none⟩), .pointer (some ⟨D1.b, 0, none⟩)] w (Turned base I.h D1.gh D1.gt D1.hs (D1.ts.set s D1.t) (s + 1) x w) := by
  have H := h.hist
  rw [HH.out.1] at H
  exact newer_yes H hB HH.out.2 hx hp.1.asc (by omega) (by omega)

/-- Up, ^P. -/
theorem feed_up {u : Value} {l : List UInt8} {key : Int} {bd : PS → PS} (h : St base w I D) (hI : IdOk I) (hP : PsOk I D.ps) (hd : DatB w u l) (hkey : keyOf l = key) (hK : key = 36 ∨ key = 16) (hKB : KBnd base I key bd) :
    Calls Tryz.prog 48 #[.pointer (some ⟨I.p, 0, none⟩), u] w (FeedPost base I D (bd (if D.ps.sel = -1 then (D.ps.comp I.q I.down key).older else D.ps.comp I.q I.down key)) false none w) := by
  obtain ⟨cp, hcp⟩ : ∃ cp, cp = (D.sel != -1) := ⟨_, rfl⟩
  have hgk := getKey_c hd.dat
  rw [hkey] at hgk
  have n9 : key ≠ 9 := by omega
  have hcomp := fun (w1 : World) (h1 : St base w1 I D) => comp_c h1 (StOk.of hI hP) cp hcp key n9
  obtain ⟨hst, hsz⟩ := stok_comp hI hP key
  obtain ⟨m1, m2, m3, m4, m5⟩ := comp_keep D I key
  have hTl : D.ts.length ≤ 1001 := hP.hTl
  have hT : ∀ x ∈ D.ts, Prn x ∧ x.size ≤ 500 := hP.hT
  have hsl : D.hsel < D.ts.length := hP.hsl
  rw [← ps_comp]
  obtain ⟨D1, hD1⟩ : ∃ D1, D.comp I key = D1 := ⟨_, rfl⟩
  rw [hD1] at hst hsz m2 m3 m5 hcomp ⊢
  rw [← m2] at hTl hT
  rw [← m2, ← m3] at hsl
  have HM := Lib.hid m5
  have HT := Lib.hid hT
  clear hkey hD1 n9 m1 m2 m3 m4 m5 hT
  obtain ⟨ua, un, uc, rfl⟩ := hd.form
  cases cp with
  | true =>
    have hs1 : D.sel ≠ -1 := by simpa using hcp.symm
    rw [if_neg (show ¬ D.ps.sel = -1 from hs1)]
    have hkb := hKB
    clear hs1 hKB
    rcases hK with rfl | rfl
    all_goals
      go_enter Tryz.func48, Tryz.ntmps48
      go_wp2_with (fail)
      refine hgk.mono ?_
      rintro e w1 ⟨rfl, hF1⟩
      have h1 := h.fr0 hF1
      have hcc := completing_c h1.scr.cm
      rw [← hcp] at hcc
      obtain ⟨c0, c1, c2, c3, c4, c5, c6, c7, c8, c9, f0, hlt⟩ := prC h1.pr
      clear hcp hgk
      go_wp2_with (fail)
      refine hcc.mono ?_
      rintro e w2 ⟨rfl, rfl⟩
      clear hcc
      go_wp2_with (fail)
      refine (hcomp _ h1).mono ?_
      rintro e w2 ⟨rfl, h2, hF2⟩
      clear hcomp
      have hT2 : Fr base TT [] w w2 := hF1.any.trans (h1.compTT hF2)
      obtain ⟨c0, c1, c2, c3, c4, c5, c6, c7, c8, c9, f0, hlt⟩ := prC h2.pr
      go_wp2_with (fail)
      refine (hkb _ _ h2 hst).mono ?_
      rintro e w9 ⟨rfl, ⟨D9, h9, hps9, hn9⟩, hF9⟩
      go_wp2
      go_ret2
      exact ⟨D9, _, rfl, h9, hps9, by rw [hn9, HM.out]; omega, .inl ⟨rfl, rfl⟩, hT2.trans hF9⟩
  | false =>
    have hs1 : D.sel = -1 := by simpa using hcp.symm
    rw [if_pos (show D.ps.sel = -1 from hs1)]
    clear hs1
    by_cases hno : D1.ts.length = 1 ∨ D1.hsel = 0
    · have HN := Lib.hid hno
      clear hno
      rcases hK with rfl | rfl
      all_goals
        go_enter Tryz.func48, Tryz.ntmps48
        go_wp2_with (fail)
        refine hgk.mono ?_
        rintro e w1 ⟨rfl, hF1⟩
        have h1 := h.fr0 hF1
        have hcc := completing_c h1.scr.cm
        rw [← hcp] at hcc
        obtain ⟨c0, c1, c2, c3, c4, c5, c6, c7, c8, c9, f0, hlt⟩ := prC h1.pr
        clear hcp hgk
        go_wp2_with (fail)
        refine hcc.mono ?_
        rintro e w2 ⟨rfl, rfl⟩
        clear hcc
        go_wp2_with (fail)
        refine (hcomp _ h1).mono ?_
        rintro e w2 ⟨rfl, h2, hF2⟩
        clear hcomp
        have hT2 : Fr base TT [] w w2 := hF1.any.trans (h1.compTT hF2)
        obtain ⟨c0, c1, c2, c3, c4, c5, c6, c7, c8, c9, f0, hlt⟩ := prC h2.pr
        go_wp2_with (fail)
        have hS : (fun w' : World => w'.cell? ⟨I.p, 3, none⟩ = some (.pointer (some ⟨I.h, 0, none⟩)) ∧ w'.cell? ⟨I.p, 0, none⟩ = some (.pointer (some ⟨D1.b, 0, none⟩))) w2.drew := ⟨c3, c0⟩
        refine wp_region_plan [3, 7] [8] (fun w' : World => w'.cell? ⟨I.p, 3, none⟩ = some (.pointer (some ⟨I.h, 0, none⟩)) ∧ w'.cell? ⟨I.p, 0, none⟩ = some (.pointer (some ⟨D1.b, 0, none⟩))) (.pure 0 (.pure 1 (.pure 2 (.take 3 (.pure 4 (.pure 5 (.pure 6 (.take 7 (.go 8 (.pure 9 (.pure 10 (.pure 11 (.pure 12 (.pure 13 .done)))))))))))))) hmix (by kernel_rfl) ?_
        repeat (first | (refine plan_move rfl rfl rfl ?_; (try simp only [Act.put, zq1, zq2, zq3, zq4, zq5, zq6])) | (refine plan_pure (v := ?_) rfl rfl ?_ ?_; rotate_left; (intro w'; go_simp <;> with_reducible rfl); (try simp only [Act.put, zq1, zq2, zq3, zq4, zq5, zq6])) | (refine plan_take (v := ?_) rfl hS rfl ?_ ?_; rotate_left; (intro w' hSw; (try dsimp only at hSw); go_simp <;> with_reducible rfl); (try simp only [Act.put, zq1, zq2, zq3, zq4, zq5, zq6])))
        refine plan_go rfl (by kernel_rfl) rfl (fun K hK => ?_)
        go_simp; refine (older_no (b := D1.b) h2.drew.hist HN.out (by omega)).mono ?_; rintro e w3 ⟨rfl, hF3⟩; refine hK _ _ ?_; clear hK K; (try simp only [Act.put, zq1, zq2, zq3, zq4, zq5, zq6])
        repeat (first | (refine plan_move rfl rfl rfl ?_; (try simp only [Act.put, zq1, zq2, zq3, zq4, zq5, zq6])) | (refine plan_pure (v := ?_) rfl rfl ?_ ?_; rotate_left; (intro w'; go_simp <;> with_reducible rfl); (try simp only [Act.put, zq1, zq2, zq3, zq4, zq5, zq6])))
        refine plan_done ?_
        have h3 := h2.drew.fr0 hF3
        have hT3 := (hT2.drew).trans hF3.any
        go_wp2_with (fail)
        refine (hKB _ _ h3 hst).mono ?_
        rintro e w9 ⟨rfl, ⟨D9, h9, hps9, hn9⟩, hF9⟩
        go_wp2
        go_ret2
        refine ⟨D9, _, rfl, h9, ?_, by rw [hn9, HM.out]; omega, .inl ⟨rfl, rfl⟩, hT3.trans hF9⟩
        rw [hps9]
        congr 1
        unfold PS.older
        rw [if_pos (show D1.ps.ts.length = 1 ∨ D1.ps.hsel = 0 from HN.out)]
    · obtain ⟨s, hs, hs2⟩ : ∃ s, D1.hsel = s + 1 ∧ s + 1 < D1.ts.length := ⟨D1.hsel - 1, by omega, by omega⟩
      obtain ⟨x, hx⟩ : ∃ x, D1.ts[s]? = some x := ⟨_, List.getElem?_eq_getElem (by omega)⟩
      have HH := Lib.hid (And.intro hs hs2)
      clear hs hs2 hno
      have hxp := HT.out x (List.mem_of_getElem? hx)
      have hts := hst.ok.hts
      have HX := Lib.hid hx
      clear hx
      rcases hK with rfl | rfl
      all_goals
        go_enter Tryz.func48, Tryz.ntmps48
        go_wp2_with (fail)
        refine hgk.mono ?_
        rintro e w1 ⟨rfl, hF1⟩
        have h1 := h.fr0 hF1
        have hcc := completing_c h1.scr.cm
        rw [← hcp] at hcc
        obtain ⟨c0, c1, c2, c3, c4, c5, c6, c7, c8, c9, f0, hlt⟩ := prC h1.pr
        clear hcp hgk
        go_wp2_with (fail)
        refine hcc.mono ?_
        rintro e w2 ⟨rfl, rfl⟩
        clear hcc
        go_wp2_with (fail)
        refine (hcomp _ h1).mono ?_
        rintro e w2 ⟨rfl, h2, hF2⟩
        clear hcomp
        have hT2 : Fr base TT [] w w2 := hF1.any.trans (h1.compTT hF2)
        obtain ⟨c0, c1, c2, c3, c4, c5, c6, c7, c8, c9, f0, hlt⟩ := prC h2.pr
        go_wp2_with (fail)
        have hS : (fun w' : World => w'.cell? ⟨I.p, 3, none⟩ = some (.pointer (some ⟨I.h, 0, none⟩)) ∧ w'.cell? ⟨I.p, 0, none⟩ = some (.pointer (some ⟨D1.b, 0, none⟩))) w2.drew := ⟨c3, c0⟩
        refine wp_region_plan [3, 7] [8] (fun w' : World => w'.cell? ⟨I.p, 3, none⟩ = some (.pointer (some ⟨I.h, 0, none⟩)) ∧ w'.cell? ⟨I.p, 0, none⟩ = some (.pointer (some ⟨D1.b, 0, none⟩))) (.pure 0 (.pure 1 (.pure 2 (.take 3 (.pure 4 (.pure 5 (.pure 6 (.take 7 (.go 8 (.pure 9 (.pure 10 (.pure 11 (.pure 12 (.pure 13 .done)))))))))))))) hmix (by kernel_rfl) ?_
        repeat (first | (refine plan_move rfl rfl rfl ?_; (try simp only [Act.put, zq1, zq2, zq3, zq4, zq5, zq6])) | (refine plan_pure (v := ?_) rfl rfl ?_ ?_; rotate_left; (intro w'; go_simp <;> with_reducible rfl); (try simp only [Act.put, zq1, zq2, zq3, zq4, zq5, zq6])) | (refine plan_take (v := ?_) rfl hS rfl ?_ ?_; rotate_left; (intro w' hSw; (try dsimp only at hSw); go_simp <;> with_reducible rfl); (try simp only [Act.put, zq1, zq2, zq3, zq4, zq5, zq6])))
        refine plan_go rfl (by kernel_rfl) rfl (fun K hK => ?_)
        go_simp; refine (older_cy HH h2.drew h2.drew.scr.buf HX.out hxp hTl).mono ?_; rintro e w3 ⟨b', L', rfl, hb', hL', hH3, hB3, hF3⟩; refine hK _ _ ?_; clear hK K; (try simp only [Act.put, zq1, zq2, zq3, zq4, zq5, zq6])
        repeat (first | (refine plan_move rfl rfl rfl ?_; (try simp only [Act.put, zq1, zq2, zq3, zq4, zq5, zq6])) | (refine plan_pure (v := ?_) rfl rfl ?_ ?_; rotate_left; (intro w'; go_simp <;> with_reducible rfl); (try simp only [Act.put, zq1, zq2, zq3, zq4, zq5, zq6])))
        refine plan_done ?_
        have hlt2 := h2.drew.lts
        have h3 := h2.drew.histUpd hH3 (hF3.mono (by simp) (by simp)) (.inl rfl) (.inl rfl)
        have hT3 := (hT2.drew).trans (h2.drew.tt hF3 (by simp) (fun x hx => .inr (by simp only [List.mem_cons, List.not_mem_nil, or_false] at hx ⊢; rcases hx with h | h <;> simp [h])))
        obtain ⟨h4, hF4⟩ := h3.newBuf hB3 (by show L' ≠ D1.gh; omega) (by show L' ≠ D1.gt; omega) (fun g hg e => by have := hlt2.2.2.2.2.2.2 g hg; omega)
        have hT4 := hT3.trans (h3.tt hF4 (by simp) (by simp))
        obtain ⟨c0, c1, c2, c3, c4, c5, c6, c7, c8, c9, f0, hlt⟩ := prC h3.pr
        clear hb' hL' hlt2
        go_wp2_with (fail)
        refine (hKB _ _ h4 (hst.line rfl rfl rfl hxp.1 (Nat.le_trans hxp.2 (by omega)) (Nat.le_refl _))).mono ?_
        rintro e w9 ⟨rfl, ⟨D9, h9, hps9, hn9⟩, hF9⟩
        go_wp2
        go_ret2
        refine ⟨D9, _, rfl, h9, ?_, by rw [hn9]; show D1.n ≤ _; rw [HM.out]; omega, .inl ⟨rfl, rfl⟩, hT4.trans hF9⟩
        rw [hps9]
        congr 1
        exact older_eq HH HX.out

/-- Down, ^N. -/
theorem feed_down {u : Value} {l : List UInt8} {key : Int} {bd : PS → PS} (h : St base w I D) (hI : IdOk I) (hP : PsOk I D.ps) (hd : DatB w u l) (hkey : keyOf l = key) (hK : key = 37 ∨ key = 14) (hKB : D.sel ≠ -1 → KBnd base I key bd) :
    Calls Tryz.prog 48 #[.pointer (some ⟨I.p, 0, none⟩), u] w (FeedPost base I D (if D.ps.sel = -1 then (D.ps.comp I.q I.down key).newer else bd (D.ps.comp I.q I.down key)) false none w) := by
  obtain ⟨cp, hcp⟩ : ∃ cp, cp = (D.sel != -1) := ⟨_, rfl⟩
  have hgk := getKey_c hd.dat
  rw [hkey] at hgk
  have n9 : key ≠ 9 := by omega
  have hcomp := fun (w1 : World) (h1 : St base w1 I D) => comp_c h1 (StOk.of hI hP) cp hcp key n9
  obtain ⟨hst, hsz⟩ := stok_comp hI hP key
  obtain ⟨m1, m2, m3, m4, m5⟩ := comp_keep D I key
  have hTl : D.ts.length ≤ 1001 := hP.hTl
  have hT : ∀ x ∈ D.ts, Prn x ∧ x.size ≤ 500 := hP.hT
  have hsl : D.hsel < D.ts.length := hP.hsl
  rw [← ps_comp]
  obtain ⟨D1, hD1⟩ : ∃ D1, D.comp I key = D1 := ⟨_, rfl⟩
  rw [hD1] at hst hsz m2 m3 m5 hcomp ⊢
  rw [← m2] at hTl hT
  rw [← m2, ← m3] at hsl
  have HM := Lib.hid m5
  have HT := Lib.hid hT
  clear hkey hD1 n9 m1 m2 m3 m4 m5 hT
  obtain ⟨ua, un, uc, rfl⟩ := hd.form
  cases cp with
  | true =>
    have hs1 : D.sel ≠ -1 := by simpa using hcp.symm
    rw [if_neg (show ¬ D.ps.sel = -1 from hs1)]
    have hkb := hKB hs1
    clear hs1 hKB
    rcases hK with rfl | rfl
    all_goals
      go_enter Tryz.func48, Tryz.ntmps48
      go_wp2_with (fail)
      refine hgk.mono ?_
      rintro e w1 ⟨rfl, hF1⟩
      have h1 := h.fr0 hF1
      have hcc := completing_c h1.scr.cm
      rw [← hcp] at hcc
      obtain ⟨c0, c1, c2, c3, c4, c5, c6, c7, c8, c9, f0, hlt⟩ := prC h1.pr
      clear hcp hgk
      go_wp2_with (fail)
      refine hcc.mono ?_
      rintro e w2 ⟨rfl, rfl⟩
      clear hcc
      go_wp2_with (fail)
      refine (hcomp _ h1).mono ?_
      rintro e w2 ⟨rfl, h2, hF2⟩
      clear hcomp
      have hT2 : Fr base TT [] w w2 := hF1.any.trans (h1.compTT hF2)
      obtain ⟨c0, c1, c2, c3, c4, c5, c6, c7, c8, c9, f0, hlt⟩ := prC h2.pr
      go_wp2_with (fail)
      refine (hkb _ _ h2 hst).mono ?_
      rintro e w9 ⟨rfl, ⟨D9, h9, hps9, hn9⟩, hF9⟩
      go_wp2
      go_ret2
      exact ⟨D9, _, rfl, h9, hps9, by rw [hn9, HM.out]; omega, .inl ⟨rfl, rfl⟩, hT2.trans hF9⟩
  | false =>
    have hs1 : D.sel = -1 := by simpa using hcp.symm
    rw [if_pos (show D.ps.sel = -1 from hs1)]
    clear hs1
    by_cases hno : D1.ts.length ≤ D1.hsel + 1
    · have HN := Lib.hid hno
      clear hno
      rcases hK with rfl | rfl
      all_goals
        go_enter Tryz.func48, Tryz.ntmps48
        go_wp2_with (fail)
        refine hgk.mono ?_
        rintro e w1 ⟨rfl, hF1⟩
        have h1 := h.fr0 hF1
        have hcc := completing_c h1.scr.cm
        rw [← hcp] at hcc
        obtain ⟨c0, c1, c2, c3, c4, c5, c6, c7, c8, c9, f0, hlt⟩ := prC h1.pr
        clear hcp hgk
        go_wp2_with (fail)
        refine hcc.mono ?_
        rintro e w2 ⟨rfl, rfl⟩
        clear hcc
        go_wp2_with (fail)
        refine (hcomp _ h1).mono ?_
        rintro e w2 ⟨rfl, h2, hF2⟩
        clear hcomp
        have hT2 : Fr base TT [] w w2 := hF1.any.trans (h1.compTT hF2)
        obtain ⟨c0, c1, c2, c3, c4, c5, c6, c7, c8, c9, f0, hlt⟩ := prC h2.pr
        go_wp2_with (fail)
        have hS : (fun w' : World => w'.cell? ⟨I.p, 3, none⟩ = some (.pointer (some ⟨I.h, 0, none⟩)) ∧ w'.cell? ⟨I.p, 0, none⟩ = some (.pointer (some ⟨D1.b, 0, none⟩))) w2.drew := ⟨c3, c0⟩
        refine wp_region_plan [3, 7] [8] (fun w' : World => w'.cell? ⟨I.p, 3, none⟩ = some (.pointer (some ⟨I.h, 0, none⟩)) ∧ w'.cell? ⟨I.p, 0, none⟩ = some (.pointer (some ⟨D1.b, 0, none⟩))) (.pure 0 (.pure 1 (.pure 2 (.take 3 (.pure 4 (.pure 5 (.pure 6 (.take 7 (.go 8 (.pure 9 (.pure 10 (.pure 11 (.pure 12 (.pure 13 .done)))))))))))))) hmix (by kernel_rfl) ?_
        repeat (first | (refine plan_move rfl rfl rfl ?_; (try simp only [Act.put, zq1, zq2, zq3, zq4, zq5, zq6])) | (refine plan_pure (v := ?_) rfl rfl ?_ ?_; rotate_left; (intro w'; go_simp <;> with_reducible rfl); (try simp only [Act.put, zq1, zq2, zq3, zq4, zq5, zq6])) | (refine plan_take (v := ?_) rfl hS rfl ?_ ?_; rotate_left; (intro w' hSw; (try dsimp only at hSw); go_simp <;> with_reducible rfl); (try simp only [Act.put, zq1, zq2, zq3, zq4, zq5, zq6])))
        refine plan_go rfl (by kernel_rfl) rfl (fun K hK => ?_)
        go_simp; refine (newer_no (b := D1.b) h2.drew.hist HN.out (by omega) (by omega)).mono ?_; rintro e w3 ⟨rfl, hF3⟩; refine hK _ _ ?_; clear hK K; (try simp only [Act.put, zq1, zq2, zq3, zq4, zq5, zq6])
        repeat (first | (refine plan_move rfl rfl rfl ?_; (try simp only [Act.put, zq1, zq2, zq3, zq4, zq5, zq6])) | (refine plan_pure (v := ?_) rfl rfl ?_ ?_; rotate_left; (intro w'; go_simp <;> with_reducible rfl); (try simp only [Act.put, zq1, zq2, zq3, zq4, zq5, zq6])))
        refine plan_done ?_
        have h3 := h2.drew.fr0 hF3
        have hT3 := (hT2.drew).trans hF3.any
        go_wp2_with (fail)
        go_ret2
        refine ⟨D1, _, rfl, h3, ?_, by rw [HM.out]; omega, .inl ⟨rfl, rfl⟩, hT3⟩
        unfold PS.newer
        rw [if_pos (show D1.ps.ts.length ≤ D1.ps.hsel + 1 from HN.out)]
    · obtain ⟨s, hs, hs2⟩ : ∃ s, D1.hsel = s ∧ s + 1 < D1.ts.length := ⟨D1.hsel, rfl, by omega⟩
      obtain ⟨x, hx⟩ : ∃ x, D1.ts[s + 1]? = some x := ⟨_, List.getElem?_eq_getElem (by omega)⟩
      have HH := Lib.hid (And.intro hs hs2)
      clear hs hs2 hno
      have hxp := HT.out x (List.mem_of_getElem? hx)
      have hts := hst.ok.hts
      have HX := Lib.hid hx
      clear hx
      rcases hK with rfl | rfl
      all_goals
        go_enter Tryz.func48, Tryz.ntmps48
        go_wp2_with (fail)
        refine hgk.mono ?_
        rintro e w1 ⟨rfl, hF1⟩
        have h1 := h.fr0 hF1
        have hcc := completing_c h1.scr.cm
        rw [← hcp] at hcc
        obtain ⟨c0, c1, c2, c3, c4, c5, c6, c7, c8, c9, f0, hlt⟩ := prC h1.pr
        clear hcp hgk
        go_wp2_with (fail)
        refine hcc.mono ?_
        rintro e w2 ⟨rfl, rfl⟩
        clear hcc
        go_wp2_with (fail)
        refine (hcomp _ h1).mono ?_
        rintro e w2 ⟨rfl, h2, hF2⟩
        clear hcomp
        have hT2 : Fr base TT [] w w2 := hF1.any.trans (h1.compTT hF2)
        obtain ⟨c0, c1, c2, c3, c4, c5, c6, c7, c8, c9, f0, hlt⟩ := prC h2.pr
        go_wp2_with (fail)
        have hS : (fun w' : World => w'.cell? ⟨I.p, 3, none⟩ = some (.pointer (some ⟨I.h, 0, none⟩)) ∧ w'.cell? ⟨I.p, 0, none⟩ = some (.pointer (some ⟨D1.b, 0, none⟩))) w2.drew := ⟨c3, c0⟩
        refine wp_region_plan [3, 7] [8] (fun w' : World => w'.cell? ⟨I.p, 3, none⟩ = some (.pointer (some ⟨I.h, 0, none⟩)) ∧ w'.cell? ⟨I.p, 0, none⟩ = some (.pointer (some ⟨D1.b, 0, none⟩))) (.pure 0 (.pure 1 (.pure 2 (.take 3 (.pure 4 (.pure 5 (.pure 6 (.take 7 (.go 8 (.pure 9 (.pure 10 (.pure 11 (.pure 12 (.pure 13 .done)))))))))))))) hmix (by kernel_rfl) ?_
        repeat (first | (refine plan_move rfl rfl rfl ?_; (try simp only [Act.put, zq1, zq2, zq3, zq4, zq5, zq6])) | (refine plan_pure (v := ?_) rfl rfl ?_ ?_; rotate_left; (intro w'; go_simp <;> with_reducible rfl); (try simp only [Act.put, zq1, zq2, zq3, zq4, zq5, zq6])) | (refine plan_take (v := ?_) rfl hS rfl ?_ ?_; rotate_left; (intro w' hSw; (try dsimp only at hSw); go_simp <;> with_reducible rfl); (try simp only [Act.put, zq1, zq2, zq3, zq4, zq5, zq6])))
        refine plan_go rfl (by kernel_rfl) rfl (fun K hK => ?_)
        go_simp; refine (newer_cy HH h2.drew h2.drew.scr.buf HX.out hxp hTl).mono ?_; rintro e w3 ⟨b', L', rfl, hb', hL', hH3, hB3, hF3⟩; refine hK _ _ ?_; clear hK K; (try simp only [Act.put, zq1, zq2, zq3, zq4, zq5, zq6])
        repeat (first | (refine plan_move rfl rfl rfl ?_; (try simp only [Act.put, zq1, zq2, zq3, zq4, zq5, zq6])) | (refine plan_pure (v := ?_) rfl rfl ?_ ?_; rotate_left; (intro w'; go_simp <;> with_reducible rfl); (try simp only [Act.put, zq1, zq2, zq3, zq4, zq5, zq6])))
        refine plan_done ?_
        have hlt2 := h2.drew.lts
        have h3 := h2.drew.histUpd hH3 (hF3.mono (by simp) (by simp)) (.inl rfl) (.inl rfl)
        have hT3 := (hT2.drew).trans (h2.drew.tt hF3 (by simp) (fun x hx => .inr (by simp only [List.mem_cons, List.not_mem_nil, or_false] at hx ⊢; rcases hx with h | h <;> simp [h])))
        obtain ⟨h4, hF4⟩ := h3.newBuf hB3 (by show L' ≠ D1.gh; omega) (by show L' ≠ D1.gt; omega) (fun g hg e => by have := hlt2.2.2.2.2.2.2 g hg; omega)
        have hT4 := hT3.trans (h3.tt hF4 (by simp) (by simp))
        obtain ⟨c0, c1, c2, c3, c4, c5, c6, c7, c8, c9, f0, hlt⟩ := prC h3.pr
        clear hb' hL' hlt2
        go_wp2_with (fail)
        go_ret2
        refine ⟨_, _, rfl, h4, ?_, by show D1.n ≤ _; rw [HM.out]; omega, .inl ⟨rfl, rfl⟩, hT4⟩
        exact newer_eq HH HX.out
end
end Go.Proofs.YtiepopbmbgfhkaaGreat
