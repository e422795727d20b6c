/-
  feed: the keys that end a line.
-/
import Derived.Test.YtiepopbmbgfhkaaGreatB21
namespace Go.Proofs.YtiepopbmbgfhkaaGreat
open Go.RowKit
set_option maxHeartbeats 2000000
set_option maxRecDepth 20000
set_option linter.unusedVariables false
set_option linter.unusedSimpArgs false

section
variable {base : Nat} {w w1 : World} {r o b L c : Nat} {pre : ByteArray} {cols n m : Nat} {t t' : ByteArray} {k k' : Nat} {q : Cp} {sel vs sel' vs' : Int} {tmp tmp' : List Pk}
theorem Scr.brk (h : Scr base w r o b L c pre cols n t k q sel vs tmp) (hR : Rn base w1 r o pre cols m) (hB : Buf base w1 b L t k) (hF : Fr base [5, 143] [b, r] w w1) : Scr base w1 r o b L c pre cols m t k q sel vs tmp := by
  obtain ⟨⟨cs, hb⟩, -⟩ := h.buf.blk
  obtain ⟨pc, hpc, -, hrB, -⟩ := h.rn.ren
  refine ⟨hR, hB, h.cm.fr hF (by simp) fun x hx => ?_⟩
  simp only [List.mem_cons, List.not_mem_nil, or_false] at hx
  rcases hx with rfl | rfl
  · exact ⟨cs, 121, hb, by decide, by decide, by decide, by decide⟩
  · exact ⟨_, 128, hrB, by decide, by decide, by decide, by decide⟩
end

section
variable {base : Nat} {w : World} {I : Pid} {D : Dyn}
theorem comp_keep (D : Dyn) (I : Pid) (key : Int) : (D.comp I key).hs = D.hs ∧ (D.comp I key).ts = D.ts ∧ (D.comp I key).hsel = D.hsel ∧ (D.comp I key).lines = D.lines ∧ (D.comp I key).n = D.n := by
  unfold Dyn.comp Dyn.chosen
  by_cases h1 : key = 37
  · rw [if_pos h1]
    by_cases h : D.sel ≠ -1 ∨ I.down = true
    · rw [if_pos h]; exact ⟨rfl, rfl, rfl, rfl, rfl⟩
    · rw [if_neg h]; exact ⟨rfl, rfl, rfl, rfl, rfl⟩
  · rw [if_neg h1]
    by_cases h2 : key = 54
    · rw [if_pos h2]; exact ⟨rfl, rfl, rfl, rfl, rfl⟩
    · rw [if_neg h2]
      by_cases h3 : key = 36
      · rw [if_pos h3]
        by_cases h : D.sel ≠ -1
        · rw [if_pos h]; exact ⟨rfl, rfl, rfl, rfl, rfl⟩
        · rw [if_neg h]; exact ⟨rfl, rfl, rfl, rfl, rfl⟩
      · rw [if_neg h3]
        by_cases h4 : key = 51
        · rw [if_pos h4]; exact ⟨rfl, rfl, rfl, rfl, rfl⟩
        · rw [if_neg h4]
          by_cases h : D.sel = -1
          · rw [if_pos h]; exact ⟨rfl, rfl, rfl, rfl, rfl⟩
          · rw [if_neg h]; exact ⟨rfl, rfl, rfl, rfl, rfl⟩

theorem St.compTT {w1 : World} (h : St base w I D) (hF : Fr base [] [D.b, D.L, I.c] w w1) : Fr base TT [] w w1 :=
  h.tt hF (by simp) (fun x hx => .inr (by simp only [List.mem_cons, List.not_mem_nil, or_false] at hx ⊢; rcases hx with h | h | h <;> simp [h]))

theorem feed_enter {u : Value} {l : List UInt8} {key : Int} {bd : PS → PS} (h : St base w I D) (hI : IdOk I) (hP : PsOk I D.ps) (hd : DatB w u l) (hkey : keyOf l = key) (hK : key = 55 ∨ key = 13) (hKB : KBnd base I key bd) (hn : D.n + 4000 ≤ 1000000000) :
    Calls Tryz.prog 48 #[.pointer (some ⟨I.p, 0, none⟩), u] w (FeedPost base I D (bd (D.ps.comp I.q I.down key).enter) false (some (D.ps.comp I.q I.down key).t) w) := by
  obtain ⟨cp, hcp⟩ : ∃ cp, cp = (D.sel != -1) := ⟨_, rfl⟩
  have hgk := getKey_c hd.dat
  rw [hkey] at hgk
  have hne : key ≠ 37 ∧ key ≠ 54 ∧ key ≠ 36 ∧ key ≠ 51 ∧ key ≠ 9 := by omega
  obtain ⟨o1, o2, o3, o4, o5, o6⟩ := comp_ok hI hP key ⟨hne.1, hne.2.1, hne.2.2.1, hne.2.2.2.1⟩
  obtain ⟨m1, m2, m3, m4, m5⟩ := comp_keep D I key
  have hh : D.hs.length ≤ 1000 := hP.hhl
  have hcomp := fun (w1 : World) (h1 : St base w1 I D) => comp_c h1 (StOk.of hI hP) cp hcp key hne.2.2.2.2
  rw [← ps_comp]
  obtain ⟨D1, hD1⟩ : ∃ D1, D.comp I key = D1 := ⟨_, rfl⟩
  rw [hD1] at o1 o2 o3 o4 o5 o6 m1 m2 m3 m4 m5 hcomp ⊢
  rw [← m1] at hh
  have HM := Lib.hid (And.intro m4 m5)
  have HO := Lib.hid (And.intro o4 (And.intro o5 o6))
  clear hkey hne hD1 m1 m2 m3 m4 m5 o4 o5 o6
  obtain ⟨ua, un, uc, rfl⟩ := hd.form
  rcases hK with rfl | rfl
  all_goals
    go_enter Tryz.func48, Tryz.ntmps48
    go_wp2_with (fail)
    refine hgk.mono ?_
    rintro e w1 ⟨rfl, hF1⟩
    have h1 := h.fr0 hF1
    have hcc := completing_c h1.scr.cm
    rw [← hcp] at hcc
    obtain ⟨c0, c1, c2, c3, c4, c5, c6, c7, c8, c9, f0, hlt⟩ := prC h1.pr
    clear hcp hgk
    go_wp2_with (fail)
    refine hcc.mono ?_
    rintro e w2 ⟨rfl, rfl⟩
    clear hcc
    go_wp2_with (fail)
    refine (hcomp _ h1).mono ?_
    rintro e w2 ⟨rfl, h2, hF2⟩
    clear hcomp
    have hT2 : Fr base TT [] w w2 := hF1.any.trans (h1.compTT hF2)
    obtain ⟨c0, c1, c2, c3, c4, c5, c6, c7, c8, c9, f0, hlt⟩ := prC h2.pr
    go_wp2_with (fail)
    have hS : (fun w' : World => w'.cell? ⟨I.p, 1, none⟩ = some (.pointer (some ⟨I.r, 0, none⟩)) ∧ w'.cell? ⟨I.p, 0, none⟩ = some (.pointer (some ⟨D1.b, 0, none⟩))) w2.drew := ⟨c1, c0⟩
    refine wp_region_plan [3, 7] [8] (fun w' : World => w'.cell? ⟨I.p, 1, none⟩ = some (.pointer (some ⟨I.r, 0, none⟩)) ∧ w'.cell? ⟨I.p, 0, none⟩ = some (.pointer (some ⟨D1.b, 0, none⟩))) (.pure 0 (.pure 1 (.pure 2 (.take 3 (.pure 4 (.pure 5 (.pure 6 (.take 7 (.go 8 .done))))))))) hmix (by kernel_rfl) ?_
    refine plan_move rfl rfl rfl ?_; (try simp only [Act.put, List.setIfInBounds_toArray, List.set_cons_zero, List.set_cons_succ, Int.toNat_natCast, Int.toNat_sub, Int.toNat_zero])
    first | (refine plan_pure (v := ?_) rfl rfl ?_ ?_; rotate_left; (intro w'; go_simp <;> with_reducible rfl); (try simp only [Act.put, List.setIfInBounds_toArray, List.set_cons_zero, List.set_cons_succ, Int.toNat_natCast, Int.toNat_sub, Int.toNat_zero]))
    first | (refine plan_pure (v := ?_) rfl rfl ?_ ?_; rotate_left; (intro w'; go_simp <;> with_reducible rfl); (try simp only [Act.put, List.setIfInBounds_toArray, List.set_cons_zero, List.set_cons_succ, Int.toNat_natCast, Int.toNat_sub, Int.toNat_zero]))
    first | (refine plan_take (v := ?_) rfl hS rfl ?_ ?_; rotate_left; (intro w' hSw; (try dsimp only at hSw); go_simp <;> with_reducible rfl); (try simp only [Act.put, List.setIfInBounds_toArray, List.set_cons_zero, List.set_cons_succ, Int.toNat_natCast, Int.toNat_sub, Int.toNat_zero]))
    refine plan_move rfl rfl rfl ?_; (try simp only [Act.put, List.setIfInBounds_toArray, List.set_cons_zero, List.set_cons_succ, Int.toNat_natCast, Int.toNat_sub, Int.toNat_zero])
    first | (refine plan_pure (v := ?_) rfl rfl ?_ ?_; rotate_left; (intro w'; go_simp <;> with_reducible rfl); (try simp only [Act.put, List.setIfInBounds_toArray, List.set_cons_zero, List.set_cons_succ, Int.toNat_natCast, Int.toNat_sub, Int.toNat_zero]))
    first | (refine plan_pure (v := ?_) rfl rfl ?_ ?_; rotate_left; (intro w'; go_simp <;> with_reducible rfl); (try simp only [Act.put, List.setIfInBounds_toArray, List.set_cons_zero, List.set_cons_succ, Int.toNat_natCast, Int.toNat_sub, Int.toNat_zero]))
    first | (refine plan_take (v := ?_) rfl hS rfl ?_ ?_; rotate_left; (intro w' hSw; (try dsimp only at hSw); go_simp <;> with_reducible rfl); (try simp only [Act.put, List.setIfInBounds_toArray, List.set_cons_zero, List.set_cons_succ, Int.toNat_natCast, Int.toNat_sub, Int.toNat_zero]))
    refine plan_go rfl (by kernel_rfl) rfl (fun K hK => ?_)
    go_simp; refine (breakLine_c h2.scr.rn.drew h2.scr.buf.drew hI.hpre hI.hpres hI.hc1 hI.hc2 o1 (by omega) o3 (by rw [HM.out.2]; omega)).mono ?_; rintro e w3 ⟨rfl, hR3, hB3, hF3⟩; refine hK _ _ ?_; clear hK K; (try simp only [Act.put, List.setIfInBounds_toArray, List.set_cons_zero, List.set_cons_succ, Int.toNat_natCast, Int.toNat_sub, Int.toNat_zero])
    refine plan_done ?_
    have h3 := h2.drew.outUpd (h2.drew.scr.brk hR3 hB3 hF3) hF3 (by simp)
    have hT3 := (hT2.drew).trans (h2.drew.tt5 (hF3.mono (by simp) (by simp)))
    obtain ⟨c0, c1, c2, c3, c4, c5, c6, c7, c8, c9, f0, hlt⟩ := prC h3.pr
    go_wp2_with (fail)
    refine (text_c h3.scr.buf).mono ?_
    rintro e w4 ⟨rfl, j4, rfl⟩
    obtain ⟨X, hX⟩ : ∃ X, w3.heap.size = X := ⟨_, rfl⟩
    have hXB := (Blk.new' (w := w3) hX.symm #[.string D1.t] 106).drewN j4
    have hF5 : Fr 0 [] [] w3 ((w3.alloc (.cells #[.string D1.t] 106)).drewN j4) := ((Fr.refl 0 [] [] w3).alloc _).drewN j4
    have h5 := h3.fr0 hF5
    have hT5 := hT3.trans hF5.any
    obtain ⟨c0, c1, c2, c3, c4, c5, c6, c7, c8, c9, f0, hlt⟩ := prC h3.pr
    go_wp2_with (fail)
    refine (newBuffer_c _).mono ?_
    rintro e w6 ⟨b', L', rfl, hL', hb', hB6, hF6⟩
    have h6 := h5.fr0 hF6
    have hT6 := hT5.trans hF6.any
    have hbs : base ≤ X := by have := h3.bp; have := h3.lts; omega
    have hlts := h5.lts
    obtain ⟨h7, hF7⟩ := h6.newBuf (hB6.base (by simp; omega)) (by show L' ≠ D1.gh; have : D1.gh < _ := hlts.2.2.1; omega) (by show L' ≠ D1.gt; have : D1.gt < _ := hlts.2.2.2.1; omega) (fun g hg e => by have := hlts.2.2.2.2.2.2 g hg; omega)
    clear hL' hb' hlts
    have hT7 := hT6.trans (h6.tt hF7 (by simp) (by simp))
    have hX7 := (hF6.blk0 hXB).other (a := ⟨I.p, 0, none⟩) ((hF6.blk0 hXB).ne h6.pr (by decide)) (.pointer (some ⟨b', 0, none⟩))
    obtain ⟨c0, c1, c2, c3, c4, c5, c6, c7, c8, c9, f0, hlt⟩ := prC h6.pr
    obtain ⟨y0, -⟩ := hX7.c1
    have hXl := hX7.lt
    by_cases hz : D1.t = .empty
    · have hE1 : D1.t.toList.isEmpty = true := by rw [str_empty, hz]; rfl
      have hE2 : D1.t.toList = [] := by simpa using hE1
      have HZ := Lib.hid hz
      clear hz
      go_wp2_with (fail)
      refine (hKB _ _ h7 (stOk_mk hI prn_empty (by show ByteArray.empty.size ≤ 1000; decide) (Nat.zero_le _) HO.out.1 HO.out.2.1 HO.out.2.2)).mono ?_
      rintro e w9 ⟨rfl, ⟨D9, h9, hps9, hn9⟩, hF9⟩
      go_wp2
      go_ret2
      refine ⟨D9, _, rfl, h9, ?_, ?_, .inr ⟨X, D1.t, rfl, rfl, hF9.blk hX7 (.inr ⟨by simp, by decide⟩)⟩, hT7.trans hF9⟩
      · rw [hps9]
        congr 1
        unfold PS.enter
        rw [if_pos (show D1.ps.t = .empty from HZ.out)]
        rfl
      · rw [hn9]
        show D1.n + 3000 ≤ D.n + 4000
        have := HM.out.2
        omega
    · have hE := str_empty (a := D1.t)
      have hE3 : D1.t.size ≠ 0 := by
        intro e; apply hz; apply ByteArray.ext; apply Array.eq_empty_of_size_eq_zero; exact e
      have hE1 : D1.t.toList.isEmpty = false := by rw [hE]; simpa using hE3
      have hE2 : D1.t.toList ≠ [] := by intro e; rw [e] at hE1; simp at hE1
      have HZ := Lib.hid hz
      clear hz hE hE3
      go_wp2_with (fail)
      obtain ⟨c0, c1, c2, c3, c4, c5, c6, c7, c8, c9, f0, hlt⟩ := prC h7.pr
      have hS : (fun w' : World => w'.cell? ⟨I.p, 3, none⟩ = some (.pointer (some ⟨I.h, 0, none⟩)) ∧ w'.cell? ⟨X, 0, none⟩ = some (.string D1.t)) (w6.setCell ⟨I.p, 0, none⟩ (.pointer (some ⟨b', 0, none⟩))).drew := ⟨c3, y0⟩
      refine wp_region_plan [3, 7] [8] (fun w' : World => w'.cell? ⟨I.p, 3, none⟩ = some (.pointer (some ⟨I.h, 0, none⟩)) ∧ w'.cell? ⟨X, 0, none⟩ = some (.string D1.t)) (.pure 0 (.pure 1 (.pure 2 (.take 3 (.pure 4 (.pure 5 (.pure 6 (.take 7 (.go 8 .done))))))))) hmix (by kernel_rfl) ?_
      refine plan_move rfl rfl rfl ?_; (try simp only [Act.put, List.setIfInBounds_toArray, List.set_cons_zero, List.set_cons_succ, Int.toNat_natCast, Int.toNat_sub, Int.toNat_zero])
      first | (refine plan_pure (v := ?_) rfl rfl ?_ ?_; rotate_left; (intro w'; go_simp <;> with_reducible rfl); (try simp only [Act.put, List.setIfInBounds_toArray, List.set_cons_zero, List.set_cons_succ, Int.toNat_natCast, Int.toNat_sub, Int.toNat_zero]))
      first | (refine plan_pure (v := ?_) rfl rfl ?_ ?_; rotate_left; (intro w'; go_simp <;> with_reducible rfl); (try simp only [Act.put, List.setIfInBounds_toArray, List.set_cons_zero, List.set_cons_succ, Int.toNat_natCast, Int.toNat_sub, Int.toNat_zero]))
      first | (refine plan_take (v := ?_) rfl hS rfl ?_ ?_; rotate_left; (intro w' hSw; (try dsimp only at hSw); go_simp <;> with_reducible rfl); (try simp only [Act.put, List.setIfInBounds_toArray, List.set_cons_zero, List.set_cons_succ, Int.toNat_natCast, Int.toNat_sub, Int.toNat_zero]))
      refine plan_move rfl rfl rfl ?_; (try simp only [Act.put, List.setIfInBounds_toArray, List.set_cons_zero, List.set_cons_succ, Int.toNat_natCast, Int.toNat_sub, Int.toNat_zero])
      first | (refine plan_pure (v := ?_) rfl rfl ?_ ?_; rotate_left; (intro w'; go_simp <;> with_reducible rfl); (try simp only [Act.put, List.setIfInBounds_toArray, List.set_cons_zero, List.set_cons_succ, Int.toNat_natCast, Int.toNat_sub, Int.toNat_zero]))
      first | (refine plan_pure (v := ?_) rfl rfl ?_ ?_; rotate_left; (intro w'; go_simp <;> with_reducible rfl); (try simp only [Act.put, List.setIfInBounds_toArray, List.set_cons_zero, List.set_cons_succ, Int.toNat_natCast, Int.toNat_sub, Int.toNat_zero]))
      first | (refine plan_take (v := ?_) rfl hS rfl ?_ ?_; rotate_left; (intro w' hSw; (try dsimp only at hSw); go_simp <;> with_reducible rfl); (try simp only [Act.put, List.setIfInBounds_toArray, List.set_cons_zero, List.set_cons_succ, Int.toNat_natCast, Int.toNat_sub, Int.toNat_zero]))
      refine plan_go rfl (by kernel_rfl) rfl (fun K hK => ?_)
      go_simp; refine (hAdd_c h7.drew.hist D1.t (by show D1.hs.length ≤ 10000; omega)).mono ?_; rintro e w8 ⟨rfl, ⟨gh', gt', hg1, hg2, hH8⟩, hF8⟩; refine hK _ _ ?_; clear hK K; (try simp only [Act.put, List.setIfInBounds_toArray, List.set_cons_zero, List.set_cons_succ, Int.toNat_natCast, Int.toNat_sub, Int.toNat_zero])
      refine plan_done ?_
      have h8 := h7.drew.histUpd hH8 (hF8.mono (by simp) (by simp)) hg1 (.inr hg2)
      have hT8 := (hT7.drew).trans (h7.drew.tt hF8 (by simp) (fun x hx => .inr (by simp only [List.mem_cons, List.not_mem_nil, or_false] at hx ⊢; rcases hx with h | h <;> simp [h])))
      obtain ⟨-, -, -, -, ⟨csh, hhB⟩, ⟨csg, hgB⟩, -⟩ := h7.blks
      have hX8 := hF8.blk hX7.drew (.inr ⟨by simp only [List.mem_cons, List.not_mem_nil, or_false]; rintro (e | e); exact absurd e (hX7.ne hhB (by decide)); exact absurd e (hX7.ne hgB (by decide)), by simp⟩)
      obtain ⟨c0, c1, c2, c3, c4, c5, c6, c7, c8, c9, f0, hlt⟩ := prC h8.pr
      go_wp2_with (fail)
      refine (hKB _ _ h8 (stOk_mk hI prn_empty (by show ByteArray.empty.size ≤ 1000; decide) (Nat.zero_le _) HO.out.1 HO.out.2.1 HO.out.2.2)).mono ?_
      rintro e w9 ⟨rfl, ⟨D9, h9, hps9, hn9⟩, hF9⟩
      go_wp2
      go_ret2
      refine ⟨D9, _, rfl, h9, ?_, ?_, .inr ⟨X, D1.t, rfl, rfl, hF9.blk hX8 (.inr ⟨by simp, by decide⟩)⟩, hT8.trans hF9⟩
      · rw [hps9]
        congr 1
        unfold PS.enter
        rw [if_neg (show ¬ D1.ps.t = .empty from HZ.out)]
        rfl
      · rw [hn9]
        show D1.n + 3000 ≤ D.n + 4000
        have := HM.out.2
        omega
end
end Go.Proofs.YtiepopbmbgfhkaaGreat
