/-
  SessionRight: which sessions are looked at.
-/
import Derived.Test.YtiepopbmbgfhkaaGreatQ26
namespace Go.Proofs.YtiepopbmbgfhkaaGreat
open Go.RowKit
set_option maxHeartbeats 4000000
set_option maxRecDepth 20000
set_option linter.unusedVariables false
set_option linter.unusedSimpArgs false

/-- A session that is looked at. -/
structure RawOk (S : Raw) : Prop where
  hpre : Prn S.pre
  hpres : S.pre.size ≤ 20
  hol : S.offs.length ≤ 12
  m1 : 1 ≤ S.most
  m2 : S.most ≤ 10
  c1 : 13 ≤ S.cols
  c2 : S.cols ≤ 120
  c3 : 12 ≤ S.cols - S.pre.size - 1
  hhl : S.hist.length ≤ 8
  hbs : S.begun.size ≤ 60
  hseps : S.sep.size ≤ 8
  hes : S.exit.size ≤ 20
  hb : Prn S.begun
  hsep : Prn S.sep
  he : Prn S.exit
  hh : ∀ x ∈ S.hist, Prn x ∧ x.size ≤ 60
  ho : ∀ x ∈ S.offs, Prn x.1 ∧ x.1.size ≤ 40 ∧ Prn x.2 ∧ x.2.size ≤ 40 ∧ x.1.size ≠ 0

def RightPost (S : Raw) (w : World) (e : Ending) (w' : World) : Prop := (∃ r, e = .returned (.bool r) ∧ (r = true → RawOk S)) ∧ Fr 0 [] [] w w'
theorem right_no {S : Raw} {w w' : World} (h : Fr 0 [] [] w w') : RightPost S w (.returned (.bool false)) w' := ⟨⟨false, rfl, fun e => by cases e⟩, h⟩

structure RawC (w : World) (M : Nat) (S : Raw) (ov hv : Value) : Prop where
  c0 : w.cell? ⟨M, 0, none⟩ = some (.string S.pre)
  c1 : w.cell? ⟨M, 1, none⟩ = some ov
  c2 : w.cell? ⟨M, 2, none⟩ = some (.int .i64 S.most)
  c3 : w.cell? ⟨M, 3, none⟩ = some (.int .i64 S.cols)
  c6 : w.cell? ⟨M, 6, none⟩ = some (.string S.sep)
  c7 : w.cell? ⟨M, 7, none⟩ = some hv
  c8 : w.cell? ⟨M, 8, none⟩ = some (.string S.begun)
  c10 : w.cell? ⟨M, 10, none⟩ = some (.string S.exit)
  lt : M < w.heap.size
theorem rawC {w : World} {M : Nat} {S : Raw} {ov hv : Value} (h : Blk w M (S.cells ov hv) 25) : RawC w M S ov hv :=
  ⟨h.cell 0, h.cell 1, h.cell 2, h.cell 3, h.cell 6, h.cell 7, h.cell 8, h.cell 10, h.lt⟩

theorem right_c {w : World} {S : Raw} {ov hv : Value} (hO : PkIn w ov S.offs) (hH : TxIn w hv S.hist) (hps : S.pre.size ≤ 9223372036854775807) (hos : ∀ x ∈ S.offs, x.1.size ≤ 9223372036854775807 ∧ x.2.size ≤ 9223372036854775807) :
    Calls Tryz.prog 10 #[.agg (S.cells ov hv)] w (RightPost S w) := by
  obtain ⟨oA, oc, rfl⟩ := hO.form
  obtain ⟨hA, hcc, rfl⟩ := hH.form
  obtain ⟨M, hM⟩ : ∃ M, w.heap.size = M := ⟨_, rfl⟩
  have hFa : Fr 0 [] [] w (w.alloc (.cells (S.cells (.slice oA S.offs.length oc) (.slice hA S.hist.length hcc)) 25)) := (Fr.refl _ _ _ _).alloc _
  have hB : Blk (w.alloc (.cells (S.cells (.slice oA S.offs.length oc) (.slice hA S.hist.length hcc)) 25)) M (S.cells (.slice oA S.offs.length oc) (.slice hA S.hist.length hcc)) 25 := Blk.new' hM.symm _ _
  obtain ⟨W, hW⟩ : ∃ W, w.alloc (.cells (S.cells (.slice oA S.offs.length oc) (.slice hA S.hist.length hcc)) 25) = W := ⟨_, rfl⟩
  have hHW := hH.fr hFa
  have hOW := hO.fr hFa
  rw [hW] at hFa hB hHW hOW
  have HPS := Lib.hid hps
  have HOS := Lib.hid hos
  clear hps hos
  unfold Raw.cells at hW ⊢
  obtain ⟨c0, c1, c2, c3, c6, c7, c8, c10, ml⟩ := rawC hB
  go_enter Tryz.func10, Tryz.ntmps10
  go_wp2_with (fail)
  refine (printable_c _ HPS.out _).mono ?_
  rintro e w1 ⟨rfl, rfl⟩
  clear hW
  cases p1 : prB S.pre with
  | false =>
    go_wp2_with (fail)
    go_ret
    exact right_no hFa
  | true =>
    have P1 := Lib.hid (prB_prn p1)
    clear p1
    by_cases q0 : (20 : Int) < S.pre.size
    · go_wp2_with (fail)
      go_ret
      exact right_no hFa
    ·
      by_cases q1 : (12 : Int) < S.offs.length
      · go_wp2_with (fail)
        go_ret
        exact right_no hFa
      ·
        by_cases q2 : S.most < 1
        · go_wp2_with (fail)
          go_ret
          exact right_no hFa
        ·
          by_cases q3 : (10 : Int) < S.most
          · go_wp2_with (fail)
            go_ret
            exact right_no hFa
          ·
            by_cases q4 : S.cols < 13
            · go_wp2_with (fail)
              go_ret
              exact right_no hFa
            ·
              by_cases q5 : (120 : Int) < S.cols
              · go_wp2_with (fail)
                go_ret
                exact right_no hFa
              ·
                by_cases q6 : S.cols - S.pre.size - 1 < 12
                · go_wp2_with (fail)
                  go_ret
                  exact right_no hFa
                ·
                  by_cases q7 : (8 : Int) < S.hist.length
                  · go_wp2_with (fail)
                    go_ret
                    exact right_no hFa
                  ·
                    by_cases q8 : (60 : Int) < S.begun.size
                    · go_wp2_with (fail)
                      go_ret
                      exact right_no hFa
                    ·
                      by_cases q9 : (8 : Int) < S.sep.size
                      · go_wp2_with (fail)
                        go_ret
                        exact right_no hFa
                      ·
                        by_cases q10 : (20 : Int) < S.exit.size
                        · go_wp2_with (fail)
                          go_ret
                          exact right_no hFa
                        ·
                          go_wp2_with (fail)
                          refine (printable_c _ (by omega) _).mono ?_
                          rintro e w1 ⟨rfl, rfl⟩
                          cases p2 : prB S.begun with
                          | false =>
                            go_wp2_with (fail)
                            go_ret
                            exact right_no hFa
                          | true =>
                            have P2 := Lib.hid (prB_prn p2)
                            clear p2
                            go_wp2_with (fail)
                            refine (printable_c _ (by omega) _).mono ?_
                            rintro e w1 ⟨rfl, rfl⟩
                            cases p3 : prB S.sep with
                            | false =>
                              go_wp2_with (fail)
                              go_ret
                              exact right_no hFa
                            | true =>
                              have P3 := Lib.hid (prB_prn p3)
                              clear p3
                              go_wp2_with (fail)
                              refine (printable_c _ (by omega) _).mono ?_
                              rintro e w1 ⟨rfl, rfl⟩
                              cases p4 : prB S.exit with
                              | false =>
                                go_wp2_with (fail)
                                go_ret
                                exact right_no hFa
                              | true =>
                                have P4 := Lib.hid (prB_prn p4)
                                clear p4
                                go_wp2_with (fail)
                                go_loop [3] (fun v3 => ∃ i : Nat, i ≤ S.hist.length ∧ v3 = .int .i64 i ∧ ∀ j (hj : j < S.hist.length), j < i → Prn S.hist[j] ∧ S.hist[j].size ≤ 60) (fun v3 => S.hist.length - (intOf v3).toNat)
                                case atStart => exact ⟨0, by omega, rfl, fun j hj h => by omega⟩
                                case round =>
                                  obtain ⟨i, hi, rfl, hall⟩ := hrel
                                  have HA := Lib.hid hall
                                  clear hall
                                  by_cases hlt : i < S.hist.length
                                  · have d1 : decide ((i : Int) < S.hist.length) = true := by simpa using hlt
                                    have d2 : (i : Int) < S.hist.length := by omega
                                    obtain ⟨b, o, rfl, e1⟩ : ∃ b o, hA = some ⟨b, o, none⟩ ∧ W.cell? ⟨b, o + i, none⟩ = some (.string S.hist[i]) := by
                                      rcases hHW with ⟨e, -⟩ | ⟨b, o, c, e, hc⟩
                                      · rw [e] at hlt; simp at hlt
                                      · simp only [Value.slice.injEq] at e
                                        exact ⟨b, o, e.1, hc i hlt⟩
                                    by_cases q20 : (60 : Int) < S.hist[i].size
                                    · go_wp2_with (fail)
                                      go_ret
                                      exact right_no hFa
                                    · go_wp2_with (fail)
                                      refine (printable_c _ (by omega) _).mono ?_
                                      rintro e w1 ⟨rfl, rfl⟩
                                      cases p5 : prB S.hist[i] with
                                      | false =>
                                        go_wp2_with (fail)
                                        go_ret
                                        exact right_no hFa
                                      | true =>
                                        have P5 := Lib.hid (prB_prn p5)
                                        clear p5
                                        go_wp2_with (fail)
                                        go_round
                                        case rel =>
                                          refine ⟨i + 1, by omega, by simp, fun j hj hji => ?_⟩
                                          by_cases e : j = i
                                          · subst e; exact ⟨P5.out.1, by omega⟩
                                          · exact HA.out j hj (by omega)
                                        case measure => simp [intOf]; omega
                                  · have d1 : decide ((i : Int) < S.hist.length) = false := by simpa using hlt
                                    have d2 : ¬ (i : Int) < S.hist.length := by omega
                                    have hhh : ∀ x ∈ S.hist, Prn x ∧ x.size ≤ 60 := fun x hx => by
                                      obtain ⟨j, hj, rfl⟩ := List.getElem_of_mem hx
                                      exact HA.out j hj (by omega)
                                    have HH := Lib.hid hhh
                                    clear hhh HA
                                    go_wp2_with (fail)
                                    go_loopw [4] (fun v4 w' => ∃ k : Nat, k ≤ S.offs.length ∧ v4 = .int .i64 k ∧ Fr 0 [] [] W w' ∧ ∀ j (hj : j < S.offs.length), j < k → Prn S.offs[j].1 ∧ S.offs[j].1.size ≤ 40 ∧ Prn S.offs[j].2 ∧ S.offs[j].2.size ≤ 40 ∧ S.offs[j].1.size ≠ 0) (fun v4 _ => S.offs.length - (intOf v4).toNat)
                                    case atStart => exact ⟨0, by omega, rfl, Fr.refl _ _ _ _, fun j hj h => by omega⟩
                                    case round =>
                                      obtain ⟨k, hk, rfl, hF, hall⟩ := hrel
                                      have HA := Lib.hid hall
                                      clear hall
                                      obtain ⟨c0, c1, c2, c3, c6, c7, c8, c10, ml⟩ := rawC (hF.blk0 hB)
                                      by_cases hlk : k < S.offs.length
                                      · have d3 : decide ((k : Int) < S.offs.length) = true := by simpa using hlk
                                        have d4 : (k : Int) < S.offs.length := by omega
                                        obtain ⟨b, o, rfl, e1, e2⟩ : ∃ b o, oA = some ⟨b, o, none⟩ ∧ wr.cell? ⟨b, o + k * 2, none⟩ = some (.string S.offs[k].1) ∧ wr.cell? ⟨b, o + k * 2 + 1, none⟩ = some (.string S.offs[k].2) := by
                                          rcases hOW.fr hF with ⟨e, -⟩ | ⟨b, o, c, e, hc⟩
                                          · rw [e] at hlk; simp at hlk
                                          · simp only [Value.slice.injEq] at e
                                            exact ⟨b, o, e.1, hc k hlk⟩
                                        have hos1 := HOS.out _ (List.getElem_mem hlk)
                                        have hFx := hFa.trans (hF.alloc (.cells #[.string S.offs[k].1, .string S.offs[k].2] 29))
                                        go_wp2_with (fail)
                                        refine (printable_c _ hos1.1 _).mono ?_
                                        rintro e w1 ⟨rfl, rfl⟩
                                        cases p6 : prB S.offs[k].1 with
                                        | false =>
                                          go_wp2_with (fail)
                                          go_ret
                                          exact right_no hFx
                                        | true =>
                                          have P6 := Lib.hid (prB_prn p6)
                                          clear p6
                                          go_wp2_with (fail)
                                          refine (printable_c _ hos1.2 _).mono ?_
                                          rintro e w1 ⟨rfl, rfl⟩
                                          cases p7 : prB S.offs[k].2 with
                                          | false =>
                                            go_wp2_with (fail)
                                            go_ret
                                            exact right_no hFx
                                          | true =>
                                            have P7 := Lib.hid (prB_prn p7)
                                            clear p7
                                            obtain ⟨em, hem⟩ : ∃ em, S.offs[k].1.toList.isEmpty = em := ⟨_, rfl⟩
                                            have hem2 : em = true → S.offs[k].1.toList = [] := fun e => by rw [← hem] at e; simpa using e
                                            have hem3 : em = false → S.offs[k].1.toList ≠ [] := fun e e2 => by rw [e2] at hem; rw [← hem] at e; simp at e
                                            have hemx : em = decide (S.offs[k].1.size = 0) := by rw [← hem, str_empty]
                                            have HEX := Lib.hid hemx
                                            clear hemx
                                            cases em with
                                            | true =>
                                              have hE2 := hem2 rfl
                                              clear hem2 hem3
                                              go_wp2_with (fail)
                                              go_ret
                                              exact right_no hFx
                                            | false =>
                                              have hE2 := hem3 rfl
                                              clear hem2 hem3
                                              by_cases q21 : (40 : Int) < S.offs[k].1.size
                                              · go_wp2_with (fail)
                                                go_ret
                                                exact right_no hFx
                                              · by_cases q22 : (40 : Int) < S.offs[k].2.size
                                                · go_wp2_with (fail)
                                                  go_ret
                                                  exact right_no hFx
                                                · go_wp2_with (fail)
                                                  go_roundw
                                                  case rel =>
                                                    refine ⟨k + 1, by omega, by simp, hF.alloc _, fun j hj hji => ?_⟩
                                                    by_cases e : j = k
                                                    · subst e
                                                      have := HEX.out
                                                      exact ⟨P6.out.1, by omega, P7.out.1, by omega, by simpa using this.symm⟩
                                                    · exact HA.out j hj (by omega)
                                                  case measure => simp [intOf]; omega
                                      · have d3 : decide ((k : Int) < S.offs.length) = false := by simpa using hlk
                                        have d4 : ¬ (k : Int) < S.offs.length := by omega
                                        go_wp2_with (fail)
                                        go_ret
                                        refine ⟨⟨true, rfl, fun _ => ⟨P1.out.1, by omega, by omega, by omega, by omega, by omega, by omega, by omega, by omega, by omega, by omega, by omega, P2.out.1, P3.out.1, P4.out.1, HH.out, fun x hx => ?_⟩⟩, hFa.trans hF⟩
                                        obtain ⟨j, hj, rfl⟩ := List.getElem_of_mem hx
                                        exact HA.out j hj (by omega)
end Go.Proofs.YtiepopbmbgfhkaaGreat
