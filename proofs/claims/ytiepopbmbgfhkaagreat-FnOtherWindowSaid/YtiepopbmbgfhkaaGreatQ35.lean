/-
  Keys that are bound.
-/
import Derived.Test.YtiepopbmbgfhkaaGreatQ34
import Derived.Test.YtiepopbmbgfhkaaGreatQ17
namespace Go.Proofs.YtiepopbmbgfhkaaGreat
open Go.RowKit
open List renaming setIfInBounds_toArray → zq1, set_cons_zero → zq2, set_cons_succ → zq3
open Int renaming toNat_natCast → zq4, toNat_sub → zq5, toNat_zero → zq6
set_option maxHeartbeats 16000000
set_option maxRecDepth 20000
set_option linter.unusedVariables false
set_option linter.unusedSimpArgs false

/-- What a table's first entries make of a line. -/
def apB (tab : List (Int × (ByteArray → Nat → ByteArray × Nat))) (key : Int) (s : ByteArray × Nat) : ByteArray × Nat := tab.foldl (fun s e => if e.1 = key then e.2 s.1 s.2 else s) s
def comT : List (Int × (ByteArray → Nat → ByteArray × Nat)) := [(45, gEnd), (44, gStart), (46, gDel), (53, gBack), (38, gRight), (39, gLeft)]
def emaT : List (Int × (ByteArray → Nat → ByteArray × Nat)) := [(5, gEnd), (1, gStart), (11, gKill), (21, gKillB), (4, gDel), (8, gBack), (6, gRight), (2, gLeft), (23, gWord)]
/-- What is kept of a line: its signs, its size, its cursor. -/
def OkG (n : Nat) (s : ByteArray × Nat) : Prop := Prn s.1 ∧ s.1.size ≤ n ∧ s.2 ≤ s.1.size
theorem okCut {n i j k : Nat} {t : ByteArray} (h : Prn t) (hs : t.size ≤ n) (hk : k ≤ i) (hi : i ≤ t.size) (hij : i ≤ j) : OkG n (t.extract 0 i ++ t.extract j t.size, k) := by
  refine ⟨prn_append (h.extract _ _) (h.extract _ _), ?_, ?_⟩
  · show (t.extract 0 i ++ t.extract j t.size).size ≤ n
    rw [ByteArray.size_append]; simp; omega
  · show k ≤ (t.extract 0 i ++ t.extract j t.size).size
    rw [ByteArray.size_append]; simp; omega
theorem okG {n : Nat} {g : ByteArray → Nat → ByteArray × Nat} (hg : g ∈ [gEnd, gStart, gDel, gBack, gRight, gLeft, gKill, gKillB, gWord]) {s : ByteArray × Nat} (h : OkG n s) : OkG n (g s.1 s.2) := by
  obtain ⟨h1, h2, h3⟩ := h
  simp only [List.mem_cons, List.not_mem_nil, or_false] at hg
  rcases hg with rfl | rfl | rfl | rfl | rfl | rfl | rfl | rfl | rfl
  · exact ⟨h1, h2, by show s.2 + min (s.1.size - s.2) (s.1.size - s.2) ≤ s.1.size; omega⟩
  · exact ⟨h1, h2, by show s.2 - min s.2 s.2 ≤ s.1.size; omega⟩
  · exact okCut h1 h2 (Nat.le_refl _) h3 (by omega)
  · exact okCut h1 h2 (Nat.le_refl _) (by omega) (by omega)
  · exact ⟨h1, h2, by show s.2 + min 1 (s.1.size - s.2) ≤ s.1.size; omega⟩
  · exact ⟨h1, h2, by show s.2 - min 1 s.2 ≤ s.1.size; omega⟩
  · exact okCut h1 h2 (Nat.le_refl _) h3 (by omega)
  · exact okCut h1 h2 (Nat.le_refl _) (by omega) (by omega)
  · exact okCut h1 h2 (Nat.le_refl _) (by have := spaceAt_le s.1 s.2 h3; omega) (by omega)
theorem apB_ok {n : Nat} {key : Int} : ∀ (tab : List (Int × (ByteArray → Nat → ByteArray × Nat))) (s : ByteArray × Nat), (∀ e ∈ tab, e.2 ∈ [gEnd, gStart, gDel, gBack, gRight, gLeft, gKill, gKillB, gWord]) → OkG n s → OkG n (apB tab key s)
  | [], s, _, h => h
  | e :: tab, s, ht, h => by
    show OkG n (apB tab key (if e.1 = key then e.2 s.1 s.2 else s))
    refine apB_ok tab _ (fun x hx => ht x (by simp [hx])) ?_
    split
    · exact okG (ht e (by simp)) h
    · exact h
theorem apB_succ (tab : List (Int × (ByteArray → Nat → ByteArray × Nat))) (key : Int) (s : ByteArray × Nat) (i : Nat) (hi : i < tab.length) : apB (tab.take (i + 1)) key s = if tab[i].1 = key then tab[i].2 (apB (tab.take i) key s).1 (apB (tab.take i) key s).2 else apB (tab.take i) key s := by
  unfold apB
  rw [List.take_succ_eq_append_getElem hi, List.foldl_append]
  rfl
theorem com_mem : ∀ e ∈ comT, e.2 ∈ [gEnd, gStart, gDel, gBack, gRight, gLeft, gKill, gKillB, gWord] := by
  intro e he
  simp only [comT, List.mem_cons, List.not_mem_nil, or_false] at he
  rcases he with rfl | rfl | rfl | rfl | rfl | rfl <;> simp
theorem ema_mem : ∀ e ∈ emaT, e.2 ∈ [gEnd, gStart, gDel, gBack, gRight, gLeft, gKill, gKillB, gWord] := by
  intro e he
  simp only [emaT, List.mem_cons, List.not_mem_nil, or_false] at he
  rcases he with rfl | rfl | rfl | rfl | rfl | rfl | rfl | rfl | rfl <;> simp
def emacsM : ByteArray := ⟨#[101, 109, 97, 99, 115]⟩
/-- What a key does that is bound. -/
def bdF (mode : ByteArray) (key : Int) (s : ByteArray × Nat) : ByteArray × Nat := if (mode.toList == [101, 109, 97, 99, 115]) = true then apB emaT key (apB comT key s) else apB comT key s

theorem keepBlk {base : Nat} {w w1 : World} {b L x : Nat} {t : ByteArray} {k : Nat} {cs : Array Value} {ty : TypeId} (hB : Buf base w b L t k) (h : Blk w x cs ty) (h1 : ty ≠ 121) (h9 : ty ≠ 9) (hF : Fr base [] [b, L] w w1) : Blk w1 x cs ty := by
  obtain ⟨⟨csb, hb⟩, ⟨csl, hl⟩⟩ := hB.blk
  refine hF.blk h (.inr ⟨fun hm => ?_, by simp⟩)
  simp only [List.mem_cons, List.not_mem_nil, or_false] at hm
  rcases hm with rfl | rfl
  · exact h1 (h.inj hb).2
  · exact h9 (h.inj hl).2

theorem keyB_c {base : Nat} {w : World} {p b r lb h c o n L k cols : Nat} {pre t et : ByteArray} {mode : ByteArray} {down : Bool} {ex : Value} {key : Int} (H : Blk w p (prCells b r lb h c mode down ex) 96) (hR : Rn base w r o pre cols n) (hB : Buf base w b L t k) (hE : Exi w ex et)
    (ht : Prn t) (hs : t.size ≤ 1000000) (hk : k ≤ t.size) (h12 : key ≠ 12) :
    Calls Tryz.prog 92 #[.pointer (some ⟨p, 0, none⟩), .int .i64 key] w fun e w' => e = .returned (.bool false) ∧ Buf base w' b L (bdF mode key (t, k)).1 (bdF mode key (t, k)).2 ∧ Fr base [] [b, L] w w' := by
  have hok0 : OkG t.size (t, k) := ⟨ht, Nat.le_refl _, hk⟩
  obtain ⟨S0, hS0⟩ : ∃ S0, (t, k) = S0 := ⟨_, rfl⟩
  replace hB : Buf base w b L S0.1 S0.2 := by rw [← hS0]; exact hB
  rw [hS0] at hok0 ⊢
  clear hS0
  obtain ⟨pc, hpc, ⟨r0, -⟩, -⟩ := hR.ren
  obtain ⟨c0, c1, c2, c3, c4, c5, c6, c7, c8, c9, f0, hlt⟩ := prC H
  have q1 : ∀ w, (binOp .neq 81 .nilFunc .nilFunc).run Tryz.prog w = .ok (.bool false) w := fun w => by kernel_rfl
  have q2 : ∀ (f : Fn) (x y : Array Value) w, (binOp .neq 81 (.func f x y) .nilFunc).run Tryz.prog w = .ok (.bool true) w := fun f x y w => by kernel_rfl
  go_enter Tryz.func92, Tryz.ntmps92
  go_wp2_with (fail)
  have hS : (fun w' : World => w'.cell? ⟨p, 1, none⟩ = some (.pointer (some ⟨r, 0, none⟩)) ∧ w'.cell? ⟨r, 0, none⟩ = some (.iface 144 (.pointer (some ⟨o, 0, none⟩)))) w.drew := ⟨c1, r0⟩
  refine wp_region_plan [4, 7] [0, 8] (fun w' : World => w'.cell? ⟨p, 1, none⟩ = some (.pointer (some ⟨r, 0, none⟩)) ∧ w'.cell? ⟨r, 0, none⟩ = some (.iface 144 (.pointer (some ⟨o, 0, none⟩)))) (.pure 1 (.pure 2 (.pure 3 (.take 4 (.pure 5 (.pure 6 (.take 7 (.go 0 (.go 8 (.pure 9 (.pure 10 .done))))))))))) hmix (by kernel_rfl) ?_
  repeat (first | (refine plan_move rfl rfl rfl ?_; (try simp only [Act.put, zq1, zq2, zq3, zq4, zq5, zq6])) | (refine plan_pure (v := ?_) rfl rfl ?_ ?_; rotate_left; (intro w'; go_simp <;> with_reducible rfl); (try simp only [Act.put, zq1, zq2, zq3, zq4, zq5, zq6])) | (refine plan_take (v := ?_) rfl hS rfl ?_ ?_; rotate_left; (intro w' hSw; (try dsimp only at hSw); go_simp <;> with_reducible rfl); (try simp only [Act.put, zq1, zq2, zq3, zq4, zq5, zq6])))
  refine plan_goS rfl rfl (fun K hK => ?_)
  go_simp; refine (common_c _).mono ?_; rintro e w1 ⟨⟨T1, rfl, hT1⟩, hF1⟩; refine hK _ _ ⟨hF1.cell0 hS.1, hF1.cell0 hS.2⟩ ?_; clear hK K; (try simp only [Act.put, zq1, zq2, zq3, zq4, zq5, zq6])
  refine plan_go rfl (by kernel_rfl) rfl (fun K hK => ?_)
  go_simp; refine (emacs_c _ o).mono ?_; rintro e w2 ⟨⟨T2, x2, rfl, hT2⟩, hF2⟩; refine hK _ _ ?_; clear hK K; (try simp only [Act.put, zq1, zq2, zq3, zq4, zq5, zq6])
  repeat (first | (refine plan_pure (v := ?_) rfl rfl ?_ ?_; rotate_left; (intro w'; go_simp <;> with_reducible rfl); (try simp only [Act.put, zq1, zq2, zq3, zq4, zq5, zq6])))
  refine plan_done ?_
  have hT1' := hF2.blk0 hT1
  have hFw : Fr 0 [] [] w w2 := ((Fr.refl 0 [] [] w).drew.ext hF1).ext hF2
  have hB0 := hFw.buf0 hB
  have hP0 := hFw.blk0 H
  have hF0 : Fr base [] [b, L] w w2 := hFw.any
  clear hT1 hF1 hF2 hFw hS c0 c1 c2 c3 c4 c5 c6 c7 c8 c9 f0 hlt r0
  go_wp2_with (fail)
  go_loopw [25] (fun v25 w' => ∃ i : Nat, i ≤ 6 ∧ v25 = .int .i64 i ∧ Buf base w' b L (apB (comT.take i) key S0).1 (apB (comT.take i) key S0).2 ∧ Blk w' p (prCells b r lb h c mode down ex) 96 ∧ Blk w' T1 commonCells 183 ∧ Blk w' T2 (emacsCells x2) 183 ∧ Fr base [] [b, L] w w') (fun v25 _ => 6 - (intOf v25).toNat)
  case atStart => exact ⟨0, by omega, rfl, hB0, hP0, hT1', hT2, hF0⟩
  clear hB0 hP0 hT1' hT2 hF0
  obtain ⟨i, hi, rfl, hBi, hPi, hT1, hT2, hFi⟩ := hrel
  have hok := apB_ok (key := key) (comT.take i) S0 (fun e he => com_mem e (List.mem_of_mem_take he)) hok0
  rcases i with _ | _ | _ | _ | _ | _ | i
  · have n1 : wr.cell? ⟨T1, 0, none⟩ = some (.int .i64 45) := hT1.cell 0
    have n2 : wr.cell? ⟨T1, 1, none⟩ = some (.func (.func 147) #[] #[]) := hT1.cell 1
    have tl := hT1.lt
    have hpb := hPi.lt
    have hp0 : wr.cell? ⟨p, 0, none⟩ = some (.pointer (some ⟨b, 0, none⟩)) := (prC hPi).c0
    have hA : Fr 0 [] [] wr (wr.alloc (.cells #[.int .i64 45, .func (.func 147) #[] #[]] 183)) := (Fr.refl 0 [] [] wr).alloc _
    by_cases hkey : key = 45
    · have n4 : ((45 : Int) == key) = true := by rw [hkey]; rfl
      have hst : apB (comT.take 1) key S0 = gEnd (apB (comT.take 0) key S0).1 (apB (comT.take 0) key S0).2 := by
        rw [apB_succ comT _ _ 0 (by decide)]; exact if_pos hkey.symm
      have HST := Lib.hid hst
      clear hst hkey
      obtain ⟨Q, hQ⟩ : ∃ Q, wr.heap.size = Q := ⟨_, rfl⟩
      rw [hQ] at tl hpb
      have hq : Blk (wr.alloc (.cells #[.int .i64 45, .func (.func 147) #[] #[]] 183)) Q #[.int .i64 45, .func (.func 147) #[] #[]] 183 := Blk.new' hQ.symm _ _
      go_wp2_with (fail)
      have hS : (fun w' : World => w'.cell? ⟨Q, 1, none⟩ = some (.func (.func 147) #[] #[]) ∧ w'.cell? ⟨p, 0, none⟩ = some (.pointer (some ⟨b, 0, none⟩))) (wr.alloc (.cells #[.int .i64 45, .func (.func 147) #[] #[]] 183)).drew := ⟨hq.cell 1, hA.cell0 hp0⟩
      refine wp_region_plan [1, 5] [6] (fun w' : World => w'.cell? ⟨Q, 1, none⟩ = some (.func (.func 147) #[] #[]) ∧ w'.cell? ⟨p, 0, none⟩ = some (.pointer (some ⟨b, 0, none⟩))) (.pure 0 (.take 1 (.pure 2 (.pure 3 (.pure 4 (.take 5 (.go 6 .done))))))) hmix (by kernel_rfl) ?_
      repeat (first | (refine plan_move rfl rfl rfl ?_; (try simp only [Act.put, zq1, zq2, zq3, zq4, zq5, zq6])) | (refine plan_pure (v := ?_) rfl rfl ?_ ?_; rotate_left; (intro w'; go_simp <;> with_reducible rfl); (try simp only [Act.put, zq1, zq2, zq3, zq4, zq5, zq6])) | (refine plan_take (v := ?_) rfl hS rfl ?_ ?_; rotate_left; (intro w' hSw; (try dsimp only at hSw); go_simp <;> with_reducible rfl); (try simp only [Act.put, zq1, zq2, zq3, zq4, zq5, zq6])))
      refine plan_go rfl (by kernel_rfl) rfl (fun K hK => ?_)
      go_simp; refine (kf147 base _ b L _ _ (hA.drew.buf0 hBi) hok.1 (Nat.le_trans hok.2.1 hs) hok.2.2).mono ?_; rintro e w8 ⟨rfl, hB8, hF8⟩; refine hK _ _ ?_; clear hK K; (try simp only [Act.put, zq1, zq2, zq3, zq4, zq5, zq6])
      refine plan_done ?_
      have hP8 := keepBlk (hA.drew.buf0 hBi) (hA.drew.blk0 hPi) (by decide) (by decide) hF8
      have hT18 := keepBlk (hA.drew.buf0 hBi) (hA.drew.blk0 hT1) (by decide) (by decide) hF8
      have hT28 := keepBlk (hA.drew.buf0 hBi) (hA.drew.blk0 hT2) (by decide) (by decide) hF8
      have hF08 := (hFi.ext hA.drew).trans hF8
      go_wp2_with (fail)
      go_roundw
      case rel => first | exact ⟨1, by omega, rfl, (by rw [HST.out]; exact hB8), hP8, hT18, hT28, hF08⟩ | exact ⟨_, _, _, ⟨1, by omega, rfl, by rw [HST.out]; exact hB8⟩, rfl, rfl, rfl⟩ | exact ⟨_, _, _, ⟨1, by omega, rfl, (by rw [HST.out]; exact hB8), hP8, hT18, hT28, hF08⟩, rfl, rfl, rfl⟩
      case measure => simp [intOf]
    · obtain ⟨n4, -⟩ := int_ne (fun e : (45 : Int) = key => hkey e.symm)
      have hst : apB (comT.take 1) key S0 = apB (comT.take 0) key S0 := by
        rw [apB_succ comT _ _ 0 (by decide)]; exact if_neg (fun e => hkey e.symm)
      have HST := Lib.hid hst
      clear hst hkey
      go_wp2_with (fail)
      go_roundw
      case rel => exact ⟨1, by omega, rfl, by rw [HST.out]; exact hA.buf0 hBi, hA.blk0 hPi, hA.blk0 hT1, hA.blk0 hT2, hFi.ext hA⟩
      case measure => simp [intOf]
  · have n1 : wr.cell? ⟨T1, 2, none⟩ = some (.int .i64 44) := hT1.cell 2
    have n2 : wr.cell? ⟨T1, 3, none⟩ = some (.func (.func 148) #[] #[]) := hT1.cell 3
    have tl := hT1.lt
    have hpb := hPi.lt
    have hp0 : wr.cell? ⟨p, 0, none⟩ = some (.pointer (some ⟨b, 0, none⟩)) := (prC hPi).c0
    have hA : Fr 0 [] [] wr (wr.alloc (.cells #[.int .i64 44, .func (.func 148) #[] #[]] 183)) := (Fr.refl 0 [] [] wr).alloc _
    by_cases hkey : key = 44
    · have n4 : ((44 : Int) == key) = true := by rw [hkey]; rfl
      have hst : apB (comT.take 2) key S0 = gStart (apB (comT.take 1) key S0).1 (apB (comT.take 1) key S0).2 := by
        rw [apB_succ comT _ _ 1 (by decide)]; exact if_pos hkey.symm
      have HST := Lib.hid hst
      clear hst hkey
      obtain ⟨Q, hQ⟩ : ∃ Q, wr.heap.size = Q := ⟨_, rfl⟩
      rw [hQ] at tl hpb
      have hq : Blk (wr.alloc (.cells #[.int .i64 44, .func (.func 148) #[] #[]] 183)) Q #[.int .i64 44, .func (.func 148) #[] #[]] 183 := Blk.new' hQ.symm _ _
      go_wp2_with (fail)
      have hS : (fun w' : World => w'.cell? ⟨Q, 1, none⟩ = some (.func (.func 148) #[] #[]) ∧ w'.cell? ⟨p, 0, none⟩ = some (.pointer (some ⟨b, 0, none⟩))) (wr.alloc (.cells #[.int .i64 44, .func (.func 148) #[] #[]] 183)).drew := ⟨hq.cell 1, hA.cell0 hp0⟩
      refine wp_region_plan [1, 5] [6] (fun w' : World => w'.cell? ⟨Q, 1, none⟩ = some (.func (.func 148) #[] #[]) ∧ w'.cell? ⟨p, 0, none⟩ = some (.pointer (some ⟨b, 0, none⟩))) (.pure 0 (.take 1 (.pure 2 (.pure 3 (.pure 4 (.take 5 (.go 6 .done))))))) hmix (by kernel_rfl) ?_
      repeat (first | (refine plan_move rfl rfl rfl ?_; (try simp only [Act.put, zq1, zq2, zq3, zq4, zq5, zq6])) | (refine plan_pure (v := ?_) rfl rfl ?_ ?_; rotate_left; (intro w'; go_simp <;> with_reducible rfl); (try simp only [Act.put, zq1, zq2, zq3, zq4, zq5, zq6])) | (refine plan_take (v := ?_) rfl hS rfl ?_ ?_; rotate_left; (intro w' hSw; (try dsimp only at hSw); go_simp <;> with_reducible rfl); (try simp only [Act.put, zq1, zq2, zq3, zq4, zq5, zq6])))
      refine plan_go rfl (by kernel_rfl) rfl (fun K hK => ?_)
      go_simp; refine (kf148 base _ b L _ _ (hA.drew.buf0 hBi) hok.1 (Nat.le_trans hok.2.1 hs) hok.2.2).mono ?_; rintro e w8 ⟨rfl, hB8, hF8⟩; refine hK _ _ ?_; clear hK K; (try simp only [Act.put, zq1, zq2, zq3, zq4, zq5, zq6])
      refine plan_done ?_
      have hP8 := keepBlk (hA.drew.buf0 hBi) (hA.drew.blk0 hPi) (by decide) (by decide) hF8
      have hT18 := keepBlk (hA.drew.buf0 hBi) (hA.drew.blk0 hT1) (by decide) (by decide) hF8
      have hT28 := keepBlk (hA.drew.buf0 hBi) (hA.drew.blk0 hT2) (by decide) (by decide) hF8
      have hF08 := (hFi.ext hA.drew).trans hF8
      go_wp2_with (fail)
      go_roundw
      case rel => first | exact ⟨2, by omega, rfl, (by rw [HST.out]; exact hB8), hP8, hT18, hT28, hF08⟩ | exact ⟨_, _, _, ⟨2, by omega, rfl, by rw [HST.out]; exact hB8⟩, rfl, rfl, rfl⟩ | exact ⟨_, _, _, ⟨2, by omega, rfl, (by rw [HST.out]; exact hB8), hP8, hT18, hT28, hF08⟩, rfl, rfl, rfl⟩
      case measure => simp [intOf]
    · obtain ⟨n4, -⟩ := int_ne (fun e : (44 : Int) = key => hkey e.symm)
      have hst : apB (comT.take 2) key S0 = apB (comT.take 1) key S0 := by
        rw [apB_succ comT _ _ 1 (by decide)]; exact if_neg (fun e => hkey e.symm)
      have HST := Lib.hid hst
      clear hst hkey
      go_wp2_with (fail)
      go_roundw
      case rel => exact ⟨2, by omega, rfl, by rw [HST.out]; exact hA.buf0 hBi, hA.blk0 hPi, hA.blk0 hT1, hA.blk0 hT2, hFi.ext hA⟩
      case measure => simp [intOf]
  · have n1 : wr.cell? ⟨T1, 4, none⟩ = some (.int .i64 46) := hT1.cell 4
    have n2 : wr.cell? ⟨T1, 5, none⟩ = some (.func (.func 149) #[] #[]) := hT1.cell 5
    have tl := hT1.lt
    have hpb := hPi.lt
    have hp0 : wr.cell? ⟨p, 0, none⟩ = some (.pointer (some ⟨b, 0, none⟩)) := (prC hPi).c0
    have hA : Fr 0 [] [] wr (wr.alloc (.cells #[.int .i64 46, .func (.func 149) #[] #[]] 183)) := (Fr.refl 0 [] [] wr).alloc _
    by_cases hkey : key = 46
    · have n4 : ((46 : Int) == key) = true := by rw [hkey]; rfl
      have hst : apB (comT.take 3) key S0 = gDel (apB (comT.take 2) key S0).1 (apB (comT.take 2) key S0).2 := by
        rw [apB_succ comT _ _ 2 (by decide)]; exact if_pos hkey.symm
      have HST := Lib.hid hst
      clear hst hkey
      obtain ⟨Q, hQ⟩ : ∃ Q, wr.heap.size = Q := ⟨_, rfl⟩
      rw [hQ] at tl hpb
      have hq : Blk (wr.alloc (.cells #[.int .i64 46, .func (.func 149) #[] #[]] 183)) Q #[.int .i64 46, .func (.func 149) #[] #[]] 183 := Blk.new' hQ.symm _ _
      go_wp2_with (fail)
      have hS : (fun w' : World => w'.cell? ⟨Q, 1, none⟩ = some (.func (.func 149) #[] #[]) ∧ w'.cell? ⟨p, 0, none⟩ = some (.pointer (some ⟨b, 0, none⟩))) (wr.alloc (.cells #[.int .i64 46, .func (.func 149) #[] #[]] 183)).drew := ⟨hq.cell 1, hA.cell0 hp0⟩
      refine wp_region_plan [1, 5] [6] (fun w' : World => w'.cell? ⟨Q, 1, none⟩ = some (.func (.func 149) #[] #[]) ∧ w'.cell? ⟨p, 0, none⟩ = some (.pointer (some ⟨b, 0, none⟩))) (.pure 0 (.take 1 (.pure 2 (.pure 3 (.pure 4 (.take 5 (.go 6 .done))))))) hmix (by kernel_rfl) ?_
      repeat (first | (refine plan_move rfl rfl rfl ?_; (try simp only [Act.put, zq1, zq2, zq3, zq4, zq5, zq6])) | (refine plan_pure (v := ?_) rfl rfl ?_ ?_; rotate_left; (intro w'; go_simp <;> with_reducible rfl); (try simp only [Act.put, zq1, zq2, zq3, zq4, zq5, zq6])) | (refine plan_take (v := ?_) rfl hS rfl ?_ ?_; rotate_left; (intro w' hSw; (try dsimp only at hSw); go_simp <;> with_reducible rfl); (try simp only [Act.put, zq1, zq2, zq3, zq4, zq5, zq6])))
      refine plan_go rfl (by kernel_rfl) rfl (fun K hK => ?_)
      go_simp; refine (kf149 base _ b L _ _ (hA.drew.buf0 hBi) hok.1 (Nat.le_trans hok.2.1 hs) hok.2.2).mono ?_; rintro e w8 ⟨rfl, hB8, hF8⟩; refine hK _ _ ?_; clear hK K; (try simp only [Act.put, zq1, zq2, zq3, zq4, zq5, zq6])
      refine plan_done ?_
      have hP8 := keepBlk (hA.drew.buf0 hBi) (hA.drew.blk0 hPi) (by decide) (by decide) hF8
      have hT18 := keepBlk (hA.drew.buf0 hBi) (hA.drew.blk0 hT1) (by decide) (by decide) hF8
      have hT28 := keepBlk (hA.drew.buf0 hBi) (hA.drew.blk0 hT2) (by decide) (by decide) hF8
      have hF08 := (hFi.ext hA.drew).trans hF8
      go_wp2_with (fail)
      go_roundw
      case rel => first | exact ⟨3, by omega, rfl, (by rw [HST.out]; exact hB8), hP8, hT18, hT28, hF08⟩ | exact ⟨_, _, _, ⟨3, by omega, rfl, by rw [HST.out]; exact hB8⟩, rfl, rfl, rfl⟩ | exact ⟨_, _, _, ⟨3, by omega, rfl, (by rw [HST.out]; exact hB8), hP8, hT18, hT28, hF08⟩, rfl, rfl, rfl⟩
      case measure => simp [intOf]
    · obtain ⟨n4, -⟩ := int_ne (fun e : (46 : Int) = key => hkey e.symm)
      have hst : apB (comT.take 3) key S0 = apB (comT.take 2) key S0 := by
        rw [apB_succ comT _ _ 2 (by decide)]; exact if_neg (fun e => hkey e.symm)
      have HST := Lib.hid hst
      clear hst hkey
      go_wp2_with (fail)
      go_roundw
      case rel => exact ⟨3, by omega, rfl, by rw [HST.out]; exact hA.buf0 hBi, hA.blk0 hPi, hA.blk0 hT1, hA.blk0 hT2, hFi.ext hA⟩
      case measure => simp [intOf]
  · have n1 : wr.cell? ⟨T1, 6, none⟩ = some (.int .i64 53) := hT1.cell 6
    have n2 : wr.cell? ⟨T1, 7, none⟩ = some (.func (.func 150) #[] #[]) := hT1.cell 7
    have tl := hT1.lt
    have hpb := hPi.lt
    have hp0 : wr.cell? ⟨p, 0, none⟩ = some (.pointer (some ⟨b, 0, none⟩)) := (prC hPi).c0
    have hA : Fr 0 [] [] wr (wr.alloc (.cells #[.int .i64 53, .func (.func 150) #[] #[]] 183)) := (Fr.refl 0 [] [] wr).alloc _
    by_cases hkey : key = 53
    · have n4 : ((53 : Int) == key) = true := by rw [hkey]; rfl
      have hst : apB (comT.take 4) key S0 = gBack (apB (comT.take 3) key S0).1 (apB (comT.take 3) key S0).2 := by
        rw [apB_succ comT _ _ 3 (by decide)]; exact if_pos hkey.symm
      have HST := Lib.hid hst
      clear hst hkey
      obtain ⟨Q, hQ⟩ : ∃ Q, wr.heap.size = Q := ⟨_, rfl⟩
      rw [hQ] at tl hpb
      have hq : Blk (wr.alloc (.cells #[.int .i64 53, .func (.func 150) #[] #[]] 183)) Q #[.int .i64 53, .func (.func 150) #[] #[]] 183 := Blk.new' hQ.symm _ _
      go_wp2_with (fail)
      have hS : (fun w' : World => w'.cell? ⟨Q, 1, none⟩ = some (.func (.func 150) #[] #[]) ∧ w'.cell? ⟨p, 0, none⟩ = some (.pointer (some ⟨b, 0, none⟩))) (wr.alloc (.cells #[.int .i64 53, .func (.func 150) #[] #[]] 183)).drew := ⟨hq.cell 1, hA.cell0 hp0⟩
      refine wp_region_plan [1, 5] [6] (fun w' : World => w'.cell? ⟨Q, 1, none⟩ = some (.func (.func 150) #[] #[]) ∧ w'.cell? ⟨p, 0, none⟩ = some (.pointer (some ⟨b, 0, none⟩))) (.pure 0 (.take 1 (.pure 2 (.pure 3 (.pure 4 (.take 5 (.go 6 .done))))))) hmix (by kernel_rfl) ?_
      repeat (first | (refine plan_move rfl rfl rfl ?_; (try simp only [Act.put, zq1, zq2, zq3, zq4, zq5, zq6])) | (refine plan_pure (v := ?_) rfl rfl ?_ ?_; rotate_left; (intro w'; go_simp <;> with_reducible rfl); (try simp only [Act.put, zq1, zq2, zq3, zq4, zq5, zq6])) | (refine plan_take (v := ?_) rfl hS rfl ?_ ?_; rotate_left; (intro w' hSw; (try dsimp only at hSw); go_simp <;> with_reducible rfl); (try simp only [Act.put, zq1, zq2, zq3, zq4, zq5, zq6])))
      refine plan_go rfl (by kernel_rfl) rfl (fun K hK => ?_)
      go_simp; refine (kf150 base _ b L _ _ (hA.drew.buf0 hBi) hok.1 (Nat.le_trans hok.2.1 hs) hok.2.2).mono ?_; rintro e w8 ⟨rfl, hB8, hF8⟩; refine hK _ _ ?_; clear hK K; (try simp only [Act.put, zq1, zq2, zq3, zq4, zq5, zq6])
      refine plan_done ?_
      have hP8 := keepBlk (hA.drew.buf0 hBi) (hA.drew.blk0 hPi) (by decide) (by decide) hF8
      have hT18 := keepBlk (hA.drew.buf0 hBi) (hA.drew.blk0 hT1) (by decide) (by decide) hF8
      have hT28 := keepBlk (hA.drew.buf0 hBi) (hA.drew.blk0 hT2) (by decide) (by decide) hF8
      have hF08 := (hFi.ext hA.drew).trans hF8
      go_wp2_with (fail)
      go_roundw
      case rel => first | exact ⟨4, by omega, rfl, (by rw [HST.out]; exact hB8), hP8, hT18, hT28, hF08⟩ | exact ⟨_, _, _, ⟨4, by omega, rfl, by rw [HST.out]; exact hB8⟩, rfl, rfl, rfl⟩ | exact ⟨_, _, _, ⟨4, by omega, rfl, (by rw [HST.out]; exact hB8), hP8, hT18, hT28, hF08⟩, rfl, rfl, rfl⟩
      case measure => simp [intOf]
    · obtain ⟨n4, -⟩ := int_ne (fun e : (53 : Int) = key => hkey e.symm)
      have hst : apB (comT.take 4) key S0 = apB (comT.take 3) key S0 := by
        rw [apB_succ comT _ _ 3 (by decide)]; exact if_neg (fun e => hkey e.symm)
      have HST := Lib.hid hst
      clear hst hkey
      go_wp2_with (fail)
      go_roundw
      case rel => exact ⟨4, by omega, rfl, by rw [HST.out]; exact hA.buf0 hBi, hA.blk0 hPi, hA.blk0 hT1, hA.blk0 hT2, hFi.ext hA⟩
      case measure => simp [intOf]
  · have n1 : wr.cell? ⟨T1, 8, none⟩ = some (.int .i64 38) := hT1.cell 8
    have n2 : wr.cell? ⟨T1, 9, none⟩ = some (.func (.func 151) #[] #[]) := hT1.cell 9
    have tl := hT1.lt
    have hpb := hPi.lt
    have hp0 : wr.cell? ⟨p, 0, none⟩ = some (.pointer (some ⟨b, 0, none⟩)) := (prC hPi).c0
    have hA : Fr 0 [] [] wr (wr.alloc (.cells #[.int .i64 38, .func (.func 151) #[] #[]] 183)) := (Fr.refl 0 [] [] wr).alloc _
    by_cases hkey : key = 38
    · have n4 : ((38 : Int) == key) = true := by rw [hkey]; rfl
      have hst : apB (comT.take 5) key S0 = gRight (apB (comT.take 4) key S0).1 (apB (comT.take 4) key S0).2 := by
        rw [apB_succ comT _ _ 4 (by decide)]; exact if_pos hkey.symm
      have HST := Lib.hid hst
      clear hst hkey
      obtain ⟨Q, hQ⟩ : ∃ Q, wr.heap.size = Q := ⟨_, rfl⟩
      rw [hQ] at tl hpb
      have hq : Blk (wr.alloc (.cells #[.int .i64 38, .func (.func 151) #[] #[]] 183)) Q #[.int .i64 38, .func (.func 151) #[] #[]] 183 := Blk.new' hQ.symm _ _
      go_wp2_with (fail)
      have hS : (fun w' : World => w'.cell? ⟨Q, 1, none⟩ = some (.func (.func 151) #[] #[]) ∧ w'.cell? ⟨p, 0, none⟩ = some (.pointer (some ⟨b, 0, none⟩))) (wr.alloc (.cells #[.int .i64 38, .func (.func 151) #[] #[]] 183)).drew := ⟨hq.cell 1, hA.cell0 hp0⟩
      refine wp_region_plan [1, 5] [6] (fun w' : World => w'.cell? ⟨Q, 1, none⟩ = some (.func (.func 151) #[] #[]) ∧ w'.cell? ⟨p, 0, none⟩ = some (.pointer (some ⟨b, 0, none⟩))) (.pure 0 (.take 1 (.pure 2 (.pure 3 (.pure 4 (.take 5 (.go 6 .done))))))) hmix (by kernel_rfl) ?_
      repeat (first | (refine plan_move rfl rfl rfl ?_; (try simp only [Act.put, zq1, zq2, zq3, zq4, zq5, zq6])) | (refine plan_pure (v := ?_) rfl rfl ?_ ?_; rotate_left; (intro w'; go_simp <;> with_reducible rfl); (try simp only [Act.put, zq1, zq2, zq3, zq4, zq5, zq6])) | (refine plan_take (v := ?_) rfl hS rfl ?_ ?_; rotate_left; (intro w' hSw; (try dsimp only at hSw); go_simp <;> with_reducible rfl); (try simp only [Act.put, zq1, zq2, zq3, zq4, zq5, zq6])))
      refine plan_go rfl (by kernel_rfl) rfl (fun K hK => ?_)
      go_simp; refine (kf151 base _ b L _ _ (hA.drew.buf0 hBi) hok.1 (Nat.le_trans hok.2.1 hs) hok.2.2).mono ?_; rintro e w8 ⟨rfl, hB8, hF8⟩; refine hK _ _ ?_; clear hK K; (try simp only [Act.put, zq1, zq2, zq3, zq4, zq5, zq6])
      refine plan_done ?_
      have hP8 := keepBlk (hA.drew.buf0 hBi) (hA.drew.blk0 hPi) (by decide) (by decide) hF8
      have hT18 := keepBlk (hA.drew.buf0 hBi) (hA.drew.blk0 hT1) (by decide) (by decide) hF8
      have hT28 := keepBlk (hA.drew.buf0 hBi) (hA.drew.blk0 hT2) (by decide) (by decide) hF8
      have hF08 := (hFi.ext hA.drew).trans hF8
      go_wp2_with (fail)
      go_roundw
      case rel => first | exact ⟨5, by omega, rfl, (by rw [HST.out]; exact hB8), hP8, hT18, hT28, hF08⟩ | exact ⟨_, _, _, ⟨5, by omega, rfl, by rw [HST.out]; exact hB8⟩, rfl, rfl, rfl⟩ | exact ⟨_, _, _, ⟨5, by omega, rfl, (by rw [HST.out]; exact hB8), hP8, hT18, hT28, hF08⟩, rfl, rfl, rfl⟩
      case measure => simp [intOf]
    · obtain ⟨n4, -⟩ := int_ne (fun e : (38 : Int) = key => hkey e.symm)
      have hst : apB (comT.take 5) key S0 = apB (comT.take 4) key S0 := by
        rw [apB_succ comT _ _ 4 (by decide)]; exact if_neg (fun e => hkey e.symm)
      have HST := Lib.hid hst
      clear hst hkey
      go_wp2_with (fail)
      go_roundw
      case rel => exact ⟨5, by omega, rfl, by rw [HST.out]; exact hA.buf0 hBi, hA.blk0 hPi, hA.blk0 hT1, hA.blk0 hT2, hFi.ext hA⟩
      case measure => simp [intOf]
  · have n1 : wr.cell? ⟨T1, 10, none⟩ = some (.int .i64 39) := hT1.cell 10
    have n2 : wr.cell? ⟨T1, 11, none⟩ = some (.func (.func 152) #[] #[]) := hT1.cell 11
    have tl := hT1.lt
    have hpb := hPi.lt
    have hp0 : wr.cell? ⟨p, 0, none⟩ = some (.pointer (some ⟨b, 0, none⟩)) := (prC hPi).c0
    have hA : Fr 0 [] [] wr (wr.alloc (.cells #[.int .i64 39, .func (.func 152) #[] #[]] 183)) := (Fr.refl 0 [] [] wr).alloc _
    by_cases hkey : key = 39
    · have n4 : ((39 : Int) == key) = true := by rw [hkey]; rfl
      have hst : apB (comT.take 6) key S0 = gLeft (apB (comT.take 5) key S0).1 (apB (comT.take 5) key S0).2 := by
        rw [apB_succ comT _ _ 5 (by decide)]; exact if_pos hkey.symm
      have HST := Lib.hid hst
      clear hst hkey
      obtain ⟨Q, hQ⟩ : ∃ Q, wr.heap.size = Q := ⟨_, rfl⟩
      rw [hQ] at tl hpb
      have hq : Blk (wr.alloc (.cells #[.int .i64 39, .func (.func 152) #[] #[]] 183)) Q #[.int .i64 39, .func (.func 152) #[] #[]] 183 := Blk.new' hQ.symm _ _
      go_wp2_with (fail)
      have hS : (fun w' : World => w'.cell? ⟨Q, 1, none⟩ = some (.func (.func 152) #[] #[]) ∧ w'.cell? ⟨p, 0, none⟩ = some (.pointer (some ⟨b, 0, none⟩))) (wr.alloc (.cells #[.int .i64 39, .func (.func 152) #[] #[]] 183)).drew := ⟨hq.cell 1, hA.cell0 hp0⟩
      refine wp_region_plan [1, 5] [6] (fun w' : World => w'.cell? ⟨Q, 1, none⟩ = some (.func (.func 152) #[] #[]) ∧ w'.cell? ⟨p, 0, none⟩ = some (.pointer (some ⟨b, 0, none⟩))) (.pure 0 (.take 1 (.pure 2 (.pure 3 (.pure 4 (.take 5 (.go 6 .done))))))) hmix (by kernel_rfl) ?_
      repeat (first | (refine plan_move rfl rfl rfl ?_; (try simp only [Act.put, zq1, zq2, zq3, zq4, zq5, zq6])) | (refine plan_pure (v := ?_) rfl rfl ?_ ?_; rotate_left; (intro w'; go_simp <;> with_reducible rfl); (try simp only [Act.put, zq1, zq2, zq3, zq4, zq5, zq6])) | (refine plan_take (v := ?_) rfl hS rfl ?_ ?_; rotate_left; (intro w' hSw; (try dsimp only at hSw); go_simp <;> with_reducible rfl); (try simp only [Act.put, zq1, zq2, zq3, zq4, zq5, zq6])))
      refine plan_go rfl (by kernel_rfl) rfl (fun K hK => ?_)
      go_simp; refine (kf152 base _ b L _ _ (hA.drew.buf0 hBi) hok.1 (Nat.le_trans hok.2.1 hs) hok.2.2).mono ?_; rintro e w8 ⟨rfl, hB8, hF8⟩; refine hK _ _ ?_; clear hK K; (try simp only [Act.put, zq1, zq2, zq3, zq4, zq5, zq6])
      refine plan_done ?_
      have hP8 := keepBlk (hA.drew.buf0 hBi) (hA.drew.blk0 hPi) (by decide) (by decide) hF8
      have hT18 := keepBlk (hA.drew.buf0 hBi) (hA.drew.blk0 hT1) (by decide) (by decide) hF8
      have hT28 := keepBlk (hA.drew.buf0 hBi) (hA.drew.blk0 hT2) (by decide) (by decide) hF8
      have hF08 := (hFi.ext hA.drew).trans hF8
      go_wp2_with (fail)
      go_roundw
      case rel => first | exact ⟨6, by omega, rfl, (by rw [HST.out]; exact hB8), hP8, hT18, hT28, hF08⟩ | exact ⟨_, _, _, ⟨6, by omega, rfl, by rw [HST.out]; exact hB8⟩, rfl, rfl, rfl⟩ | exact ⟨_, _, _, ⟨6, by omega, rfl, (by rw [HST.out]; exact hB8), hP8, hT18, hT28, hF08⟩, rfl, rfl, rfl⟩
      case measure => simp [intOf]
    · obtain ⟨n4, -⟩ := int_ne (fun e : (39 : Int) = key => hkey e.symm)
      have hst : apB (comT.take 6) key S0 = apB (comT.take 5) key S0 := by
        rw [apB_succ comT _ _ 5 (by decide)]; exact if_neg (fun e => hkey e.symm)
      have HST := Lib.hid hst
      clear hst hkey
      go_wp2_with (fail)
      go_roundw
      case rel => exact ⟨6, by omega, rfl, by rw [HST.out]; exact hA.buf0 hBi, hA.blk0 hPi, hA.blk0 hT1, hA.blk0 hT2, hFi.ext hA⟩
      case measure => simp [intOf]
  · have e : i = 0 := by omega
    subst e
    have e6 : comT.take 6 = comT := rfl
    obtain ⟨c0, c1, c2, c3, c4, c5, c6, c7, c8, c9, f0, hlt⟩ := prC hPi
    cases hmd : (mode.toList == [101, 109, 97, 99, 115]) with
    | false =>
      have HBD := Lib.hid (show bdF mode key S0 = apB (comT.take 6) key S0 by unfold bdF; rw [hmd, e6]; rfl)
      clear e6
      obtain ⟨c0, c1, c2, c3, c4, c5, c6, c7, c8, c9, f0, hlt⟩ := prC hPi
      go_wp2_with (fail)
      go_loopw [75] (fun v75 w' => v75 = .int .i64 0 ∧ w' = wr) (fun _ _ => 0)
      case atStart => exact ⟨rfl, rfl⟩
      obtain ⟨rfl, rfl⟩ := hrel
      rcases hE with ⟨rfl, -⟩ | ⟨sb, cs, rfl, hSB, h10, hne⟩
      · go_wp2_with (fail)
        have hS : (fun w' : World => w'.cell? ⟨p, 9, none⟩ = some (.nilFunc) ∧ w'.cell? ⟨p, 0, none⟩ = some (.pointer (some ⟨b, 0, none⟩))) wr.drew := ⟨c9, c0⟩
        refine wp_region_plan [3, 9, 13] [14, 15] (fun w' : World => w'.cell? ⟨p, 9, none⟩ = some (.nilFunc) ∧ w'.cell? ⟨p, 0, none⟩ = some (.pointer (some ⟨b, 0, none⟩))) (.pure 0 (.pure 1 (.pure 2 (.take 3 (.pure 4 (.pure 5 (.pure 6 (.pure 7 (.pure 8 (.take 9 (.pure 10 (.pure 11 (.pure 12 (.take 13 (.go 14 (.go 15 (.pure 16 .done))))))))))))))))) hmix (by kernel_rfl) ?_
        repeat (first | (refine plan_move rfl rfl rfl ?_; (try simp only [Act.put, zq1, zq2, zq3, zq4, zq5, zq6])) | (refine plan_skipP rfl rfl ?_; (try simp only [Act.put, zq1, zq2, zq3, zq4, zq5, zq6])) | (refine plan_skip rfl hS rfl ?_; (try simp only [Act.put, zq1, zq2, zq3, zq4, zq5, zq6])) | (refine plan_pure (v := ?_) rfl rfl ?_ ?_; rotate_left; (intro w'; go_simp <;> with_reducible rfl); (try simp only [Act.put, zq1, zq2, zq3, zq4, zq5, zq6])) | (refine plan_take (v := ?_) rfl hS rfl ?_ ?_; rotate_left; (intro w' hSw; (try dsimp only at hSw); go_simp <;> with_reducible rfl); (try simp only [Act.put, zq1, zq2, zq3, zq4, zq5, zq6])))
        refine plan_goSkip rfl rfl (fun _ => hS) ?_; (try simp only [Act.put, zq1, zq2, zq3, zq4, zq5, zq6])
        refine plan_goSkip rfl rfl (fun _ => hS) ?_; (try simp only [Act.put, zq1, zq2, zq3, zq4, zq5, zq6])
        refine plan_pure (v := ?_) rfl rfl ?_ ?_; rotate_left; (intro w'; go_simp <;> with_reducible rfl); (try simp only [Act.put, zq1, zq2, zq3, zq4, zq5, zq6])
        refine plan_done ?_
        go_wp2
        go_ret
        refine ⟨rfl, ?_, hFi.drew⟩
        rw [HBD.out]
        exact hBi
      · have hSBi := keepBlk hB hSB (by decide) (by decide) hFi
        go_wp2_with (fail)
        have hS : (fun w' : World => w'.cell? ⟨p, 9, none⟩ = some (.func (.func 42) #[] #[.pointer (some ⟨sb, 0, none⟩)]) ∧ w'.cell? ⟨p, 0, none⟩ = some (.pointer (some ⟨b, 0, none⟩))) wr.drew := ⟨c9, c0⟩
        refine wp_region_plan [3, 9, 13] [14, 15] (fun w' : World => w'.cell? ⟨p, 9, none⟩ = some (.func (.func 42) #[] #[.pointer (some ⟨sb, 0, none⟩)]) ∧ w'.cell? ⟨p, 0, none⟩ = some (.pointer (some ⟨b, 0, none⟩))) (.pure 0 (.pure 1 (.pure 2 (.take 3 (.pure 4 (.pure 5 (.pure 6 (.pure 7 (.pure 8 (.take 9 (.pure 10 (.pure 11 (.pure 12 (.take 13 (.go 14 (.go 15 (.pure 16 .done))))))))))))))))) hmix (by kernel_rfl) ?_
        repeat (first | (refine plan_move rfl rfl rfl ?_; (try simp only [Act.put, zq1, zq2, zq3, zq4, zq5, zq6])) | (refine plan_skipP rfl rfl ?_; (try simp only [Act.put, zq1, zq2, zq3, zq4, zq5, zq6])) | (refine plan_skip rfl hS rfl ?_; (try simp only [Act.put, zq1, zq2, zq3, zq4, zq5, zq6])) | (refine plan_pure (v := ?_) rfl rfl ?_ ?_; rotate_left; (intro w'; go_simp <;> with_reducible rfl); (try simp only [Act.put, zq1, zq2, zq3, zq4, zq5, zq6])) | (refine plan_take (v := ?_) rfl hS rfl ?_ ?_; rotate_left; (intro w' hSw; (try dsimp only at hSw); go_simp <;> with_reducible rfl); (try simp only [Act.put, zq1, zq2, zq3, zq4, zq5, zq6])))
        refine plan_goS rfl rfl (fun K hK => ?_)
        go_simp; refine (text_c (hBi.drewN _)).mono ?_; rintro e w8 ⟨rfl, j8, rfl⟩; refine hK _ _ ⟨hS.1, hS.2⟩ ?_; clear hK K; (try simp only [Act.put, zq1, zq2, zq3, zq4, zq5, zq6])
        refine plan_go rfl (by kernel_rfl) rfl (fun K hK => ?_)
        go_simp; refine (exit_c (hSBi.drewN _) h10 _ false).mono ?_; rintro e w9 ⟨rfl, hF9⟩; refine hK _ _ ?_; clear hK K; (try simp only [Act.put, zq1, zq2, zq3, zq4, zq5, zq6])
        refine plan_pure (v := ?_) rfl rfl ?_ ?_; rotate_left; (intro w'; go_simp <;> with_reducible rfl); (try simp only [Act.put, zq1, zq2, zq3, zq4, zq5, zq6])
        refine plan_done ?_
        go_wp2
        go_ret
        refine ⟨rfl, ?_, (hFi.drewN _).ext hF9⟩
        rw [HBD.out]
        exact hF9.buf0 (hBi.drewN _)
    | true =>
      have HBD0 := Lib.hid (show bdF mode key S0 = apB (emaT.take 9) key (apB (comT.take 6) key S0) by unfold bdF; rw [hmd, e6]; rfl)
      clear e6
      go_wp2_with (fail)
      obtain ⟨S1, hS1⟩ : ∃ S1, apB (comT.take 6) key S0 = S1 := ⟨_, rfl⟩
      have HS1 := Lib.hid hS1
      rw [hS1] at hBi hok
      clear hS1 hok0
      go_loopw [51] (fun v51 w' => ∃ i : Nat, i ≤ 10 ∧ v51 = .int .i64 i ∧ Buf base w' b L (apB (emaT.take i) key S1).1 (apB (emaT.take i) key S1).2 ∧ Blk w' p (prCells b r lb h c mode down ex) 96 ∧ Blk w' T1 commonCells 183 ∧ Blk w' T2 (emacsCells x2) 183 ∧ Fr base [] [b, L] w w') (fun v51 _ => 10 - (intOf v51).toNat)
      case atStart => exact ⟨0, by omega, rfl, hBi, hPi, hT1, hT2, hFi⟩
      clear hBi hPi hT1 hT2 hFi c0 c1 c2 c3 c4 c5 c6 c7 c8 c9 f0 hlt
      have hok0 := hok
      clear hok
      obtain ⟨i, hi, rfl, hBi, hPi, hT1, hT2, hFi⟩ := hrel
      have hok := apB_ok (key := key) (emaT.take i) S1 (fun e he => ema_mem e (List.mem_of_mem_take he)) hok0
      rcases i with _ | _ | _ | _ | _ | _ | _ | _ | _ | _ | i
      · have n1 : wr.cell? ⟨T2, 0, none⟩ = some (.int .i64 5) := hT2.cell 0
        have n2 : wr.cell? ⟨T2, 1, none⟩ = some (.func (.func 153) #[] #[]) := hT2.cell 1
        have tl := hT2.lt
        have hpb := hPi.lt
        have hp0 : wr.cell? ⟨p, 0, none⟩ = some (.pointer (some ⟨b, 0, none⟩)) := (prC hPi).c0
        have hA : Fr 0 [] [] wr (wr.alloc (.cells #[.int .i64 5, .func (.func 153) #[] #[]] 183)) := (Fr.refl 0 [] [] wr).alloc _
        by_cases hkey : key = 5
        · have n4 : ((5 : Int) == key) = true := by rw [hkey]; rfl
          have hst : apB (emaT.take 1) key S1 = gEnd (apB (emaT.take 0) key S1).1 (apB (emaT.take 0) key S1).2 := by
            rw [apB_succ emaT _ _ 0 (by decide)]; exact if_pos hkey.symm
          have HST := Lib.hid hst
          clear hst hkey
          obtain ⟨Q, hQ⟩ : ∃ Q, wr.heap.size = Q := ⟨_, rfl⟩
          rw [hQ] at tl hpb
          have hq : Blk (wr.alloc (.cells #[.int .i64 5, .func (.func 153) #[] #[]] 183)) Q #[.int .i64 5, .func (.func 153) #[] #[]] 183 := Blk.new' hQ.symm _ _
          go_wp2_with (fail)
          have hS : (fun w' : World => w'.cell? ⟨Q, 1, none⟩ = some (.func (.func 153) #[] #[]) ∧ w'.cell? ⟨p, 0, none⟩ = some (.pointer (some ⟨b, 0, none⟩))) (wr.alloc (.cells #[.int .i64 5, .func (.func 153) #[] #[]] 183)).drew := ⟨hq.cell 1, hA.cell0 hp0⟩
          refine wp_region_plan [1, 5] [6] (fun w' : World => w'.cell? ⟨Q, 1, none⟩ = some (.func (.func 153) #[] #[]) ∧ w'.cell? ⟨p, 0, none⟩ = some (.pointer (some ⟨b, 0, none⟩))) (.pure 0 (.take 1 (.pure 2 (.pure 3 (.pure 4 (.take 5 (.go 6 .done))))))) hmix (by kernel_rfl) ?_
          repeat (first | (refine plan_move rfl rfl rfl ?_; (try simp only [Act.put, zq1, zq2, zq3, zq4, zq5, zq6])) | (refine plan_pure (v := ?_) rfl rfl ?_ ?_; rotate_left; (intro w'; go_simp <;> with_reducible rfl); (try simp only [Act.put, zq1, zq2, zq3, zq4, zq5, zq6])) | (refine plan_take (v := ?_) rfl hS rfl ?_ ?_; rotate_left; (intro w' hSw; (try dsimp only at hSw); go_simp <;> with_reducible rfl); (try simp only [Act.put, zq1, zq2, zq3, zq4, zq5, zq6])))
          refine plan_go rfl (by kernel_rfl) rfl (fun K hK => ?_)
          go_simp; refine (kf153 base _ b L _ _ (hA.drew.buf0 hBi) hok.1 (Nat.le_trans hok.2.1 hs) hok.2.2).mono ?_; rintro e w8 ⟨rfl, hB8, hF8⟩; refine hK _ _ ?_; clear hK K; (try simp only [Act.put, zq1, zq2, zq3, zq4, zq5, zq6])
          refine plan_done ?_
          have hP8 := keepBlk (hA.drew.buf0 hBi) (hA.drew.blk0 hPi) (by decide) (by decide) hF8
          have hT18 := keepBlk (hA.drew.buf0 hBi) (hA.drew.blk0 hT1) (by decide) (by decide) hF8
          have hT28 := keepBlk (hA.drew.buf0 hBi) (hA.drew.blk0 hT2) (by decide) (by decide) hF8
          have hF08 := (hFi.ext hA.drew).trans hF8
          go_wp2_with (fail)
          go_roundw
          case rel => first | exact ⟨1, by omega, rfl, (by rw [HST.out]; exact hB8), hP8, hT18, hT28, hF08⟩ | exact ⟨_, _, _, ⟨1, by omega, rfl, by rw [HST.out]; exact hB8⟩, rfl, rfl, rfl⟩ | exact ⟨_, _, _, ⟨1, by omega, rfl, (by rw [HST.out]; exact hB8), hP8, hT18, hT28, hF08⟩, rfl, rfl, rfl⟩
          case measure => simp [intOf]
        · obtain ⟨n4, -⟩ := int_ne (fun e : (5 : Int) = key => hkey e.symm)
          have hst : apB (emaT.take 1) key S1 = apB (emaT.take 0) key S1 := by
            rw [apB_succ emaT _ _ 0 (by decide)]; exact if_neg (fun e => hkey e.symm)
          have HST := Lib.hid hst
          clear hst hkey
          go_wp2_with (fail)
          go_roundw
          case rel => exact ⟨1, by omega, rfl, by rw [HST.out]; exact hA.buf0 hBi, hA.blk0 hPi, hA.blk0 hT1, hA.blk0 hT2, hFi.ext hA⟩
          case measure => simp [intOf]
      · have n1 : wr.cell? ⟨T2, 2, none⟩ = some (.int .i64 1) := hT2.cell 2
        have n2 : wr.cell? ⟨T2, 3, none⟩ = some (.func (.func 155) #[] #[]) := hT2.cell 3
        have tl := hT2.lt
        have hpb := hPi.lt
        have hp0 : wr.cell? ⟨p, 0, none⟩ = some (.pointer (some ⟨b, 0, none⟩)) := (prC hPi).c0
        have hA : Fr 0 [] [] wr (wr.alloc (.cells #[.int .i64 1, .func (.func 155) #[] #[]] 183)) := (Fr.refl 0 [] [] wr).alloc _
        by_cases hkey : key = 1
        · have n4 : ((1 : Int) == key) = true := by rw [hkey]; rfl
          have hst : apB (emaT.take 2) key S1 = gStart (apB (emaT.take 1) key S1).1 (apB (emaT.take 1) key S1).2 := by
            rw [apB_succ emaT _ _ 1 (by decide)]; exact if_pos hkey.symm
          have HST := Lib.hid hst
          clear hst hkey
          obtain ⟨Q, hQ⟩ : ∃ Q, wr.heap.size = Q := ⟨_, rfl⟩
          rw [hQ] at tl hpb
          have hq : Blk (wr.alloc (.cells #[.int .i64 1, .func (.func 155) #[] #[]] 183)) Q #[.int .i64 1, .func (.func 155) #[] #[]] 183 := Blk.new' hQ.symm _ _
          go_wp2_with (fail)
          have hS : (fun w' : World => w'.cell? ⟨Q, 1, none⟩ = some (.func (.func 155) #[] #[]) ∧ w'.cell? ⟨p, 0, none⟩ = some (.pointer (some ⟨b, 0, none⟩))) (wr.alloc (.cells #[.int .i64 1, .func (.func 155) #[] #[]] 183)).drew := ⟨hq.cell 1, hA.cell0 hp0⟩
          refine wp_region_plan [1, 5] [6] (fun w' : World => w'.cell? ⟨Q, 1, none⟩ = some (.func (.func 155) #[] #[]) ∧ w'.cell? ⟨p, 0, none⟩ = some (.pointer (some ⟨b, 0, none⟩))) (.pure 0 (.take 1 (.pure 2 (.pure 3 (.pure 4 (.take 5 (.go 6 .done))))))) hmix (by kernel_rfl) ?_
          repeat (first | (refine plan_move rfl rfl rfl ?_; (try simp only [Act.put, zq1, zq2, zq3, zq4, zq5, zq6])) | (refine plan_pure (v := ?_) rfl rfl ?_ ?_; rotate_left; (intro w'; go_simp <;> with_reducible rfl); (try simp only [Act.put, zq1, zq2, zq3, zq4, zq5, zq6])) | (refine plan_take (v := ?_) rfl hS rfl ?_ ?_; rotate_left; (intro w' hSw; (try dsimp only at hSw); go_simp <;> with_reducible rfl); (try simp only [Act.put, zq1, zq2, zq3, zq4, zq5, zq6])))
          refine plan_go rfl (by kernel_rfl) rfl (fun K hK => ?_)
          go_simp; refine (kf155 base _ b L _ _ (hA.drew.buf0 hBi) hok.1 (Nat.le_trans hok.2.1 hs) hok.2.2).mono ?_; rintro e w8 ⟨rfl, hB8, hF8⟩; refine hK _ _ ?_; clear hK K; (try simp only [Act.put, zq1, zq2, zq3, zq4, zq5, zq6])
          refine plan_done ?_
          have hP8 := keepBlk (hA.drew.buf0 hBi) (hA.drew.blk0 hPi) (by decide) (by decide) hF8
          have hT18 := keepBlk (hA.drew.buf0 hBi) (hA.drew.blk0 hT1) (by decide) (by decide) hF8
          have hT28 := keepBlk (hA.drew.buf0 hBi) (hA.drew.blk0 hT2) (by decide) (by decide) hF8
          have hF08 := (hFi.ext hA.drew).trans hF8
          go_wp2_with (fail)
          go_roundw
          case rel => first | exact ⟨2, by omega, rfl, (by rw [HST.out]; exact hB8), hP8, hT18, hT28, hF08⟩ | exact ⟨_, _, _, ⟨2, by omega, rfl, by rw [HST.out]; exact hB8⟩, rfl, rfl, rfl⟩ | exact ⟨_, _, _, ⟨2, by omega, rfl, (by rw [HST.out]; exact hB8), hP8, hT18, hT28, hF08⟩, rfl, rfl, rfl⟩
          case measure => simp [intOf]
        · obtain ⟨n4, -⟩ := int_ne (fun e : (1 : Int) = key => hkey e.symm)
          have hst : apB (emaT.take 2) key S1 = apB (emaT.take 1) key S1 := by
            rw [apB_succ emaT _ _ 1 (by decide)]; exact if_neg (fun e => hkey e.symm)
          have HST := Lib.hid hst
          clear hst hkey
          go_wp2_with (fail)
          go_roundw
          case rel => exact ⟨2, by omega, rfl, by rw [HST.out]; exact hA.buf0 hBi, hA.blk0 hPi, hA.blk0 hT1, hA.blk0 hT2, hFi.ext hA⟩
          case measure => simp [intOf]
      · have n1 : wr.cell? ⟨T2, 4, none⟩ = some (.int .i64 11) := hT2.cell 4
        have n2 : wr.cell? ⟨T2, 5, none⟩ = some (.func (.func 157) #[] #[]) := hT2.cell 5
        have tl := hT2.lt
        have hpb := hPi.lt
        have hp0 : wr.cell? ⟨p, 0, none⟩ = some (.pointer (some ⟨b, 0, none⟩)) := (prC hPi).c0
        have hA : Fr 0 [] [] wr (wr.alloc (.cells #[.int .i64 11, .func (.func 157) #[] #[]] 183)) := (Fr.refl 0 [] [] wr).alloc _
        by_cases hkey : key = 11
        · have n4 : ((11 : Int) == key) = true := by rw [hkey]; rfl
          have hst : apB (emaT.take 3) key S1 = gKill (apB (emaT.take 2) key S1).1 (apB (emaT.take 2) key S1).2 := by
            rw [apB_succ emaT _ _ 2 (by decide)]; exact if_pos hkey.symm
          have HST := Lib.hid hst
          clear hst hkey
          obtain ⟨Q, hQ⟩ : ∃ Q, wr.heap.size = Q := ⟨_, rfl⟩
          rw [hQ] at tl hpb
          have hq : Blk (wr.alloc (.cells #[.int .i64 11, .func (.func 157) #[] #[]] 183)) Q #[.int .i64 11, .func (.func 157) #[] #[]] 183 := Blk.new' hQ.symm _ _
          go_wp2_with (fail)
          have hS : (fun w' : World => w'.cell? ⟨Q, 1, none⟩ = some (.func (.func 157) #[] #[]) ∧ w'.cell? ⟨p, 0, none⟩ = some (.pointer (some ⟨b, 0, none⟩))) (wr.alloc (.cells #[.int .i64 11, .func (.func 157) #[] #[]] 183)).drew := ⟨hq.cell 1, hA.cell0 hp0⟩
          refine wp_region_plan [1, 5] [6] (fun w' : World => w'.cell? ⟨Q, 1, none⟩ = some (.func (.func 157) #[] #[]) ∧ w'.cell? ⟨p, 0, none⟩ = some (.pointer (some ⟨b, 0, none⟩))) (.pure 0 (.take 1 (.pure 2 (.pure 3 (.pure 4 (.take 5 (.go 6 .done))))))) hmix (by kernel_rfl) ?_
          repeat (first | (refine plan_move rfl rfl rfl ?_; (try simp only [Act.put, zq1, zq2, zq3, zq4, zq5, zq6])) | (refine plan_pure (v := ?_) rfl rfl ?_ ?_; rotate_left; (intro w'; go_simp <;> with_reducible rfl); (try simp only [Act.put, zq1, zq2, zq3, zq4, zq5, zq6])) | (refine plan_take (v := ?_) rfl hS rfl ?_ ?_; rotate_left; (intro w' hSw; (try dsimp only at hSw); go_simp <;> with_reducible rfl); (try simp only [Act.put, zq1, zq2, zq3, zq4, zq5, zq6])))
          refine plan_go rfl (by kernel_rfl) rfl (fun K hK => ?_)
          go_simp; refine (kf157 base _ b L _ _ (hA.drew.buf0 hBi) hok.1 (Nat.le_trans hok.2.1 hs) hok.2.2).mono ?_; rintro e w8 ⟨rfl, hB8, hF8⟩; refine hK _ _ ?_; clear hK K; (try simp only [Act.put, zq1, zq2, zq3, zq4, zq5, zq6])
          refine plan_done ?_
          have hP8 := keepBlk (hA.drew.buf0 hBi) (hA.drew.blk0 hPi) (by decide) (by decide) hF8
          have hT18 := keepBlk (hA.drew.buf0 hBi) (hA.drew.blk0 hT1) (by decide) (by decide) hF8
          have hT28 := keepBlk (hA.drew.buf0 hBi) (hA.drew.blk0 hT2) (by decide) (by decide) hF8
          have hF08 := (hFi.ext hA.drew).trans hF8
          go_wp2_with (fail)
          go_roundw
          case rel => first | exact ⟨3, by omega, rfl, (by rw [HST.out]; exact hB8), hP8, hT18, hT28, hF08⟩ | exact ⟨_, _, _, ⟨3, by omega, rfl, by rw [HST.out]; exact hB8⟩, rfl, rfl, rfl⟩ | exact ⟨_, _, _, ⟨3, by omega, rfl, (by rw [HST.out]; exact hB8), hP8, hT18, hT28, hF08⟩, rfl, rfl, rfl⟩
          case measure => simp [intOf]
        · obtain ⟨n4, -⟩ := int_ne (fun e : (11 : Int) = key => hkey e.symm)
          have hst : apB (emaT.take 3) key S1 = apB (emaT.take 2) key S1 := by
            rw [apB_succ emaT _ _ 2 (by decide)]; exact if_neg (fun e => hkey e.symm)
          have HST := Lib.hid hst
          clear hst hkey
          go_wp2_with (fail)
          go_roundw
          case rel => exact ⟨3, by omega, rfl, by rw [HST.out]; exact hA.buf0 hBi, hA.blk0 hPi, hA.blk0 hT1, hA.blk0 hT2, hFi.ext hA⟩
          case measure => simp [intOf]
      · have n1 : wr.cell? ⟨T2, 6, none⟩ = some (.int .i64 21) := hT2.cell 6
        have n2 : wr.cell? ⟨T2, 7, none⟩ = some (.func (.func 159) #[] #[]) := hT2.cell 7
        have tl := hT2.lt
        have hpb := hPi.lt
        have hp0 : wr.cell? ⟨p, 0, none⟩ = some (.pointer (some ⟨b, 0, none⟩)) := (prC hPi).c0
        have hA : Fr 0 [] [] wr (wr.alloc (.cells #[.int .i64 21, .func (.func 159) #[] #[]] 183)) := (Fr.refl 0 [] [] wr).alloc _
        by_cases hkey : key = 21
        · have n4 : ((21 : Int) == key) = true := by rw [hkey]; rfl
          have hst : apB (emaT.take 4) key S1 = gKillB (apB (emaT.take 3) key S1).1 (apB (emaT.take 3) key S1).2 := by
            rw [apB_succ emaT _ _ 3 (by decide)]; exact if_pos hkey.symm
          have HST := Lib.hid hst
          clear hst hkey
          obtain ⟨Q, hQ⟩ : ∃ Q, wr.heap.size = Q := ⟨_, rfl⟩
          rw [hQ] at tl hpb
          have hq : Blk (wr.alloc (.cells #[.int .i64 21, .func (.func 159) #[] #[]] 183)) Q #[.int .i64 21, .func (.func 159) #[] #[]] 183 := Blk.new' hQ.symm _ _
          go_wp2_with (fail)
          have hS : (fun w' : World => w'.cell? ⟨Q, 1, none⟩ = some (.func (.func 159) #[] #[]) ∧ w'.cell? ⟨p, 0, none⟩ = some (.pointer (some ⟨b, 0, none⟩))) (wr.alloc (.cells #[.int .i64 21, .func (.func 159) #[] #[]] 183)).drew := ⟨hq.cell 1, hA.cell0 hp0⟩
          refine wp_region_plan [1, 5] [6] (fun w' : World => w'.cell? ⟨Q, 1, none⟩ = some (.func (.func 159) #[] #[]) ∧ w'.cell? ⟨p, 0, none⟩ = some (.pointer (some ⟨b, 0, none⟩))) (.pure 0 (.take 1 (.pure 2 (.pure 3 (.pure 4 (.take 5 (.go 6 .done))))))) hmix (by kernel_rfl) ?_
          repeat (first | (refine plan_move rfl rfl rfl ?_; (try simp only [Act.put, zq1, zq2, zq3, zq4, zq5, zq6])) | (refine plan_pure (v := ?_) rfl rfl ?_ ?_; rotate_left; (intro w'; go_simp <;> with_reducible rfl); (try simp only [Act.put, zq1, zq2, zq3, zq4, zq5, zq6])) | (refine plan_take (v := ?_) rfl hS rfl ?_ ?_; rotate_left; (intro w' hSw; (try dsimp only at hSw); go_simp <;> with_reducible rfl); (try simp only [Act.put, zq1, zq2, zq3, zq4, zq5, zq6])))
          refine plan_go rfl (by kernel_rfl) rfl (fun K hK => ?_)
          go_simp; refine (kf159 base _ b L _ _ (hA.drew.buf0 hBi) hok.1 (Nat.le_trans hok.2.1 hs) hok.2.2).mono ?_; rintro e w8 ⟨rfl, hB8, hF8⟩; refine hK _ _ ?_; clear hK K; (try simp only [Act.put, zq1, zq2, zq3, zq4, zq5, zq6])
          refine plan_done ?_
          have hP8 := keepBlk (hA.drew.buf0 hBi) (hA.drew.blk0 hPi) (by decide) (by decide) hF8
          have hT18 := keepBlk (hA.drew.buf0 hBi) (hA.drew.blk0 hT1) (by decide) (by decide) hF8
          have hT28 := keepBlk (hA.drew.buf0 hBi) (hA.drew.blk0 hT2) (by decide) (by decide) hF8
          have hF08 := (hFi.ext hA.drew).trans hF8
          go_wp2_with (fail)
          go_roundw
          case rel => first | exact ⟨4, by omega, rfl, (by rw [HST.out]; exact hB8), hP8, hT18, hT28, hF08⟩ | exact ⟨_, _, _, ⟨4, by omega, rfl, by rw [HST.out]; exact hB8⟩, rfl, rfl, rfl⟩ | exact ⟨_, _, _, ⟨4, by omega, rfl, (by rw [HST.out]; exact hB8), hP8, hT18, hT28, hF08⟩, rfl, rfl, rfl⟩
          case measure => simp [intOf]
        · obtain ⟨n4, -⟩ := int_ne (fun e : (21 : Int) = key => hkey e.symm)
          have hst : apB (emaT.take 4) key S1 = apB (emaT.take 3) key S1 := by
            rw [apB_succ emaT _ _ 3 (by decide)]; exact if_neg (fun e => hkey e.symm)
          have HST := Lib.hid hst
          clear hst hkey
          go_wp2_with (fail)
          go_roundw
          case rel => exact ⟨4, by omega, rfl, by rw [HST.out]; exact hA.buf0 hBi, hA.blk0 hPi, hA.blk0 hT1, hA.blk0 hT2, hFi.ext hA⟩
          case measure => simp [intOf]
      · have n1 : wr.cell? ⟨T2, 8, none⟩ = some (.int .i64 4) := hT2.cell 8
        have n2 : wr.cell? ⟨T2, 9, none⟩ = some (.func (.func 160) #[] #[]) := hT2.cell 9
        have tl := hT2.lt
        have hpb := hPi.lt
        have hp0 : wr.cell? ⟨p, 0, none⟩ = some (.pointer (some ⟨b, 0, none⟩)) := (prC hPi).c0
        have hA : Fr 0 [] [] wr (wr.alloc (.cells #[.int .i64 4, .func (.func 160) #[] #[]] 183)) := (Fr.refl 0 [] [] wr).alloc _
        by_cases hkey : key = 4
        · have n4 : ((4 : Int) == key) = true := by rw [hkey]; rfl
          have hst : apB (emaT.take 5) key S1 = gDel (apB (emaT.take 4) key S1).1 (apB (emaT.take 4) key S1).2 := by
            rw [apB_succ emaT _ _ 4 (by decide)]; exact if_pos hkey.symm
          have HST := Lib.hid hst
          clear hst hkey
          obtain ⟨Q, hQ⟩ : ∃ Q, wr.heap.size = Q := ⟨_, rfl⟩
          rw [hQ] at tl hpb
          have hq : Blk (wr.alloc (.cells #[.int .i64 4, .func (.func 160) #[] #[]] 183)) Q #[.int .i64 4, .func (.func 160) #[] #[]] 183 := Blk.new' hQ.symm _ _
          go_wp2_with (fail)
          have hS : (fun w' : World => w'.cell? ⟨Q, 1, none⟩ = some (.func (.func 160) #[] #[]) ∧ w'.cell? ⟨p, 0, none⟩ = some (.pointer (some ⟨b, 0, none⟩))) (wr.alloc (.cells #[.int .i64 4, .func (.func 160) #[] #[]] 183)).drew := ⟨hq.cell 1, hA.cell0 hp0⟩
          refine wp_region_plan [1, 5] [6] (fun w' : World => w'.cell? ⟨Q, 1, none⟩ = some (.func (.func 160) #[] #[]) ∧ w'.cell? ⟨p, 0, none⟩ = some (.pointer (some ⟨b, 0, none⟩))) (.pure 0 (.take 1 (.pure 2 (.pure 3 (.pure 4 (.take 5 (.go 6 .done))))))) hmix (by kernel_rfl) ?_
          repeat (first | (refine plan_move rfl rfl rfl ?_; (try simp only [Act.put, zq1, zq2, zq3, zq4, zq5, zq6])) | (refine plan_pure (v := ?_) rfl rfl ?_ ?_; rotate_left; (intro w'; go_simp <;> with_reducible rfl); (try simp only [Act.put, zq1, zq2, zq3, zq4, zq5, zq6])) | (refine plan_take (v := ?_) rfl hS rfl ?_ ?_; rotate_left; (intro w' hSw; (try dsimp only at hSw); go_simp <;> with_reducible rfl); (try simp only [Act.put, zq1, zq2, zq3, zq4, zq5, zq6])))
          refine plan_go rfl (by kernel_rfl) rfl (fun K hK => ?_)
          go_simp; refine (kf160 base _ b L _ _ (hA.drew.buf0 hBi) hok.1 (Nat.le_trans hok.2.1 hs) hok.2.2).mono ?_; rintro e w8 ⟨rfl, hB8, hF8⟩; refine hK _ _ ?_; clear hK K; (try simp only [Act.put, zq1, zq2, zq3, zq4, zq5, zq6])
          refine plan_done ?_
          have hP8 := keepBlk (hA.drew.buf0 hBi) (hA.drew.blk0 hPi) (by decide) (by decide) hF8
          have hT18 := keepBlk (hA.drew.buf0 hBi) (hA.drew.blk0 hT1) (by decide) (by decide) hF8
          have hT28 := keepBlk (hA.drew.buf0 hBi) (hA.drew.blk0 hT2) (by decide) (by decide) hF8
          have hF08 := (hFi.ext hA.drew).trans hF8
          go_wp2_with (fail)
          go_roundw
          case rel => first | exact ⟨5, by omega, rfl, (by rw [HST.out]; exact hB8), hP8, hT18, hT28, hF08⟩ | exact ⟨_, _, _, ⟨5, by omega, rfl, by rw [HST.out]; exact hB8⟩, rfl, rfl, rfl⟩ | exact ⟨_, _, _, ⟨5, by omega, rfl, (by rw [HST.out]; exact hB8), hP8, hT18, hT28, hF08⟩, rfl, rfl, rfl⟩
          case measure => simp [intOf]
        · obtain ⟨n4, -⟩ := int_ne (fun e : (4 : Int) = key => hkey e.symm)
          have hst : apB (emaT.take 5) key S1 = apB (emaT.take 4) key S1 := by
            rw [apB_succ emaT _ _ 4 (by decide)]; exact if_neg (fun e => hkey e.symm)
          have HST := Lib.hid hst
          clear hst hkey
          go_wp2_with (fail)
          go_roundw
          case rel => exact ⟨5, by omega, rfl, by rw [HST.out]; exact hA.buf0 hBi, hA.blk0 hPi, hA.blk0 hT1, hA.blk0 hT2, hFi.ext hA⟩
          case measure => simp [intOf]
      · have n1 : wr.cell? ⟨T2, 10, none⟩ = some (.int .i64 8) := hT2.cell 10
        have n2 : wr.cell? ⟨T2, 11, none⟩ = some (.func (.func 161) #[] #[]) := hT2.cell 11
        have tl := hT2.lt
        have hpb := hPi.lt
        have hp0 : wr.cell? ⟨p, 0, none⟩ = some (.pointer (some ⟨b, 0, none⟩)) := (prC hPi).c0
        have hA : Fr 0 [] [] wr (wr.alloc (.cells #[.int .i64 8, .func (.func 161) #[] #[]] 183)) := (Fr.refl 0 [] [] wr).alloc _
        by_cases hkey : key = 8
        · have n4 : ((8 : Int) == key) = true := by rw [hkey]; rfl
          have hst : apB (emaT.take 6) key S1 = gBack (apB (emaT.take 5) key S1).1 (apB (emaT.take 5) key S1).2 := by
            rw [apB_succ emaT _ _ 5 (by decide)]; exact if_pos hkey.symm
          have HST := Lib.hid hst
          clear hst hkey
          obtain ⟨Q, hQ⟩ : ∃ Q, wr.heap.size = Q := ⟨_, rfl⟩
          rw [hQ] at tl hpb
          have hq : Blk (wr.alloc (.cells #[.int .i64 8, .func (.func 161) #[] #[]] 183)) Q #[.int .i64 8, .func (.func 161) #[] #[]] 183 := Blk.new' hQ.symm _ _
          go_wp2_with (fail)
          have hS : (fun w' : World => w'.cell? ⟨Q, 1, none⟩ = some (.func (.func 161) #[] #[]) ∧ w'.cell? ⟨p, 0, none⟩ = some (.pointer (some ⟨b, 0, none⟩))) (wr.alloc (.cells #[.int .i64 8, .func (.func 161) #[] #[]] 183)).drew := ⟨hq.cell 1, hA.cell0 hp0⟩
          refine wp_region_plan [1, 5] [6] (fun w' : World => w'.cell? ⟨Q, 1, none⟩ = some (.func (.func 161) #[] #[]) ∧ w'.cell? ⟨p, 0, none⟩ = some (.pointer (some ⟨b, 0, none⟩))) (.pure 0 (.take 1 (.pure 2 (.pure 3 (.pure 4 (.take 5 (.go 6 .done))))))) hmix (by kernel_rfl) ?_
          repeat (first | (refine plan_move rfl rfl rfl ?_; (try simp only [Act.put, zq1, zq2, zq3, zq4, zq5, zq6])) | (refine plan_pure (v := ?_) rfl rfl ?_ ?_; rotate_left; (intro w'; go_simp <;> with_reducible rfl); (try simp only [Act.put, zq1, zq2, zq3, zq4, zq5, zq6])) | (refine plan_take (v := ?_) rfl hS rfl ?_ ?_; rotate_left; (intro w' hSw; (try dsimp only at hSw); go_simp <;> with_reducible rfl); (try simp only [Act.put, zq1, zq2, zq3, zq4, zq5, zq6])))
          refine plan_go rfl (by kernel_rfl) rfl (fun K hK => ?_)
          go_simp; refine (kf161 base _ b L _ _ (hA.drew.buf0 hBi) hok.1 (Nat.le_trans hok.2.1 hs) hok.2.2).mono ?_; rintro e w8 ⟨rfl, hB8, hF8⟩; refine hK _ _ ?_; clear hK K; (try simp only [Act.put, zq1, zq2, zq3, zq4, zq5, zq6])
          refine plan_done ?_
          have hP8 := keepBlk (hA.drew.buf0 hBi) (hA.drew.blk0 hPi) (by decide) (by decide) hF8
          have hT18 := keepBlk (hA.drew.buf0 hBi) (hA.drew.blk0 hT1) (by decide) (by decide) hF8
          have hT28 := keepBlk (hA.drew.buf0 hBi) (hA.drew.blk0 hT2) (by decide) (by decide) hF8
          have hF08 := (hFi.ext hA.drew).trans hF8
          go_wp2_with (fail)
          go_roundw
          case rel => first | exact ⟨6, by omega, rfl, (by rw [HST.out]; exact hB8), hP8, hT18, hT28, hF08⟩ | exact ⟨_, _, _, ⟨6, by omega, rfl, by rw [HST.out]; exact hB8⟩, rfl, rfl, rfl⟩ | exact ⟨_, _, _, ⟨6, by omega, rfl, (by rw [HST.out]; exact hB8), hP8, hT18, hT28, hF08⟩, rfl, rfl, rfl⟩
          case measure => simp [intOf]
        · obtain ⟨n4, -⟩ := int_ne (fun e : (8 : Int) = key => hkey e.symm)
          have hst : apB (emaT.take 6) key S1 = apB (emaT.take 5) key S1 := by
            rw [apB_succ emaT _ _ 5 (by decide)]; exact if_neg (fun e => hkey e.symm)
          have HST := Lib.hid hst
          clear hst hkey
          go_wp2_with (fail)
          go_roundw
          case rel => exact ⟨6, by omega, rfl, by rw [HST.out]; exact hA.buf0 hBi, hA.blk0 hPi, hA.blk0 hT1, hA.blk0 hT2, hFi.ext hA⟩
          case measure => simp [intOf]
      · have n1 : wr.cell? ⟨T2, 12, none⟩ = some (.int .i64 6) := hT2.cell 12
        have n2 : wr.cell? ⟨T2, 13, none⟩ = some (.func (.func 162) #[] #[]) := hT2.cell 13
        have tl := hT2.lt
        have hpb := hPi.lt
        have hp0 : wr.cell? ⟨p, 0, none⟩ = some (.pointer (some ⟨b, 0, none⟩)) := (prC hPi).c0
        have hA : Fr 0 [] [] wr (wr.alloc (.cells #[.int .i64 6, .func (.func 162) #[] #[]] 183)) := (Fr.refl 0 [] [] wr).alloc _
        by_cases hkey : key = 6
        · have n4 : ((6 : Int) == key) = true := by rw [hkey]; rfl
          have hst : apB (emaT.take 7) key S1 = gRight (apB (emaT.take 6) key S1).1 (apB (emaT.take 6) key S1).2 := by
            rw [apB_succ emaT _ _ 6 (by decide)]; exact if_pos hkey.symm
          have HST := Lib.hid hst
          clear hst hkey
          obtain ⟨Q, hQ⟩ : ∃ Q, wr.heap.size = Q := ⟨_, rfl⟩
          rw [hQ] at tl hpb
          have hq : Blk (wr.alloc (.cells #[.int .i64 6, .func (.func 162) #[] #[]] 183)) Q #[.int .i64 6, .func (.func 162) #[] #[]] 183 := Blk.new' hQ.symm _ _
          go_wp2_with (fail)
          have hS : (fun w' : World => w'.cell? ⟨Q, 1, none⟩ = some (.func (.func 162) #[] #[]) ∧ w'.cell? ⟨p, 0, none⟩ = some (.pointer (some ⟨b, 0, none⟩))) (wr.alloc (.cells #[.int .i64 6, .func (.func 162) #[] #[]] 183)).drew := ⟨hq.cell 1, hA.cell0 hp0⟩
          refine wp_region_plan [1, 5] [6] (fun w' : World => w'.cell? ⟨Q, 1, none⟩ = some (.func (.func 162) #[] #[]) ∧ w'.cell? ⟨p, 0, none⟩ = some (.pointer (some ⟨b, 0, none⟩))) (.pure 0 (.take 1 (.pure 2 (.pure 3 (.pure 4 (.take 5 (.go 6 .done))))))) hmix (by kernel_rfl) ?_
          repeat (first | (refine plan_move rfl rfl rfl ?_; (try simp only [Act.put, zq1, zq2, zq3, zq4, zq5, zq6])) | (refine plan_pure (v := ?_) rfl rfl ?_ ?_; rotate_left; (intro w'; go_simp <;> with_reducible rfl); (try simp only [Act.put, zq1, zq2, zq3, zq4, zq5, zq6])) | (refine plan_take (v := ?_) rfl hS rfl ?_ ?_; rotate_left; (intro w' hSw; (try dsimp only at hSw); go_simp <;> with_reducible rfl); (try simp only [Act.put, zq1, zq2, zq3, zq4, zq5, zq6])))
          refine plan_go rfl (by kernel_rfl) rfl (fun K hK => ?_)
          go_simp; refine (kf162 base _ b L _ _ (hA.drew.buf0 hBi) hok.1 (Nat.le_trans hok.2.1 hs) hok.2.2).mono ?_; rintro e w8 ⟨rfl, hB8, hF8⟩; refine hK _ _ ?_; clear hK K; (try simp only [Act.put, zq1, zq2, zq3, zq4, zq5, zq6])
          refine plan_done ?_
          have hP8 := keepBlk (hA.drew.buf0 hBi) (hA.drew.blk0 hPi) (by decide) (by decide) hF8
          have hT18 := keepBlk (hA.drew.buf0 hBi) (hA.drew.blk0 hT1) (by decide) (by decide) hF8
          have hT28 := keepBlk (hA.drew.buf0 hBi) (hA.drew.blk0 hT2) (by decide) (by decide) hF8
          have hF08 := (hFi.ext hA.drew).trans hF8
          go_wp2_with (fail)
          go_roundw
          case rel => first | exact ⟨7, by omega, rfl, (by rw [HST.out]; exact hB8), hP8, hT18, hT28, hF08⟩ | exact ⟨_, _, _, ⟨7, by omega, rfl, by rw [HST.out]; exact hB8⟩, rfl, rfl, rfl⟩ | exact ⟨_, _, _, ⟨7, by omega, rfl, (by rw [HST.out]; exact hB8), hP8, hT18, hT28, hF08⟩, rfl, rfl, rfl⟩
          case measure => simp [intOf]
        · obtain ⟨n4, -⟩ := int_ne (fun e : (6 : Int) = key => hkey e.symm)
          have hst : apB (emaT.take 7) key S1 = apB (emaT.take 6) key S1 := by
            rw [apB_succ emaT _ _ 6 (by decide)]; exact if_neg (fun e => hkey e.symm)
          have HST := Lib.hid hst
          clear hst hkey
          go_wp2_with (fail)
          go_roundw
          case rel => exact ⟨7, by omega, rfl, by rw [HST.out]; exact hA.buf0 hBi, hA.blk0 hPi, hA.blk0 hT1, hA.blk0 hT2, hFi.ext hA⟩
          case measure => simp [intOf]
      · have n1 : wr.cell? ⟨T2, 14, none⟩ = some (.int .i64 2) := hT2.cell 14
        have n2 : wr.cell? ⟨T2, 15, none⟩ = some (.func (.func 163) #[] #[]) := hT2.cell 15
        have tl := hT2.lt
        have hpb := hPi.lt
        have hp0 : wr.cell? ⟨p, 0, none⟩ = some (.pointer (some ⟨b, 0, none⟩)) := (prC hPi).c0
        have hA : Fr 0 [] [] wr (wr.alloc (.cells #[.int .i64 2, .func (.func 163) #[] #[]] 183)) := (Fr.refl 0 [] [] wr).alloc _
        by_cases hkey : key = 2
        · have n4 : ((2 : Int) == key) = true := by rw [hkey]; rfl
          have hst : apB (emaT.take 8) key S1 = gLeft (apB (emaT.take 7) key S1).1 (apB (emaT.take 7) key S1).2 := by
            rw [apB_succ emaT _ _ 7 (by decide)]; exact if_pos hkey.symm
          have HST := Lib.hid hst
          clear hst hkey
          obtain ⟨Q, hQ⟩ : ∃ Q, wr.heap.size = Q := ⟨_, rfl⟩
          rw [hQ] at tl hpb
          have hq : Blk (wr.alloc (.cells #[.int .i64 2, .func (.func 163) #[] #[]] 183)) Q #[.int .i64 2, .func (.func 163) #[] #[]] 183 := Blk.new' hQ.symm _ _
          go_wp2_with (fail)
          have hS : (fun w' : World => w'.cell? ⟨Q, 1, none⟩ = some (.func (.func 163) #[] #[]) ∧ w'.cell? ⟨p, 0, none⟩ = some (.pointer (some ⟨b, 0, none⟩))) (wr.alloc (.cells #[.int .i64 2, .func (.func 163) #[] #[]] 183)).drew := ⟨hq.cell 1, hA.cell0 hp0⟩
          refine wp_region_plan [1, 5] [6] (fun w' : World => w'.cell? ⟨Q, 1, none⟩ = some (.func (.func 163) #[] #[]) ∧ w'.cell? ⟨p, 0, none⟩ = some (.pointer (some ⟨b, 0, none⟩))) (.pure 0 (.take 1 (.pure 2 (.pure 3 (.pure 4 (.take 5 (.go 6 .done))))))) hmix (by kernel_rfl) ?_
          repeat (first | (refine plan_move rfl rfl rfl ?_; (try simp only [Act.put, zq1, zq2, zq3, zq4, zq5, zq6])) | (refine plan_pure (v := ?_) rfl rfl ?_ ?_; rotate_left; (intro w'; go_simp <;> with_reducible rfl); (try simp only [Act.put, zq1, zq2, zq3, zq4, zq5, zq6])) | (refine plan_take (v := ?_) rfl hS rfl ?_ ?_; rotate_left; (intro w' hSw; (try dsimp only at hSw); go_simp <;> with_reducible rfl); (try simp only [Act.put, zq1, zq2, zq3, zq4, zq5, zq6])))
          refine plan_go rfl (by kernel_rfl) rfl (fun K hK => ?_)
          go_simp; refine (kf163 base _ b L _ _ (hA.drew.buf0 hBi) hok.1 (Nat.le_trans hok.2.1 hs) hok.2.2).mono ?_; rintro e w8 ⟨rfl, hB8, hF8⟩; refine hK _ _ ?_; clear hK K; (try simp only [Act.put, zq1, zq2, zq3, zq4, zq5, zq6])
          refine plan_done ?_
          have hP8 := keepBlk (hA.drew.buf0 hBi) (hA.drew.blk0 hPi) (by decide) (by decide) hF8
          have hT18 := keepBlk (hA.drew.buf0 hBi) (hA.drew.blk0 hT1) (by decide) (by decide) hF8
          have hT28 := keepBlk (hA.drew.buf0 hBi) (hA.drew.blk0 hT2) (by decide) (by decide) hF8
          have hF08 := (hFi.ext hA.drew).trans hF8
          go_wp2_with (fail)
          go_roundw
          case rel => first | exact ⟨8, by omega, rfl, (by rw [HST.out]; exact hB8), hP8, hT18, hT28, hF08⟩ | exact ⟨_, _, _, ⟨8, by omega, rfl, by rw [HST.out]; exact hB8⟩, rfl, rfl, rfl⟩ | exact ⟨_, _, _, ⟨8, by omega, rfl, (by rw [HST.out]; exact hB8), hP8, hT18, hT28, hF08⟩, rfl, rfl, rfl⟩
          case measure => simp [intOf]
        · obtain ⟨n4, -⟩ := int_ne (fun e : (2 : Int) = key => hkey e.symm)
          have hst : apB (emaT.take 8) key S1 = apB (emaT.take 7) key S1 := by
            rw [apB_succ emaT _ _ 7 (by decide)]; exact if_neg (fun e => hkey e.symm)
          have HST := Lib.hid hst
          clear hst hkey
          go_wp2_with (fail)
          go_roundw
          case rel => exact ⟨8, by omega, rfl, by rw [HST.out]; exact hA.buf0 hBi, hA.blk0 hPi, hA.blk0 hT1, hA.blk0 hT2, hFi.ext hA⟩
          case measure => simp [intOf]
      · have n1 : wr.cell? ⟨T2, 16, none⟩ = some (.int .i64 23) := hT2.cell 16
        have n2 : wr.cell? ⟨T2, 17, none⟩ = some (.func (.func 164) #[] #[]) := hT2.cell 17
        have tl := hT2.lt
        have hpb := hPi.lt
        have hp0 : wr.cell? ⟨p, 0, none⟩ = some (.pointer (some ⟨b, 0, none⟩)) := (prC hPi).c0
        have hA : Fr 0 [] [] wr (wr.alloc (.cells #[.int .i64 23, .func (.func 164) #[] #[]] 183)) := (Fr.refl 0 [] [] wr).alloc _
        by_cases hkey : key = 23
        · have n4 : ((23 : Int) == key) = true := by rw [hkey]; rfl
          have hst : apB (emaT.take 9) key S1 = gWord (apB (emaT.take 8) key S1).1 (apB (emaT.take 8) key S1).2 := by
            rw [apB_succ emaT _ _ 8 (by decide)]; exact if_pos hkey.symm
          have HST := Lib.hid hst
          clear hst hkey
          obtain ⟨Q, hQ⟩ : ∃ Q, wr.heap.size = Q := ⟨_, rfl⟩
          rw [hQ] at tl hpb
          have hq : Blk (wr.alloc (.cells #[.int .i64 23, .func (.func 164) #[] #[]] 183)) Q #[.int .i64 23, .func (.func 164) #[] #[]] 183 := Blk.new' hQ.symm _ _
          go_wp2_with (fail)
          have hS : (fun w' : World => w'.cell? ⟨Q, 1, none⟩ = some (.func (.func 164) #[] #[]) ∧ w'.cell? ⟨p, 0, none⟩ = some (.pointer (some ⟨b, 0, none⟩))) (wr.alloc (.cells #[.int .i64 23, .func (.func 164) #[] #[]] 183)).drew := ⟨hq.cell 1, hA.cell0 hp0⟩
          refine wp_region_plan [1, 5] [6] (fun w' : World => w'.cell? ⟨Q, 1, none⟩ = some (.func (.func 164) #[] #[]) ∧ w'.cell? ⟨p, 0, none⟩ = some (.pointer (some ⟨b, 0, none⟩))) (.pure 0 (.take 1 (.pure 2 (.pure 3 (.pure 4 (.take 5 (.go 6 .done))))))) hmix (by kernel_rfl) ?_
          repeat (first | (refine plan_move rfl rfl rfl ?_; (try simp only [Act.put, zq1, zq2, zq3, zq4, zq5, zq6])) | (refine plan_pure (v := ?_) rfl rfl ?_ ?_; rotate_left; (intro w'; go_simp <;> with_reducible rfl); (try simp only [Act.put, zq1, zq2, zq3, zq4, zq5, zq6])) | (refine plan_take (v := ?_) rfl hS rfl ?_ ?_; rotate_left; (intro w' hSw; (try dsimp only at hSw); go_simp <;> with_reducible rfl); (try simp only [Act.put, zq1, zq2, zq3, zq4, zq5, zq6])))
          refine plan_go rfl (by kernel_rfl) rfl (fun K hK => ?_)
          go_simp; refine (kf164 base _ b L _ _ (hA.drew.buf0 hBi) hok.1 (Nat.le_trans hok.2.1 hs) hok.2.2).mono ?_; rintro e w8 ⟨rfl, hB8, hF8⟩; refine hK _ _ ?_; clear hK K; (try simp only [Act.put, zq1, zq2, zq3, zq4, zq5, zq6])
          refine plan_done ?_
          have hP8 := keepBlk (hA.drew.buf0 hBi) (hA.drew.blk0 hPi) (by decide) (by decide) hF8
          have hT18 := keepBlk (hA.drew.buf0 hBi) (hA.drew.blk0 hT1) (by decide) (by decide) hF8
          have hT28 := keepBlk (hA.drew.buf0 hBi) (hA.drew.blk0 hT2) (by decide) (by decide) hF8
          have hF08 := (hFi.ext hA.drew).trans hF8
          go_wp2_with (fail)
          go_roundw
          case rel => first | exact ⟨9, by omega, rfl, (by rw [HST.out]; exact hB8), hP8, hT18, hT28, hF08⟩ | exact ⟨_, _, _, ⟨9, by omega, rfl, by rw [HST.out]; exact hB8⟩, rfl, rfl, rfl⟩ | exact ⟨_, _, _, ⟨9, by omega, rfl, (by rw [HST.out]; exact hB8), hP8, hT18, hT28, hF08⟩, rfl, rfl, rfl⟩
          case measure => simp [intOf]
        · obtain ⟨n4, -⟩ := int_ne (fun e : (23 : Int) = key => hkey e.symm)
          have hst : apB (emaT.take 9) key S1 = apB (emaT.take 8) key S1 := by
            rw [apB_succ emaT _ _ 8 (by decide)]; exact if_neg (fun e => hkey e.symm)
          have HST := Lib.hid hst
          clear hst hkey
          go_wp2_with (fail)
          go_roundw
          case rel => exact ⟨9, by omega, rfl, by rw [HST.out]; exact hA.buf0 hBi, hA.blk0 hPi, hA.blk0 hT1, hA.blk0 hT2, hFi.ext hA⟩
          case measure => simp [intOf]
      · have n1 : wr.cell? ⟨T2, 18, none⟩ = some (.int .i64 12) := hT2.cell 18
        obtain ⟨fv, n2⟩ : ∃ fv, wr.cell? ⟨T2, 19, none⟩ = some (.func (.func 166) #[] fv) := ⟨_, hT2.cell 19⟩
        have tl := hT2.lt
        obtain ⟨n4, -⟩ := int_ne (fun e : (12 : Int) = key => h12 e.symm)
        have e10 : emaT.take 10 = emaT.take 9 := rfl
        go_wp2_with (fail)
        go_roundw
        case rel =>
          have hA : Fr 0 [] [] wr (wr.alloc (.cells #[.int .i64 12, .func (.func 166) #[] fv] 183)) := (Fr.refl 0 [] [] wr).alloc _
          exact ⟨10, by omega, rfl, by rw [e10]; exact hA.buf0 hBi, hA.blk0 hPi, hA.blk0 hT1, hA.blk0 hT2, hFi.ext hA⟩
        case measure => simp [intOf]
      · have e : i = 0 := by omega
        subst e
        have HBD := Lib.hid (show bdF mode key S0 = apB (emaT.take 10) key S1 by rw [HBD0.out, HS1.out]; rfl)
        obtain ⟨c0, c1, c2, c3, c4, c5, c6, c7, c8, c9, f0, hlt⟩ := prC hPi
        go_wp2_with (fail)
        go_loopw [75] (fun v75 w' => v75 = .int .i64 0 ∧ w' = wr) (fun _ _ => 0)
        case atStart => exact ⟨rfl, rfl⟩
        obtain ⟨rfl, rfl⟩ := hrel
        rcases hE with ⟨rfl, -⟩ | ⟨sb, cs, rfl, hSB, h10, hne⟩
        · go_wp2_with (fail)
          have hS : (fun w' : World => w'.cell? ⟨p, 9, none⟩ = some (.nilFunc) ∧ w'.cell? ⟨p, 0, none⟩ = some (.pointer (some ⟨b, 0, none⟩))) wr.drew := ⟨c9, c0⟩
          refine wp_region_plan [3, 9, 13] [14, 15] (fun w' : World => w'.cell? ⟨p, 9, none⟩ = some (.nilFunc) ∧ w'.cell? ⟨p, 0, none⟩ = some (.pointer (some ⟨b, 0, none⟩))) (.pure 0 (.pure 1 (.pure 2 (.take 3 (.pure 4 (.pure 5 (.pure 6 (.pure 7 (.pure 8 (.take 9 (.pure 10 (.pure 11 (.pure 12 (.take 13 (.go 14 (.go 15 (.pure 16 .done))))))))))))))))) hmix (by kernel_rfl) ?_
          repeat (first | (refine plan_move rfl rfl rfl ?_; (try simp only [Act.put, zq1, zq2, zq3, zq4, zq5, zq6])) | (refine plan_skipP rfl rfl ?_; (try simp only [Act.put, zq1, zq2, zq3, zq4, zq5, zq6])) | (refine plan_skip rfl hS rfl ?_; (try simp only [Act.put, zq1, zq2, zq3, zq4, zq5, zq6])) | (refine plan_pure (v := ?_) rfl rfl ?_ ?_; rotate_left; (intro w'; go_simp <;> with_reducible rfl); (try simp only [Act.put, zq1, zq2, zq3, zq4, zq5, zq6])) | (refine plan_take (v := ?_) rfl hS rfl ?_ ?_; rotate_left; (intro w' hSw; (try dsimp only at hSw); go_simp <;> with_reducible rfl); (try simp only [Act.put, zq1, zq2, zq3, zq4, zq5, zq6])))
          refine plan_goSkip rfl rfl (fun _ => hS) ?_; (try simp only [Act.put, zq1, zq2, zq3, zq4, zq5, zq6])
          refine plan_goSkip rfl rfl (fun _ => hS) ?_; (try simp only [Act.put, zq1, zq2, zq3, zq4, zq5, zq6])
          refine plan_pure (v := ?_) rfl rfl ?_ ?_; rotate_left; (intro w'; go_simp <;> with_reducible rfl); (try simp only [Act.put, zq1, zq2, zq3, zq4, zq5, zq6])
          refine plan_done ?_
          go_wp2
          go_ret
          refine ⟨rfl, ?_, hFi.drew⟩
          rw [HBD.out]
          exact hBi
        · have hSBi := keepBlk hB hSB (by decide) (by decide) hFi
          go_wp2_with (fail)
          have hS : (fun w' : World => w'.cell? ⟨p, 9, none⟩ = some (.func (.func 42) #[] #[.pointer (some ⟨sb, 0, none⟩)]) ∧ w'.cell? ⟨p, 0, none⟩ = some (.pointer (some ⟨b, 0, none⟩))) wr.drew := ⟨c9, c0⟩
          refine wp_region_plan [3, 9, 13] [14, 15] (fun w' : World => w'.cell? ⟨p, 9, none⟩ = some (.func (.func 42) #[] #[.pointer (some ⟨sb, 0, none⟩)]) ∧ w'.cell? ⟨p, 0, none⟩ = some (.pointer (some ⟨b, 0, none⟩))) (.pure 0 (.pure 1 (.pure 2 (.take 3 (.pure 4 (.pure 5 (.pure 6 (.pure 7 (.pure 8 (.take 9 (.pure 10 (.pure 11 (.pure 12 (.take 13 (.go 14 (.go 15 (.pure 16 .done))))))))))))))))) hmix (by kernel_rfl) ?_
          repeat (first | (refine plan_move rfl rfl rfl ?_; (try simp only [Act.put, zq1, zq2, zq3, zq4, zq5, zq6])) | (refine plan_skipP rfl rfl ?_; (try simp only [Act.put, zq1, zq2, zq3, zq4, zq5, zq6])) | (refine plan_skip rfl hS rfl ?_; (try simp only [Act.put, zq1, zq2, zq3, zq4, zq5, zq6])) | (refine plan_pure (v := ?_) rfl rfl ?_ ?_; rotate_left; (intro w'; go_simp <;> with_reducible rfl); (try simp only [Act.put, zq1, zq2, zq3, zq4, zq5, zq6])) | (refine plan_take (v := ?_) rfl hS rfl ?_ ?_; rotate_left; (intro w' hSw; (try dsimp only at hSw); go_simp <;> with_reducible rfl); (try simp only [Act.put, zq1, zq2, zq3, zq4, zq5, zq6])))
          refine plan_goS rfl rfl (fun K hK => ?_)
          go_simp; refine (text_c (hBi.drewN _)).mono ?_; rintro e w8 ⟨rfl, j8, rfl⟩; refine hK _ _ ⟨hS.1, hS.2⟩ ?_; clear hK K; (try simp only [Act.put, zq1, zq2, zq3, zq4, zq5, zq6])
          refine plan_go rfl (by kernel_rfl) rfl (fun K hK => ?_)
          go_simp; refine (exit_c (hSBi.drewN _) h10 _ false).mono ?_; rintro e w9 ⟨rfl, hF9⟩; refine hK _ _ ?_; clear hK K; (try simp only [Act.put, zq1, zq2, zq3, zq4, zq5, zq6])
          refine plan_pure (v := ?_) rfl rfl ?_ ?_; rotate_left; (intro w'; go_simp <;> with_reducible rfl); (try simp only [Act.put, zq1, zq2, zq3, zq4, zq5, zq6])
          refine plan_done ?_
          go_wp2
          go_ret
          refine ⟨rfl, ?_, (hFi.drewN _).ext hF9⟩
          rw [HBD.out]
          exact hF9.buf0 (hBi.drewN _)
end Go.Proofs.YtiepopbmbgfhkaaGreat
