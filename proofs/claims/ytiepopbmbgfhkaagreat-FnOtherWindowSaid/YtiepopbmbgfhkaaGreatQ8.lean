/-
  Rows of texts that the call owns; the history.
-/
import Derived.Test.YtiepopbmbgfhkaaGreatQ7
import Derived.Laws.OwnMore
namespace Go.Proofs.YtiepopbmbgfhkaaGreat
open Go.RowKit
open List renaming setIfInBounds_toArray → zq1, set_cons_zero → zq2, set_cons_succ → zq3
open Int renaming toNat_natCast → zq4, toNat_sub → zq5, toNat_zero → zq6
set_option maxHeartbeats 1000000
set_option maxRecDepth 20000
set_option linter.unusedVariables false
set_option linter.unusedSimpArgs false

/-- v is the slice of the texts xs, at the head of block g. -/
def SRow (w : World) (g : Nat) (v : Value) (xs : List ByteArray) : Prop :=
  ∃ cap cur, v = .slice (some ⟨g, 0, none⟩) xs.length cap ∧ Blk w g cur 9 ∧ xs.length ≤ cap ∧ cap ≤ maxLen ∧ cur.size = cap ∧ cur.toList.take xs.length = xs.map Value.string

section
variable {w w1 : World} {g base : Nat} {v : Value} {xs : List ByteArray}
theorem SRow.lt (h : SRow w g v xs) : g < w.heap.size := by
  obtain ⟨cap, cur, -, hB, -⟩ := h
  exact hB.lt
theorem SRow.blk (h : SRow w g v xs) : ∃ cur, Blk w g cur 9 := by
  obtain ⟨cap, cur, -, hB, -⟩ := h
  exact ⟨cur, hB⟩
theorem SRow.form (h : SRow w g v xs) : ∃ cap, v = .slice (some ⟨g, 0, none⟩) xs.length cap ∧ xs.length ≤ cap := by
  obtain ⟨cap, cur, h1, hB, h2, -⟩ := h
  exact ⟨cap, h1, h2⟩
theorem SRow.own (h : SRow w g v xs) (hb : base ≤ g) : w.ownsRow base 9 1 v xs.length (xs.map Value.string) := by
  obtain ⟨cap, cur, h1, hB, h2, h3, h4, h5⟩ := h
  exact ⟨by simp, .inr ⟨g, cap, cur, h1, hb, hB, h2, h3, by omega, by simpa using h5⟩⟩
theorem SRow.of_own {n : Nat} {ys : List Value} (h : w.ownsRow base 9 1 v n ys) (hv : v.ownBlock = some g) (hy : ys = xs.map Value.string) : SRow w g v xs := by
  obtain ⟨h1, ⟨rfl, h2⟩ | ⟨g', cap, cur, rfl, hb, hg, hn, hcap, hsz, ht⟩⟩ := h
  · simp [Value.ownBlock] at hv
  · simp [Value.ownBlock] at hv
    subst hv hy
    have hnx : n = xs.length := by simpa using h1.symm
    subst hnx
    exact ⟨cap, cur, rfl, hg, hn, hcap, by omega, by simpa using ht⟩
theorem SRow.get (h : SRow w g v xs) (i : Nat) (hi : i < xs.length) : w.cell? ⟨g, i, none⟩ = some (.string xs[i]) ∧ w.frozen? ⟨g, i, none⟩ = false := by
  obtain ⟨cap, cur, h1, hB, h2, h3, h4, h5⟩ := h
  refine ⟨?_, hB.frozen i⟩
  rw [hB.cell]
  have : (cur.toList.take xs.length)[i]? = (xs.map Value.string)[i]? := by rw [h5]
  rw [List.getElem?_take, if_pos hi] at this
  simpa [hi] using this
theorem SRow.set (h : SRow w g v xs) (i : Nat) (t : ByteArray) : SRow (w.setCell ⟨g, i, none⟩ (.string t)) g v (xs.set i t) := by
  obtain ⟨cap, cur, h1, hB, h2, h3, h4, h5⟩ := h
  refine ⟨cap, cur.setIfInBounds i (.string t), by simpa using h1, hB.set i _, by simpa using h2, h3, by simpa using h4, ?_⟩
  simp only [List.length_set, Array.toList_setIfInBounds, List.map_set, List.take_set]
  rw [h5]
theorem SRow.fr {ts bs : List Nat} (h : SRow w g v xs) (hF : Fr base ts bs w w1) (hb : g < base ∨ (g ∉ bs ∧ 9 ∉ ts)) : SRow w1 g v xs := by
  obtain ⟨cap, cur, h1, hB, h2, h3, h4, h5⟩ := h
  exact ⟨cap, cur, h1, hF.blk hB hb, h2, h3, h4, h5⟩
theorem SRow.drewN (h : SRow w g v xs) (n : Nat) : SRow (w.drewN n) g v xs := h
theorem SRow.fr0 (h : SRow w g v xs) (hF : Fr base [] [] w w1) : SRow w1 g v xs := h.fr hF (.inr ⟨by simp, by simp⟩)
end

theorem info9 : ∃ i, Tryz.prog.info? 9 = some i ∧ i.zero = some (.string .empty) ∧ i.size = 1 ∧ i.bytes = 16 := info_of (by kernel_rfl)

section
variable {o : Oper} {a : Act} {w : World} {K : Act → World → Prop} {Q : Exit → Act → World → Prop}
/-- 'append(v, ts...)': the new texts lie in a block that can be read. -/
theorem wp_apps {base g : Nat} {v : Value} {xs ys : List ByteArray} {b c : Nat} (s x : Operand) (ho : o.op = .call { callee := .builtin .append, args := #[s, x], argTypes := #[23, 23] })
    (hs : a.eval s = v) (hx : a.eval x = .slice (some ⟨b, 0, none⟩) ys.length c) (hr : SRow w g v xs) (hg : base ≤ g) (hd : ∀ j (hj : j < ys.length), w.cell? ⟨b, j, none⟩ = some (.string ys[j])) (hlen : xs.length + ys.length ≤ 1000000)
    (h : ∀ g' c' w', SRow w' g' (.slice (some ⟨g', 0, none⟩) (xs.length + ys.length) c') (xs ++ ys) → (g' = g ∨ g' = w.heap.size) → Fr base [] [g] w w' → K (a.put o.dst (.slice (some ⟨g', 0, none⟩) (xs.length + ys.length) c')) w') : o.wp Tryz.prog a w K Q := by
  obtain ⟨i, h1, h2, h3, h4⟩ := info9
  have hlt := hr.lt
  have hown := hr.own hg
  obtain ⟨v', w', hrun, hown', hgr, hnil, hat⟩ := run_append_own_at (P := Tryz.prog) w base 23 o.type 9 i (.string .empty) 1 16 (by kernel_rfl) h1 h2 h3 h4 rfl (by decide) v xs.length _ hown
    ⟨b, 0, none⟩ ys.length c (ys.map Value.string) (by simp) (fun j u hj => by
      rw [add_at]
      have hj' : j < ys.length := by have := (List.getElem?_eq_some_iff.1 hj).1; simpa using this
      rw [hd j hj']
      simp [hj'] at hj
      rw [hj])
    (fun u hu => by simp only [List.mem_map] at hu; obtain ⟨t, -, rfl⟩ := hu; rfl) (by simp only [maxLen]; omega) (by omega) (by omega)
  have hv : v.ownBlock = some g := by obtain ⟨cap, rfl, -⟩ := hr.form; rfl
  unfold Oper.wp execOp
  simp only [ho, resolve, invoke, builtin, Sem.run_bind, Sem.run_pure, Result.andThen_ok, List.map_toArray, List.map_cons, List.map_nil, hs, hx, hrun]
  have hF : Fr base [] [g] w w' := (Fr.refl base [] [g] w).grown hgr fun k hk => by
    rw [hv] at hk
    simp only [Option.some.injEq] at hk
    subst hk
    exact ⟨hg, .inl (by simp)⟩
  rcases hat with e | e
  · have hS : SRow w' g v' (xs ++ ys) := SRow.of_own hown' (by rw [e]; exact hv) (by simp)
    obtain ⟨c', rfl, -⟩ := hS.form
    rw [List.length_append] at hS ⊢
    exact h g c' w' hS (.inl rfl) hF
  · have hS : SRow w' w.heap.size v' (xs ++ ys) := SRow.of_own hown' e (by simp)
    obtain ⟨c', rfl, -⟩ := hS.form
    rw [List.length_append] at hS ⊢
    exact h _ c' w' hS (.inr rfl) hF

theorem one_text (w : World) (t : ByteArray) : ∀ j (hj : j < [t].length), (w.alloc (.cells #[.string t] 9)).cell? ⟨w.heap.size, j, none⟩ = some (.string [t][j]) := by
  intro j hj
  have h0 : j = 0 := by simpa using hj
  subst h0
  exact (Blk.new w #[.string t] 9).cell 0

/-- 'make([]string, n)' -/
theorem wp_makes (n : Nat) (l c : Operand) (ho : o.op = Op.makeSlice 23 l c) (hl : a.eval l = .int .i64 n) (hc : a.eval c = .int .i64 n) (hn : n ≤ 1000000)
    (h : ∀ w', SRow w' w.heap.size (.slice (some ⟨w.heap.size, 0, none⟩) n n) (List.replicate n .empty) → Fr 0 [] [] w w' → w.heap.size < w'.heap.size → K (a.put o.dst (.slice (some ⟨w.heap.size, 0, none⟩) n n)) w') : o.wp Tryz.prog a w K Q := by
  obtain ⟨i, h1, h2, h3, h4⟩ := info9
  obtain ⟨w', hrun, r1, r2⟩ := run_make_full (P := Tryz.prog) w 0 23 9 i (.string .empty) 1 (by kernel_rfl) h1 h2 h3 .i64 .i64 n (by rw [h4]; omega) (by simp only [maxLen]; omega) (by omega)
  unfold Oper.wp
  simp [execOp, ho, hl, hc, hrun, Result.andThen]
  have e : (madeCells (Value.string .empty).cells (n * 1)).toList = (List.replicate n ByteArray.empty).map Value.string := by
    rw [show (Value.string .empty).cells = #[Value.string .empty] from rfl, toList_madeCells_one]
    simp
  have hS := SRow.of_own (g := w.heap.size) r1 rfl e
  exact h w' hS ((Fr.refl _ _ _ _).grown r2 (by simp)) hS.lt
end

/-- The history at h: its lines hs (block gh), the texts as they are edited ts (block gt), and where it stands. -/
def Hist (base : Nat) (w : World) (h gh gt : Nat) (hs ts : List ByteArray) (sel : Nat) : Prop :=
  base ≤ h ∧ base ≤ gh ∧ base ≤ gt ∧ gh ≠ gt ∧ ∃ vh vt, Blk w h #[vh, vt, .int .i64 sel] 118 ∧ SRow w gh vh hs ∧ SRow w gt vt ts

theorem Hist.fr {base base' : Nat} {w w1 : World} {h gh gt : Nat} {hs ts : List ByteArray} {sel : Nat} {tt bs : List Nat} (H : Hist base w h gh gt hs ts sel) (hF : Fr base' tt bs w w1) (h1 : h ∉ bs) (h2 : gh ∉ bs) (h3 : gt ∉ bs) (h4 : 118 ∉ tt) (h5 : 9 ∉ tt) : Hist base w1 h gh gt hs ts sel := by
  obtain ⟨e1, e2, e3, e4, vh, vt, hB, hH, hT⟩ := H
  exact ⟨e1, e2, e3, e4, vh, vt, hF.blk hB (.inr ⟨h1, h4⟩), hH.fr hF (.inr ⟨h2, h5⟩), hT.fr hF (.inr ⟨h3, h5⟩)⟩
theorem Hist.fr0 {base base' : Nat} {w w1 : World} {h gh gt : Nat} {hs ts : List ByteArray} {sel : Nat} (H : Hist base w h gh gt hs ts sel) (hF : Fr base' [] [] w w1) : Hist base w1 h gh gt hs ts sel :=
  H.fr hF (by simp) (by simp) (by simp) (by simp) (by simp)
theorem Hist.lts {base : Nat} {w : World} {h gh gt : Nat} {hs ts : List ByteArray} {sel : Nat} (H : Hist base w h gh gt hs ts sel) : h < w.heap.size ∧ gh < w.heap.size ∧ gt < w.heap.size := by
  obtain ⟨e1, e2, e3, e4, vh, vt, hB, hH, hT⟩ := H
  exact ⟨hB.lt, hH.lt, hT.lt⟩

/-- The texts ahead of place i are copied. -/
def filled (hs : List ByteArray) (i : Nat) : List ByteArray := hs.take i ++ List.replicate (hs.length - i) .empty

theorem filled_set (hs : List ByteArray) (i : Nat) (h : i < hs.length) : (filled hs i).set i hs[i] = filled hs (i + 1) := by
  have h1 : hs.length - i = (hs.length - (i + 1)) + 1 := by omega
  have h2 : (hs.take i).length = i := by rw [List.length_take]; omega
  unfold filled
  rw [h1, List.replicate_succ, List.take_succ_eq_append_getElem h, List.append_assoc, List.set_append_right _ _ (by omega), h2, Nat.sub_self]
  rfl

theorem hClear_c {base : Nat} {w : World} {h gh : Nat} {hs : List ByteArray} {vh vt : Value} {sel : Int} (hbh : base ≤ h) (hbg : base ≤ gh) (hB : Blk w h #[vh, vt, .int .i64 sel] 118) (hH : SRow w gh vh hs) (hvt : ∃ p n c, vt = .slice p n c) (hs9 : hs.length ≤ 100000) :
    Calls Tryz.prog 71 #[.pointer (some ⟨h, 0, none⟩)] w fun e w' => e = .returned (.tuple #[]) ∧ (∃ gt', w.heap.size ≤ gt' ∧ Hist base w' h gh gt' hs (hs ++ [.empty]) hs.length) ∧ Fr base [] [h] w w' := by
  obtain ⟨c0, c1, c2, f0, f1, f2⟩ := hB.c3
  obtain ⟨cap, rfl, hcap⟩ := hH.form
  obtain ⟨tp, tn, tc, rfl⟩ := hvt
  have hlt := hB.lt
  have hne := (hH.blk.choose_spec.ne hB (by decide)).symm
  obtain ⟨M, hM⟩ : ∃ M, w.heap.size = M := ⟨_, rfl⟩
  go_enter Tryz.func71, Tryz.ntmps71
  go_wp2_with (first | (refine wpList_plain rfl (fun K hK => ?_); refine wp_makes hs.length _ _ rfl rfl rfl (by omega) ?_; intro w1 hS1 hF1 hlt1; refine hK _ _ ?_; clear hK K; have hB1 := hF1.blk0 hB; have hb1 := hB1.lt; obtain ⟨b0, b1, b2, bf0, bf1, bf2⟩ := hB1.c3))
  rw [hM] at hS1
  have hMh : M ≠ h := by omega
  have hMg : M ≠ gh := by have := hH.lt; omega
  have hMb : base ≤ M := by omega
  have hFr1 : Fr base [] [h] w w1 := hF1.any
  have hF2 := hFr1.setCell (a := ⟨h, 1, none⟩) hbh (.inl (by simp)) (.slice (some ⟨M, 0, none⟩) hs.length hs.length)
  have hB2 := hB1.set 1 (.slice (some ⟨M, 0, none⟩) hs.length hs.length)
  have hfs : Fr base [] [h] w1 (w1.setCell ⟨h, 1, none⟩ (.slice (some ⟨M, 0, none⟩) hs.length hs.length)) := (Fr.refl _ _ _ _).setCell hbh (.inl (by simp)) _
  have hS2 := hS1.fr hfs (.inr ⟨by simp; exact hMh, by simp⟩)
  have hH2 := (hH.fr0 hF1).fr hfs (.inr ⟨by simp; exact hne.symm, by simp⟩)
  go_loopw [17] (fun v17 w' => ∃ i : Nat, i ≤ hs.length ∧ v17 = .int .i64 i ∧ Blk w' h #[.slice (some ⟨gh, 0, none⟩) hs.length cap, .slice (some ⟨M, 0, none⟩) hs.length hs.length, .int .i64 sel] 118 ∧
      SRow w' gh (.slice (some ⟨gh, 0, none⟩) hs.length cap) hs ∧ SRow w' M (.slice (some ⟨M, 0, none⟩) hs.length hs.length) (filled hs i) ∧ Fr base [] [h] w w') (fun v17 _ => hs.length - (intOf v17).toNat)
  case atStart => exact ⟨0, by omega, rfl, hB2, hH2, by simpa [filled] using hS2, hF2⟩
  case round =>
    obtain ⟨i, hi, rfl, hB3, hH3, hS3, hF3⟩ := hrel
    obtain ⟨c0, c1, c2, f0, f1, f2⟩ := hB3.c3
    have blt := hB3.lt
    by_cases hlt2 : i < hs.length
    · have d1 : decide ((i : Int) < hs.length) = true := by simpa using hlt2
      obtain ⟨g1, -⟩ := hH3.get i hlt2
      have hfl : (filled hs i).length = hs.length := by simp [filled]; omega
      obtain ⟨g2, g3⟩ := hS3.get i (by omega)
      have slt := hS3.lt
      go_wp2_with (fail)
      have hS : (fun w' : World => w'.cell? ⟨h, 0, none⟩ = some (.slice (some ⟨gh, 0, none⟩) hs.length cap) ∧ w'.cell? ⟨h, 1, none⟩ = some (.slice (some ⟨M, 0, none⟩) hs.length hs.length) ∧ w'.cell? ⟨gh, i, none⟩ = some (.string hs[i])) wr.drew := ⟨c0, c1, g1⟩
      refine wp_region_plan [3, 8, 11] [13] (fun w' => w'.cell? ⟨h, 0, none⟩ = some (.slice (some ⟨gh, 0, none⟩) hs.length cap) ∧ w'.cell? ⟨h, 1, none⟩ = some (.slice (some ⟨M, 0, none⟩) hs.length hs.length) ∧ w'.cell? ⟨gh, i, none⟩ = some (.string hs[i])) (.pure 0 (.pure 1 (.pure 2 (.take 3 (.pure 4 (.pure 5 (.pure 6 (.pure 7 (.take 8 (.pure 9 (.pure 10 (.take 11 (.pure 12 (.go 13 .done)))))))))))))) hmix (by kernel_rfl) ?_
      repeat (first | (refine plan_move rfl rfl rfl ?_; (try simp only [Act.put, zq1, zq2, zq3, zq4, zq5, zq6])) | (refine plan_pure (v := ?_) rfl rfl ?_ ?_; rotate_left; (intro w'; go_simp <;> with_reducible rfl); (try simp only [Act.put, zq1, zq2, zq3, zq4, zq5, zq6])) | (refine plan_take (v := ?_) rfl hS rfl ?_ ?_; rotate_left; (intro w' hSw; (try dsimp only at hSw); go_simp <;> with_reducible rfl); (try simp only [Act.put, zq1, zq2, zq3, zq4, zq5, zq6])))
      refine plan_go rfl (by kernel_rfl) rfl (fun K hK => ?_)
      go_simp; refine hK _ _ ?_; clear hK K; (try simp only [Act.put, zq1, zq2, zq3, zq4, zq5, zq6])
      refine plan_done ?_
      go_wp2
      go_roundw
      case rel =>
        have hfs2 : Fr base [] [M] wr (wr.setCell ⟨M, i, none⟩ (.string hs[i])) := (Fr.refl _ _ _ _).setCell hMb (.inl (by simp)) _
        refine ⟨i + 1, by omega, by simp, hB3.other hMh.symm _, hH3.fr hfs2.drew (.inr ⟨by simp; exact hMg.symm, by simp⟩), ?_, (hF3.setCell (a := ⟨M, i, none⟩) hMb (.inr (.inl (by show _ ≤ M; omega))) _).drew⟩
        have := hS3.set i hs[i]
        rw [filled_set hs i hlt2] at this
        exact this
      case measure => simp [intOf]; omega
    · have d1 : decide ((i : Int) < hs.length) = false := by simpa using hlt2
      have e : i = hs.length := by omega
      have e2 : filled hs i = hs := by subst e; simp [filled]
      rw [e2] at hS3
      have E := Lib.hid e
      clear e e2
      go_wp2_with (first | (refine wpList_plain rfl (fun K hK => ?_); refine wp_apps (ys := [.empty]) (base := base) _ _ rfl rfl rfl (hS3.fr0 ((Fr.refl 0 [] [] _).alloc _)) hMb (one_text _ _) (by simp; omega) ?_; intro g' c' w4 hS4 hg4 hF4; refine hK _ _ ?_; clear hK K; have hB4 := (hF4.blk (hB3.alloc _) (.inr ⟨by simp; exact hMh.symm, by simp⟩)); obtain ⟨k0, k1, k2, kf0, kf1, kf2⟩ := hB4.c3; have klt := hB4.lt))
      go_end0
      have hgM : g' ≠ h ∧ base ≤ g' ∧ g' ≠ gh ∧ M ≤ g' := by
        have h9 := hF3.size
        have h8 := hH3.lt
        rcases hg4 with rfl | e9
        · exact ⟨hMh, hMb, hMg, Nat.le_refl _⟩
        · simp at e9
          omega
      obtain ⟨q1, q2, q3, q4⟩ := hgM
      have hHa := (hH3.fr0 ((Fr.refl 0 [] [] wr).alloc (.cells #[.string ⟨#[]⟩] 9))).fr hF4 (.inr ⟨by simp; exact hMg.symm, by simp⟩)
      have hF5 : Fr base [] [h] w w4 := (hF3.alloc _).step hF4 (by simp) (fun b hb => .inr (.inl (by simp at hb; omega)))
      have hf9 : ∀ u v, Fr base [] [h] w4 ((w4.setCell ⟨h, 1, none⟩ u).setCell ⟨h, 2, none⟩ v) := fun u v => ((Fr.refl _ _ _ _).setCell (a := ⟨h, 1, none⟩) hbh (.inl (by simp)) _).setCell (a := ⟨h, 2, none⟩) hbh (.inl (by simp)) _
      refine ⟨rfl, ⟨g', by omega, hbh, hbg, q2, q3.symm, _, _, (hB4.set 1 _).set 2 _, ?_, ?_⟩, hF5.trans (hf9 _ _)⟩
      · exact hHa.fr (hf9 _ _) (.inr ⟨by simp; exact fun e => hne e.symm, by simp⟩)
      · exact hS4.fr (hf9 _ _) (.inr ⟨by simp; exact q1, by simp⟩)

theorem hAdd_c {base : Nat} {w : World} {h gh gt : Nat} {hs ts : List ByteArray} {sel : Nat} (H : Hist base w h gh gt hs ts sel) (t : ByteArray) (hs9 : hs.length ≤ 10000) :
    Calls Tryz.prog 88 #[.pointer (some ⟨h, 0, none⟩), .string t] w fun e w' => e = .returned (.tuple #[]) ∧ (∃ gh' gt', (gh' = gh ∨ w.heap.size ≤ gh') ∧ w.heap.size ≤ gt' ∧ Hist base w' h gh' gt' (hs ++ [t]) (hs ++ [t] ++ [.empty]) (hs.length + 1)) ∧ Fr base [] [h, gh] w w' := by
  obtain ⟨hbh, hbg, hbt, hne, vh, vt, hB, hH, hT⟩ := H
  obtain ⟨c0, c1, c2, f0, f1, f2⟩ := hB.c3
  obtain ⟨cap, rfl, hcap⟩ := hH.form
  obtain ⟨capt, rfl, hcapt⟩ := hT.form
  have hlt := hB.lt
  have hgl := hH.lt
  have hnh : h ≠ gh := (hH.blk.choose_spec.ne hB (by decide)).symm
  go_enter Tryz.func88, Tryz.ntmps88
  go_wp2_with (first | (refine wpList_plain rfl (fun K hK => ?_); refine wp_apps (ys := [t]) (base := base) _ _ rfl rfl rfl (hH.fr0 ((Fr.refl 0 [] [] _).alloc _)) hbg (one_text _ _) (by simp; omega) ?_; intro g' c' w4 hS4 hg4 hF4; refine hK _ _ ?_; clear hK K; have hB4 := (hF4.blk (hB.alloc _) (.inr ⟨by simp; exact hnh, by simp⟩)); obtain ⟨k0, k1, k2, kf0, kf1, kf2⟩ := hB4.c3; have klt := hB4.lt))
  have hg' : g' ≠ h ∧ base ≤ g' ∧ (g' = gh ∨ w.heap.size ≤ g') := by
    rcases hg4 with rfl | e9
    · exact ⟨fun e => hnh e.symm, hbg, .inl rfl⟩
    · simp at e9
      omega
  obtain ⟨q1, q2, q3⟩ := hg'
  have hf9 : ∀ u, Fr base [] [h] w4 (w4.setCell ⟨h, 0, none⟩ u) := fun u => ((Fr.refl _ _ _ _).setCell (a := ⟨h, 0, none⟩) hbh (.inl (by simp)) _)
  have hS5 := hS4.fr (hf9 (.slice (some ⟨g', 0, none⟩) (hs.length + [t].length) c')) (.inr ⟨by simp; exact q1, by simp⟩)
  have hB5 := hB4.set 0 (.slice (some ⟨g', 0, none⟩) (hs.length + [t].length) c')
  have hF5 : Fr base [] [h, gh] w w4 := ((Fr.refl _ _ _ _).alloc _).step hF4 (by simp) (fun b hb => .inl (by simp at hb; simp [hb]))
  have hF6 := hF5.into (hf9 (.slice (some ⟨g', 0, none⟩) (hs.length + [t].length) c')) (by simp) (by simp)
  refine (hClear_c hbh q2 hB5 hS5 ⟨_, _, _, rfl⟩ (by simp; omega)).mono ?_
  rintro e w6 ⟨rfl, ⟨gt', h1, h2⟩, h3⟩
  go_wp2
  go_end0
  refine ⟨rfl, ⟨g', gt', q3, ?_, ?_⟩, hF6.into h3 (by simp) (by simp)⟩
  · have := hF6.size
    omega
  · simpa using h2

theorem newBuffer_c (w : World) : Calls Tryz.prog 68 #[] w fun e w' => ∃ b L, e = .returned (.pointer (some ⟨b, 0, none⟩)) ∧ L = w.heap.size ∧ b = w.heap.size + 1 ∧ Buf w.heap.size w' b L .empty 0 ∧ Fr 0 [] [] w w' := by
  go_enter Tryz.func68, Tryz.ntmps68
  go_wp2_with (fail)
  go_ret
  exact ⟨_, _, rfl, rfl, rfl, ⟨by omega, by omega, none, -1, Blk.new' (by simp) _ _, (Blk.new w _ _).alloc _, .inl rfl⟩, ((Fr.refl _ _ _ _).alloc _).alloc _⟩

theorem insert_empty (v : ByteArray) : ByteArray.empty.extract 0 0 ++ v ++ ByteArray.empty.extract 0 ByteArray.empty.size = v := by
  apply ByteArray.ext
  simp

theorem Buf.base {base base' : Nat} {w : World} {b L : Nat} {t : ByteArray} {k : Nat} (h : Buf base w b L t k) (hb : base' ≤ base) : Buf base' w b L t k := by
  obtain ⟨h1, h2, r⟩ := h
  exact ⟨by omega, by omega, r⟩

/-- A new buffer with a text, the cursor behind it. -/
theorem asc_empty : Asc .empty := fun i h => absurd h (by simp)

theorem older_no {base : Nat} {w : World} {h gh gt b : Nat} {hs ts : List ByteArray} {sel : Nat} (H : Hist base w h gh gt hs ts sel) (hno : ts.length = 1 ∨ sel = 0) (h9 : ts.length ≤ 1000000):
    Calls Tryz.prog 89 #[.pointer (some ⟨h, 0, none⟩), .pointer (some ⟨b, 0, none⟩)] w fun e w' => e = .returned (.tuple #[.pointer (some ⟨b, 0, none⟩), .bool false]) ∧ Fr 0 [] [] w w' := by
  obtain ⟨hbh, hbg, hbt, hne, vh, vt, hB, hH, hT⟩ := H
  obtain ⟨c0, c1, c2, f0, f1, f2⟩ := hB.c3
  obtain ⟨cap, rfl, hcap⟩ := hH.form
  obtain ⟨capt, rfl, hcapt⟩ := hT.form
  have hlt := hB.lt
  by_cases h1 : ts.length = 1
  · have d1 : ((ts.length : Int) == 1) = true := by rw [h1]; rfl
    go_enter Tryz.func89, Tryz.ntmps89
    go_wp2_with (fail)
    go_ret2
    exact ⟨rfl, Fr.refl _ _ _ _⟩
  · have d1 : ((ts.length : Int) == 1) = false := (int_ne (by omega)).1
    have h0 : sel = 0 := by omega
    subst h0
    go_enter Tryz.func89, Tryz.ntmps89
    go_wp2_with (fail)
    go_ret2
    exact ⟨rfl, Fr.refl _ _ _ _⟩

/-- A turn over the history: a new buffer with the text u. -/
def Turned (base h gh gt : Nat) (hs ts : List ByteArray) (sel : Nat) (u : ByteArray) (w : World) (e : Ending) (w' : World) : Prop :=
  ∃ b' L', e = .returned (.tuple #[.pointer (some ⟨b', 0, none⟩), .bool true]) ∧ w.heap.size ≤ b' ∧ w.heap.size ≤ L' ∧ Hist base w' h gh gt hs ts sel ∧ Buf base w' b' L' u u.size ∧ Fr base [] [h, gt] w w'

theorem older_yes {base : Nat} {w : World} {h gh gt b L : Nat} {hs ts : List ByteArray} {s k : Nat} {t u : ByteArray} (H : Hist base w h gh gt hs ts (s + 1)) (hBuf : Buf base w b L t k) (h2 : s + 1 < ts.length) (hu : ts[s]? = some u) (ha : Asc u) (hus : u.size ≤ 1000000) (h9 : ts.length ≤ 100000) :
    Calls Tryz.prog 89 #[.pointer (some ⟨h, 0, none⟩), .pointer (some ⟨b, 0, none⟩)] w (Turned base h gh gt hs (ts.set (s + 1) t) s u w) := by
  obtain ⟨hbh, hbg, hbt, hne, vh, vt, hB, hH, hT⟩ := H
  obtain ⟨c0, c1, c2, f0, f1, f2⟩ := hB.c3
  obtain ⟨cap, rfl, hcap⟩ := hH.form
  obtain ⟨capt, rfl, hcapt⟩ := hT.form
  have hlt := hB.lt
  have htl := hT.lt
  have hnt : gt ≠ h := hT.blk.choose_spec.ne hB (by decide)
  have hnh : gh ≠ h := hH.blk.choose_spec.ne hB (by decide)
  obtain ⟨g1, g2⟩ := hT.get (s + 1) (by omega)
  have hul : s < ts.length := by omega
  have huu : (ts.set (s + 1) t)[s]'(by simp; omega) = u := by
    rw [List.getElem_set_ne (by omega)]
    rw [List.getElem?_eq_getElem hul] at hu
    exact Option.some.inj hu
  have d1 : ((ts.length : Int) == 1) = false := (int_ne (by omega)).1
  have d2 : (((s + 1 : Nat) : Int) == 0) = false := (int_ne (by omega)).1
  have d3 : (0 : Int) ≤ (s : Int) + 1 := by omega
  have d4 : (s : Int) + 1 < (ts.length : Int) := by omega
  go_enter Tryz.func89, Tryz.ntmps89
  go_wp2_with (fail)

  have hS : (fun w' : World => w'.cell? ⟨h, 1, none⟩ = some (.slice (some ⟨gt, 0, none⟩) ts.length capt) ∧ w'.cell? ⟨h, 2, none⟩ = some (.int .i64 (s + 1 : Nat))) w.drew := ⟨c1, c2⟩
  refine wp_region_plan [3, 7] [9, 11] (fun w' => w'.cell? ⟨h, 1, none⟩ = some (.slice (some ⟨gt, 0, none⟩) ts.length capt) ∧ w'.cell? ⟨h, 2, none⟩ = some (.int .i64 (s + 1 : Nat))) (.pure 0 (.pure 1 (.pure 2 (.take 3 (.pure 4 (.pure 5 (.pure 6 (.take 7 (.pure 8 (.go 9 (.pure 10 (.go 11 .done)))))))))))) hmix (by kernel_rfl) ?_
  repeat (first | (refine plan_move rfl rfl rfl ?_; (try simp only [Act.put, zq1, zq2, zq3, zq4, zq5, zq6])) | (refine plan_pure (v := ?_) rfl rfl ?_ ?_; rotate_left; (intro w'; go_simp <;> with_reducible rfl); (try simp only [Act.put, zq1, zq2, zq3, zq4, zq5, zq6])) | (refine plan_take (v := ?_) rfl hS rfl ?_ ?_; rotate_left; (intro w' hSw; (try dsimp only at hSw); go_simp <;> with_reducible rfl); (try simp only [Act.put, zq1, zq2, zq3, zq4, zq5, zq6])))
  refine plan_goS rfl rfl (fun K hK => ?_)
  go_simp; refine (text_c (hBuf.drewN 1)).mono ?_; rintro e w1 ⟨rfl, n, rfl⟩; refine hK _ _ ⟨c1, c2⟩ ?_; clear hK K; (try simp only [Act.put, zq1, zq2, zq3, zq4, zq5, zq6])
  refine plan_pure (v := ?_) rfl rfl ?_ ?_; rotate_left; (intro w'; go_simp <;> with_reducible rfl); (try simp only [Act.put, zq1, zq2, zq3, zq4, zq5, zq6])
  refine plan_go rfl (by kernel_rfl) rfl (fun K hK => ?_)
  go_simp; refine hK _ _ ?_; clear hK K; (try simp only [Act.put, zq1, zq2, zq3, zq4, zq5, zq6])
  refine plan_done ?_
  go_wp2_with (fail)
  have hB2 := ((hB.other (a := ⟨gt, s + 1, none⟩) hnt.symm (.string t)).set 2 (.int .i64 (s : Nat)))
  have hF2 : Fr base [] [h, gt] w ((w.setCell ⟨gt, s + 1, none⟩ (.string t)).setCell ⟨h, 2, none⟩ (.int .i64 (s : Nat))) := ((Fr.refl _ _ _ _).setCell (a := ⟨gt, s + 1, none⟩) hbt (.inl (by simp)) _).setCell (a := ⟨h, 2, none⟩) hbh (.inl (by simp)) _
  have hf3 : Fr base [] [h] (w.setCell ⟨gt, s + 1, none⟩ (.string t)) ((w.setCell ⟨gt, s + 1, none⟩ (.string t)).setCell ⟨h, 2, none⟩ (.int .i64 (s : Nat))) := (Fr.refl _ _ _ _).setCell (a := ⟨h, 2, none⟩) hbh (.inl (by simp)) _
  have hT2 := (hT.set (s + 1) t).fr hf3 (.inr ⟨by simp; exact hnt, by simp⟩)
  have hH2 := hH.fr (hF2.mono (ts' := []) (bs' := [h, gt]) (by simp) (by simp)) (.inr ⟨by simp; exact ⟨hnh, hne⟩, by simp⟩)
  refine (newBuffer_c _).mono ?_
  rintro e w5 ⟨b', L', rfl, hL', hb', hBf, hF5⟩
  have hsz5 := hF2.size
  have hB5 := hF5.blk0 (hB2.drewN (1 + n))
  have hT5 := (hT2.drewN (1 + n)).fr0 hF5
  have hH5 := (hH2.drewN (1 + n)).fr0 hF5
  have hF6 := (hF2.drewN (1 + n)).ext hF5
  obtain ⟨m1, m2⟩ := hT5.get s (by simp; omega)
  rw [huu] at m1
  obtain ⟨k0, k1, k2, kf0, kf1, kf2⟩ := hB5.c3
  have hlt5 := hB5.lt
  have hlt6 := hT5.lt
  have hbs : w.heap.size ≤ b' ∧ w.heap.size ≤ L' ∧ base ≤ b' ∧ base ≤ L' := by simp at hL' hb' hsz5; omega
  have hbq := (hBf.cells).2.2
  have hBf' : Buf base w5 b' L' .empty 0 := hBf.base (by simp at hsz5 ⊢; omega)
  clear hL' hb' hBf
  have e5 : (s : Int) < (ts.length : Int) := by omega
  go_wp2_with (fail)
  have hS : (fun w' : World => w'.cell? ⟨h, 1, none⟩ = some (.slice (some ⟨gt, 0, none⟩) ts.length capt) ∧ w'.cell? ⟨h, 2, none⟩ = some (.int .i64 (s : Nat)) ∧ w'.cell? ⟨gt, s, none⟩ = some (.string u)) w5.drew := ⟨k1, k2, m1⟩
  refine wp_region_plan [4, 8, 10] [11] (fun w' => w'.cell? ⟨h, 1, none⟩ = some (.slice (some ⟨gt, 0, none⟩) ts.length capt) ∧ w'.cell? ⟨h, 2, none⟩ = some (.int .i64 (s : Nat)) ∧ w'.cell? ⟨gt, s, none⟩ = some (.string u)) (.pure 0 (.pure 1 (.pure 2 (.pure 3 (.take 4 (.pure 5 (.pure 6 (.pure 7 (.take 8 (.pure 9 (.take 10 (.go 11 .done)))))))))))) hmix (by kernel_rfl) ?_
  repeat (first | (refine plan_move rfl rfl rfl ?_; (try simp only [Act.put, zq1, zq2, zq3, zq4, zq5, zq6])) | (refine plan_pure (v := ?_) rfl rfl ?_ ?_; rotate_left; (intro w'; go_simp <;> with_reducible rfl); (try simp only [Act.put, zq1, zq2, zq3, zq4, zq5, zq6])) | (refine plan_take (v := ?_) rfl hS rfl ?_ ?_; rotate_left; (intro w' hSw; (try dsimp only at hSw); go_simp <;> with_reducible rfl); (try simp only [Act.put, zq1, zq2, zq3, zq4, zq5, zq6])))
  refine plan_go rfl (by kernel_rfl) rfl (fun K hK => ?_)
  go_simp; refine (insert_c (hBf'.drewN 1) u asc_empty ha (by simp) hus (by simp)).mono ?_; rintro e w7 ⟨rfl, hB7, hF7⟩; refine hK _ _ ?_; clear hK K; (try simp only [Act.put, zq1, zq2, zq3, zq4, zq5, zq6])
  refine plan_done ?_
  rw [insert_empty] at hB7
  go_wp2
  go_ret2
  have hb7 : h ≠ b' ∧ h ≠ L' ∧ gh ≠ b' ∧ gh ≠ L' ∧ gt ≠ b' ∧ gt ≠ L' := by
    have := hH.lt
    omega
  obtain ⟨r1, r2, r3, r4, r5, r6⟩ := hb7
  refine ⟨b', L', rfl, hbs.1, hbs.2.1, ⟨hbh, hbg, hbt, hne, _, _, hF7.blk (hB5.drewN 1) (.inr ⟨by simp only [List.mem_cons, List.not_mem_nil, or_false, not_or]; exact ⟨r1, r2⟩, by simp⟩), (hH5.drewN 1).fr hF7 (.inr ⟨by simp only [List.mem_cons, List.not_mem_nil, or_false, not_or]; exact ⟨r3, r4⟩, by simp⟩), (hT5.drewN 1).fr hF7 (.inr ⟨by simp only [List.mem_cons, List.not_mem_nil, or_false, not_or]; exact ⟨r5, r6⟩, by simp⟩)⟩, by simpa using hB7, ?_⟩
  exact (hF6.drewN 1).step hF7 (by simp) fun x hx => .inr (.inl (by simp at hx; omega))

theorem newer_yes {base : Nat} {w : World} {h gh gt b L : Nat} {hs ts : List ByteArray} {s k : Nat} {t u : ByteArray} (H : Hist base w h gh gt hs ts s) (hBuf : Buf base w b L t k) (h2 : s + 1 < ts.length) (hu : ts[s + 1]? = some u) (ha : Asc u) (hus : u.size ≤ 1000000) (h9 : ts.length ≤ 100000) :
    Calls Tryz.prog 90 #[.pointer (some ⟨h, 0, none⟩), .pointer (some ⟨b, 0, none⟩)] w (Turned base h gh gt hs (ts.set s t) (s + 1) u w) := by
  obtain ⟨hbh, hbg, hbt, hne, vh, vt, hB, hH, hT⟩ := H
  obtain ⟨c0, c1, c2, f0, f1, f2⟩ := hB.c3
  obtain ⟨cap, rfl, hcap⟩ := hH.form
  obtain ⟨capt, rfl, hcapt⟩ := hT.form
  have hlt := hB.lt
  have htl := hT.lt
  have hnt : gt ≠ h := hT.blk.choose_spec.ne hB (by decide)
  have hnh : gh ≠ h := hH.blk.choose_spec.ne hB (by decide)
  obtain ⟨g1, g2⟩ := hT.get s (by omega)
  have hul : s + 1 < ts.length := by omega
  have huu : (ts.set s t)[s + 1]'(by simp; omega) = u := by
    rw [List.getElem_set_ne (by omega)]
    rw [List.getElem?_eq_getElem hul] at hu
    exact Option.some.inj hu
  have d1 : decide ((ts.length : Int) - 1 ≤ (s : Int)) = false := by simp; omega
  have d2 : (0 : Int) ≤ (s : Int) + 1 := by omega
  have d3 : (s : Int) < (ts.length : Int) := by omega
  go_enter Tryz.func90, Tryz.ntmps90
  go_wp2_with (fail)
  go_quiet (fail)
  go_wp2_with (fail)

  have hS : (fun w' : World => w'.cell? ⟨h, 1, none⟩ = some (.slice (some ⟨gt, 0, none⟩) ts.length capt) ∧ w'.cell? ⟨h, 2, none⟩ = some (.int .i64 (s : Nat))) (w.drewN nq).drew := ⟨c1, c2⟩
  refine wp_region_plan [3, 7] [9, 11] (fun w' => w'.cell? ⟨h, 1, none⟩ = some (.slice (some ⟨gt, 0, none⟩) ts.length capt) ∧ w'.cell? ⟨h, 2, none⟩ = some (.int .i64 (s : Nat))) (.pure 0 (.pure 1 (.pure 2 (.take 3 (.pure 4 (.pure 5 (.pure 6 (.take 7 (.pure 8 (.go 9 (.pure 10 (.go 11 .done)))))))))))) hmix (by kernel_rfl) ?_
  repeat (first | (refine plan_move rfl rfl rfl ?_; (try simp only [Act.put, zq1, zq2, zq3, zq4, zq5, zq6])) | (refine plan_pure (v := ?_) rfl rfl ?_ ?_; rotate_left; (intro w'; go_simp <;> with_reducible rfl); (try simp only [Act.put, zq1, zq2, zq3, zq4, zq5, zq6])) | (refine plan_take (v := ?_) rfl hS rfl ?_ ?_; rotate_left; (intro w' hSw; (try dsimp only at hSw); go_simp <;> with_reducible rfl); (try simp only [Act.put, zq1, zq2, zq3, zq4, zq5, zq6])))
  refine plan_goS rfl rfl (fun K hK => ?_)
  go_simp; refine (text_c (hBuf.drewN _)).mono ?_; rintro e w1 ⟨rfl, n, rfl⟩; refine hK _ _ ⟨c1, c2⟩ ?_; clear hK K; (try simp only [Act.put, zq1, zq2, zq3, zq4, zq5, zq6])
  refine plan_pure (v := ?_) rfl rfl ?_ ?_; rotate_left; (intro w'; go_simp <;> with_reducible rfl); (try simp only [Act.put, zq1, zq2, zq3, zq4, zq5, zq6])
  refine plan_go rfl (by kernel_rfl) rfl (fun K hK => ?_)
  go_simp; refine hK _ _ ?_; clear hK K; (try simp only [Act.put, zq1, zq2, zq3, zq4, zq5, zq6])
  refine plan_done ?_
  go_wp2_with (fail)
  have hB2 := ((hB.other (a := ⟨gt, s, none⟩) hnt.symm (.string t)).set 2 (.int .i64 ((s : Int) + 1)))
  have hF2 : Fr base [] [h, gt] w ((w.setCell ⟨gt, s, none⟩ (.string t)).setCell ⟨h, 2, none⟩ (.int .i64 ((s : Int) + 1))) := ((Fr.refl _ _ _ _).setCell (a := ⟨gt, s, none⟩) hbt (.inl (by simp)) _).setCell (a := ⟨h, 2, none⟩) hbh (.inl (by simp)) _
  have hf3 : Fr base [] [h] (w.setCell ⟨gt, s, none⟩ (.string t)) ((w.setCell ⟨gt, s, none⟩ (.string t)).setCell ⟨h, 2, none⟩ (.int .i64 ((s : Int) + 1))) := (Fr.refl _ _ _ _).setCell (a := ⟨h, 2, none⟩) hbh (.inl (by simp)) _
  have hT2 := (hT.set s t).fr hf3 (.inr ⟨by simp; exact hnt, by simp⟩)
  have hH2 := hH.fr (hF2.mono (ts' := []) (bs' := [h, gt]) (by simp) (by simp)) (.inr ⟨by simp; exact ⟨hnh, hne⟩, by simp⟩)
  refine (newBuffer_c _).mono ?_
  rintro e w5 ⟨b', L', rfl, hL', hb', hBf, hF5⟩
  have hsz5 := hF2.size
  have hB5 := hF5.blk0 (hB2.drewN _)
  have hT5 := (hT2.drewN _).fr0 hF5
  have hH5 := (hH2.drewN _).fr0 hF5
  have hF6 := (hF2.drewN _).ext hF5
  obtain ⟨m1, m2⟩ := hT5.get (s + 1) (by simp; omega)
  rw [huu] at m1
  obtain ⟨k0, k1, k2, kf0, kf1, kf2⟩ := hB5.c3
  have hlt5 := hB5.lt
  have hlt6 := hT5.lt
  have hbs : w.heap.size ≤ b' ∧ w.heap.size ≤ L' ∧ base ≤ b' ∧ base ≤ L' := by simp at hL' hb' hsz5; omega
  have hbq := (hBf.cells).2.2
  have hBf' : Buf base w5 b' L' .empty 0 := hBf.base (by simp at hsz5 ⊢; omega)
  clear hL' hb' hBf
  have e5 : (s : Int) + 1 < (ts.length : Int) := by omega
  go_wp2_with (fail)
  have hS : (fun w' : World => w'.cell? ⟨h, 1, none⟩ = some (.slice (some ⟨gt, 0, none⟩) ts.length capt) ∧ w'.cell? ⟨h, 2, none⟩ = some (.int .i64 ((s : Int) + 1)) ∧ w'.cell? ⟨gt, s + 1, none⟩ = some (.string u)) w5.drew := ⟨k1, k2, m1⟩
  refine wp_region_plan [4, 8, 10] [11] (fun w' => w'.cell? ⟨h, 1, none⟩ = some (.slice (some ⟨gt, 0, none⟩) ts.length capt) ∧ w'.cell? ⟨h, 2, none⟩ = some (.int .i64 ((s : Int) + 1)) ∧ w'.cell? ⟨gt, s + 1, none⟩ = some (.string u)) (.pure 0 (.pure 1 (.pure 2 (.pure 3 (.take 4 (.pure 5 (.pure 6 (.pure 7 (.take 8 (.pure 9 (.take 10 (.go 11 .done)))))))))))) hmix (by kernel_rfl) ?_
  repeat (first | (refine plan_move rfl rfl rfl ?_; (try simp only [Act.put, zq1, zq2, zq3, zq4, zq5, zq6])) | (refine plan_pure (v := ?_) rfl rfl ?_ ?_; rotate_left; (intro w'; go_simp <;> with_reducible rfl); (try simp only [Act.put, zq1, zq2, zq3, zq4, zq5, zq6])) | (refine plan_take (v := ?_) rfl hS rfl ?_ ?_; rotate_left; (intro w' hSw; (try dsimp only at hSw); go_simp <;> with_reducible rfl); (try simp only [Act.put, zq1, zq2, zq3, zq4, zq5, zq6])))
  refine plan_go rfl (by kernel_rfl) rfl (fun K hK => ?_)
  go_simp; refine (insert_c (hBf'.drewN 1) u asc_empty ha (by simp) hus (by simp)).mono ?_; rintro e w7 ⟨rfl, hB7, hF7⟩; refine hK _ _ ?_; clear hK K; (try simp only [Act.put, zq1, zq2, zq3, zq4, zq5, zq6])
  refine plan_done ?_
  rw [insert_empty] at hB7
  go_wp2
  go_ret2
  have hb7 : h ≠ b' ∧ h ≠ L' ∧ gh ≠ b' ∧ gh ≠ L' ∧ gt ≠ b' ∧ gt ≠ L' := by
    have := hH.lt
    omega
  obtain ⟨r1, r2, r3, r4, r5, r6⟩ := hb7
  refine ⟨b', L', rfl, hbs.1, hbs.2.1, ⟨hbh, hbg, hbt, hne, _, _, hF7.blk (hB5.drewN 1) (.inr ⟨by simp only [List.mem_cons, List.not_mem_nil, or_false, not_or]; exact ⟨r1, r2⟩, by simp⟩), (hH5.drewN 1).fr hF7 (.inr ⟨by simp only [List.mem_cons, List.not_mem_nil, or_false, not_or]; exact ⟨r3, r4⟩, by simp⟩), (hT5.drewN 1).fr hF7 (.inr ⟨by simp only [List.mem_cons, List.not_mem_nil, or_false, not_or]; exact ⟨r5, r6⟩, by simp⟩)⟩, by simpa using hB7, ?_⟩
  exact (hF6.drewN 1).step hF7 (by simp) fun x hx => .inr (.inl (by simp at hx; omega))


theorem newer_no {base : Nat} {w : World} {h gh gt b : Nat} {hs ts : List ByteArray} {sel : Nat} (H : Hist base w h gh gt hs ts sel) (hno : ts.length ≤ sel + 1) (h9 : ts.length ≤ 1000000) (h8 : sel ≤ 1000000) :
    Calls Tryz.prog 90 #[.pointer (some ⟨h, 0, none⟩), .pointer (some ⟨b, 0, none⟩)] w fun e w' => e = .returned (.tuple #[.pointer (some ⟨b, 0, none⟩), .bool false]) ∧ Fr 0 [] [] w w' := by
  obtain ⟨hbh, hbg, hbt, hne, vh, vt, hB, hH, hT⟩ := H
  obtain ⟨c0, c1, c2, f0, f1, f2⟩ := hB.c3
  obtain ⟨cap, rfl, hcap⟩ := hH.form
  obtain ⟨capt, rfl, hcapt⟩ := hT.form
  have hlt := hB.lt
  have d1 : decide ((ts.length : Int) - 1 ≤ (sel : Int)) = true := by simp; omega
  go_enter Tryz.func90, Tryz.ntmps90
  go_wp2_with (fail)
  go_quiet (fail)
  go_wp2_with (fail)
  go_ret2
  exact ⟨rfl, (Fr.refl _ _ _ _).drewN _⟩
end Go.Proofs.YtiepopbmbgfhkaaGreat
