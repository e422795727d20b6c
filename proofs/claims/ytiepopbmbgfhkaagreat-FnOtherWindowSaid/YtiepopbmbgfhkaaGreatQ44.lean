/-
  The set's player: the chosen suggestion is put in.
  The set's player between two of its stores: cells of one, rows of another.
-/
import Derived.Test.YtiepopbmbgfhkaaGreatQ43
namespace Go.Proofs.YtiepopbmbgfhkaaGreat
open Go.RowKit
open List renaming setIfInBounds_toArray → zq1, set_cons_zero → zq2, set_cons_succ → zq3
open Int renaming toNat_natCast → zq4, toNat_sub → zq5, toNat_zero → zq6
set_option maxHeartbeats 8000000
set_option maxRecDepth 20000
set_option linter.unusedVariables false
set_option linter.unusedSimpArgs false

/-- A document elsewhere is written. -/
theorem Ply.other {base : Nat} {w : World} {p : Nat} {S : Sess} {ov hv : Value} {P : PL} {V : PV} {X : Nat} {cs : Array Value} (h : Ply base w p S ov hv P V) (hX : Blk w X cs 61) (hb : base ≤ X) (i : Nat) (v : Value) : Ply base (w.setCell ⟨X, i, none⟩ v) p S ov hv P V := by
  have hF : Fr base [] [X] w (w.setCell ⟨X, i, none⟩ v) := fr_cell hb i v
  have n1 : p ≠ X := (hX.ne h.blk (by decide)).symm
  have n2 : V.ga ≠ X := by obtain ⟨c, hc⟩ := h.rows.a.blk; exact hc.ne hX (by decide)
  have n3 : V.gk ≠ X := by obtain ⟨c, hc⟩ := h.kept.k.blk; exact hc.ne hX (by decide)
  have n4 : ∀ (u : Value) xs, OS base w u xs → ∀ g, u.ownBlock = some g → g ∉ [X] := fun u xs ho g hg e => by
    obtain ⟨-, c, hc⟩ := row_blk ho g hg
    exact hc.ne hX (by decide) (List.mem_singleton.1 e)
  exact ⟨⟨hF.blk h.blk (.inr ⟨by simpa using n1, by simp⟩), h.bp, Nat.le_trans h.bw hF.size, h.rows.fr hF (fun b hb => by rw [List.mem_singleton.1 hb]; exact ⟨_, 61, hX, by decide⟩) (by simpa using n2) (n4 _ _ h.rows.l) (n4 _ _ h.rows.b), h.ino.lowB hF h.inl, h.inl⟩, h.kept.fr hF (by simpa using n3)⟩

theorem choose_some {nb base : Nat} {w : World} {p : Nat} {S : Sess} {ov hv9 : Value} {P : PL} {V : PV} {i n : Nat} {c : ByteArray} (h : Ply base w p S ov hv9 P V) (hnb : V.bs.length ≤ nb) (hS : SessOk S) (hkp : Kept S i P.s) (hc : OtherKey c) (hsn : P.s.sel = n) (hn : n < P.s.tmp.length) :
    Calls Tryz.prog 56 #[.pointer (some ⟨p, 0, none⟩), .string c, .bool true] w (PlyPost nb base p S ov hv9 (P.st ((P.s.chosen (S.cp 0 0)).wt P.s.tmp)) (.tuple #[]) w) := by
  obtain ⟨k1, k2, k3, k4⟩ := hc
  have hts := hkp.hts
  have hkk := hkp.hk
  have hprn := hkp.ht
  have hmem := hS.ho _ (hkp.tmp_mem.1 _ (List.getElem_mem hn))
  obtain ⟨v, hv⟩ : ∃ v, P.s.tmp[n].1 = v := ⟨_, rfl⟩
  rw [hv] at hmem
  have hvs : v.size ≤ 40 := hmem.2.1
  have hwl := wordAt_le S.sep P.s.t P.s.k
  have hwd := pWord_c h.blk (by have := hS.hseps; omega) hprn (by omega) hkk
  have hch : (P.s.chosen (S.cp 0 0)).wt P.s.tmp = { P.s with t := chosenT S.sep P.s.t P.s.k v, k := wordAt S.sep P.s.t P.s.k + v.size, sel := -1, vs := 0 } := by
    unfold PS.chosen
    rw [if_neg (by omega)]
    have et : P.s.text P.s.sel.toNat = v := by rw [← hv]; simp [PS.text, hsn, hn]
    rw [et]
    rfl
  rw [hch]
  unfold chosenT
  obtain ⟨a, ha⟩ : ∃ a, wordAt S.sep P.s.t P.s.k = a := ⟨_, rfl⟩
  rw [ha] at hwl hwd ⊢
  have esz : (P.s.t.extract a P.s.k).size = P.s.k - a := by simp; omega
  obtain ⟨word, hword⟩ : ∃ word, P.s.t.extract a P.s.k = word := ⟨_, rfl⟩
  rw [hword] at esz hwd
  obtain ⟨m, hm⟩ : ∃ m, P.s.k - a = m := ⟨_, rfl⟩
  rw [hm] at esz
  have hcut := fun w => cut_c P.s.t P.s.k a m hprn (by omega) (by omega) w
  have hak : a + m = P.s.k := by omega
  simp only [hak] at hcut
  have hamw : IntKind.i64.wrap ((P.s.k : Int) - (m : Int)) = (a : Int) := by rw [wrap_in (by omega) (by omega)]; omega
  have hTp : Prn (P.s.t.extract 0 a ++ P.s.t.extract P.s.k P.s.t.size) := prn_append (hprn.extract _ _) (hprn.extract _ _)
  have hTs : (P.s.t.extract 0 a ++ P.s.t.extract P.s.k P.s.t.size).size ≤ 200 ∧ a ≤ (P.s.t.extract 0 a ++ P.s.t.extract P.s.k P.s.t.size).size := by rw [ByteArray.size_append]; simp; omega
  obtain ⟨T, hT⟩ : ∃ T, P.s.t.extract 0 a ++ P.s.t.extract P.s.k P.s.t.size = T := ⟨_, rfl⟩
  rw [hT] at hTp hTs ⊢
  simp only [hT, hword] at hcut
  have hins := fun w => inserted_c T v a hTp hmem.1 (by omega) (by omega) hTs.2 w
  obtain ⟨U, hU⟩ : ∃ U, putT T a v = U := ⟨_, rfl⟩
  obtain ⟨q, hq⟩ : ∃ q, a + v.size = q := ⟨_, rfl⟩
  simp only [hU, hq] at hins
  rw [hU, hq]
  clear hch hU hq hT hword ha
  go_enter Tryz.func56, Tryz.ntmps56
  go_wp2_with (fail)
  refine hwd.mono ?_
  rintro e w1 ⟨rfl, hF1⟩
  clear hwd
  have h1 := h.fr0 hF1
  have hC := plC h1.blk
  have c11 := hC.c11
  have c12 := hC.c12
  have hlt := hC.lt
  obtain ⟨N, hN⟩ : ∃ N, w1.heap.size = N := ⟨_, rfl⟩
  have hbX : base ≤ N := by have := h1.bw; omega
  have hwX : w.heap.size ≤ N := by have := hF1.size; omega
  go_wp2_with (fail)
  have hS : (fun w' : World => w'.cell? ⟨p, 11, none⟩ = some (.string P.s.t) ∧ w'.cell? ⟨p, 12, none⟩ = some (.int .i64 P.s.k)) w1.drew := ⟨c11, c12⟩
  refine wp_region_plan [3, 8] [14, 18, 19] (fun w' : World => w'.cell? ⟨p, 11, none⟩ = some (.string P.s.t) ∧ w'.cell? ⟨p, 12, none⟩ = some (.int .i64 P.s.k)) (.pure 0 (.pure 1 (.pure 2 (.take 3 (.pure 4 (.pure 5 (.pure 6 (.pure 7 (.take 8 (.pure 9 (.pure 10 (.pure 11 (.pure 12 (.pure 13 (.go2 14 (.pure 15 (.pure 16 (.pure 17 (.go 18 (.go 19 (.pure 20 .done)))))) 18 (.go 14 (.pure 15 (.pure 16 (.pure 17 (.go 19 (.pure 20 .done))))))))))))))))))))) hmix (by kernel_rfl) ?_
  repeat (first | (refine plan_move rfl rfl rfl ?_; (try simp only [Act.put, zq1, zq2, zq3, zq4, zq5, zq6])) | (refine plan_pure (v := ?_) rfl rfl ?_ ?_; rotate_left; (intro w'; go_simp <;> with_reducible rfl); (try simp only [Act.put, zq1, zq2, zq3, zq4, zq5, zq6])) | (refine plan_take (v := ?_) rfl hS rfl ?_ ?_; rotate_left; (intro w' hSw; (try dsimp only at hSw); go_simp <;> with_reducible rfl); (try simp only [Act.put, zq1, zq2, zq3, zq4, zq5, zq6])))
  refine plan_go2 rfl rfl rfl rfl (fun K hK => ?_) (fun K hK => ?_)
  · go_simp; refine (hcut _).mono ?_; rintro e w2 ⟨rfl, hF2⟩; have h2 := (h1.fr0 ((Fr.refl 0 [] [] w1).drew)).fr0 hF2; have hF02 : Fr base PT [] w w2 := ((hF1.drew).trans hF2).any; refine hK _ _ ⟨(plC h2.blk).c11, (plC h2.blk).c12⟩ ?_; clear hK K; (try simp only [Act.put, zq1, zq2, zq3, zq4, zq5, zq6])
    repeat (first | (refine plan_move rfl rfl rfl ?_; (try simp only [Act.put, zq1, zq2, zq3, zq4, zq5, zq6])) | (refine plan_pure (v := ?_) rfl rfl ?_ ?_; rotate_left; (intro w'; go_simp <;> with_reducible rfl); (try simp only [Act.put, zq1, zq2, zq3, zq4, zq5, zq6])))
    refine plan_goS rfl rfl (fun K hK => ?_)
    go_simp; refine hK _ _ ⟨((Fr.refl 0 [] [] w2).alloc _).cell0 (plC h2.blk).c11, ((Fr.refl 0 [] [] w2).alloc _).cell0 (plC h2.blk).c12⟩ ?_; clear hK K; (try simp only [Act.put, zq1, zq2, zq3, zq4, zq5, zq6])
    refine plan_go rfl (by kernel_rfl) rfl (fun K hK => ?_)
    go_simp; have hfin : ∃ X, X = w2.heap.size ∧ Blk (w2.alloc (.cells #[.string T, .int .i64 a] 61)) X #[.string T, .int .i64 a] 61 ∧ Ply base (w2.alloc (.cells #[.string T, .int .i64 a] 61)) p S ov hv9 P V ∧ Fr base PT [] w (w2.alloc (.cells #[.string T, .int .i64 a] 61)) := ⟨_, rfl, Blk.new _ _ _, h2.fr0 ((Fr.refl 0 [] [] w2).alloc _), hF02.alloc _⟩; refine hK _ _ ?_; clear hK K; (try simp only [Act.put, zq1, zq2, zq3, zq4, zq5, zq6])
    refine plan_pure (v := ?_) rfl rfl ?_ ?_; rotate_left; (intro w'; go_simp <;> with_reducible rfl); (try simp only [Act.put, zq1, zq2, zq3, zq4, zq5, zq6])
    refine plan_done ?_
    obtain ⟨X, hXe, hX, h4, hF4⟩ := hfin
    (try rw [← hXe] at hX); (try rw [← hXe] at h4); (try rw [← hXe] at hF4); rw [← hXe]
    clear hXe
    go_wp2_with (fail)
    obtain ⟨x0, x1, -, -⟩ := hX.c2
    have xl := hX.lt
    have hC := plC h4.blk
    have c13 : _ = some (Value.int .i64 (n : Nat)) := hC.c13.trans (by rw [hsn])
    have c15 := hC.c15
    obtain ⟨g, vc, hvo, e1, e2, hbg, hgl⟩ := h4.rows.o.get n hn
    rw [hvo] at c15
    rw [hv] at e1
    have hlt := hC.lt
    have hS : (fun w' : World => w'.cell? ⟨X, 0, none⟩ = some (.string T) ∧ w'.cell? ⟨X, 1, none⟩ = some (.int .i64 a) ∧ w'.cell? ⟨p, 15, none⟩ = some (.slice (some ⟨g, 0, none⟩) P.s.tmp.length vc) ∧ w'.cell? ⟨p, 13, none⟩ = some (.int .i64 n) ∧ w'.cell? ⟨g, n * 2, none⟩ = some (.string v)) _ := ⟨x0, x1, c15, c13, e1⟩
    replace h4 := h4.fr0 ((Fr.refl 0 [] [] _).drew)
    replace hF4 := hF4.drew
    clear x0 x1 c13 c15 e1 e2 hC hX xl
    refine wp_region_plan [1, 5, 9, 12] [13, 16] (fun w' : World => w'.cell? ⟨X, 0, none⟩ = some (.string T) ∧ w'.cell? ⟨X, 1, none⟩ = some (.int .i64 a) ∧ w'.cell? ⟨p, 15, none⟩ = some (.slice (some ⟨g, 0, none⟩) P.s.tmp.length vc) ∧ w'.cell? ⟨p, 13, none⟩ = some (.int .i64 n) ∧ w'.cell? ⟨g, n * 2, none⟩ = some (.string v)) (.pure 0 (.take 1 (.pure 2 (.pure 3 (.pure 4 (.take 5 (.pure 6 (.pure 7 (.pure 8 (.take 9 (.pure 10 (.pure 11 (.take 12 (.go 13 (.pure 14 (.pure 15 (.go 16 .done))))))))))))))))) hmix (by kernel_rfl) ?_
    repeat (first | (refine plan_move rfl rfl rfl ?_; (try simp only [Act.put, zq1, zq2, zq3, zq4, zq5, zq6])) | (refine plan_pure (v := ?_) rfl rfl ?_ ?_; rotate_left; (intro w'; go_simp <;> with_reducible rfl); (try simp only [Act.put, zq1, zq2, zq3, zq4, zq5, zq6])) | (refine plan_take (v := ?_) rfl hS rfl ?_ ?_; rotate_left; (intro w' hSw; (try dsimp only at hSw); go_simp <;> with_reducible rfl); (try simp only [Act.put, zq1, zq2, zq3, zq4, zq5, zq6])))
    refine plan_go rfl (by kernel_rfl) rfl (fun K hK => ?_)
    go_simp; refine (hins _).mono ?_; rintro e w5 ⟨rfl, hF5⟩; replace h4 := h4.fr0 hF5; replace hF4 := hF4.ext hF5; have hC := plC h4.blk; have c11 := hC.c11; have c12 := hC.c12; have f11 := hC.f 11; have f12 := hC.f 12; have hlt := hC.lt; refine hK _ _ ?_; clear hK K; (try simp only [Act.put, zq1, zq2, zq3, zq4, zq5, zq6])
    repeat (first | (refine plan_pure (v := ?_) rfl rfl ?_ ?_; rotate_left; (intro w'; go_simp <;> with_reducible rfl); (try simp only [Act.put, zq1, zq2, zq3, zq4, zq5, zq6])))
    refine plan_go rfl (by kernel_rfl) rfl (fun K hK => ?_)
    go_simp; refine hK _ _ ?_; clear hK K; (try simp only [Act.put, zq1, zq2, zq3, zq4, zq5, zq6])
    refine plan_done ?_
    clear c11 c12 f11 f12 hC hlt
    have h5 := h4.put 11 (.string U) (P' := P.st { P.s with t := U }) (V' := V) rfl rfl rfl rfl rfl ⟨rfl, rfl, rfl, rfl, rfl, rfl⟩ rfl rfl
    have h6 := h5.put 12 (.int .i64 q) (P' := P.st { P.s with t := U, k := q }) (V' := V) rfl rfl rfl rfl rfl ⟨rfl, rfl, rfl, rfl, rfl, rfl⟩ rfl rfl
    have hF6 := (hF4.trans (h4.putF 11 (.string U))).trans (h5.putF 12 (.int .i64 q))
    have hC := plC h6.blk
    have c13 : _ = some (Value.int .i64 P.s.sel) := hC.c13
    have c14 : _ = some (Value.int .i64 P.s.vs) := hC.c14
    have f13 := hC.f 13
    have f14 := hC.f 14
    have hlt := hC.lt
    go_wp2_with (fail)
    go_end0
    have h7 := h6.put 13 (.int .i64 (-1)) (P' := P.st { P.s with t := U, k := q, sel := -1 }) (V' := V) rfl rfl rfl rfl rfl ⟨rfl, rfl, rfl, rfl, rfl, rfl⟩ rfl rfl
    have h8 := h7.put 14 (.int .i64 0) (P' := P.st { P.s with t := U, k := q, sel := -1, vs := 0 }) (V' := V) rfl rfl rfl rfl rfl ⟨rfl, rfl, rfl, rfl, rfl, rfl⟩ rfl rfl
    exact ⟨rfl, ⟨V, h8, hnb⟩, (hF6.trans (h6.putF 13 _)).trans (h7.putF 14 _)⟩
  · go_simp; refine hK _ _ ⟨(((Fr.refl 0 [] [] w1).drew).alloc _).cell0 c11, (((Fr.refl 0 [] [] w1).drew).alloc _).cell0 c12⟩ ?_; clear hK K; (try simp only [Act.put, zq1, zq2, zq3, zq4, zq5, zq6])
    refine plan_go rfl (by kernel_rfl) rfl (fun K hK => ?_)
    go_simp; refine (hcut _).mono ?_; rintro e w2 ⟨rfl, hF2⟩; have h2 := (h1.fr0 (((Fr.refl 0 [] [] w1).drew).alloc (.cells #[.string ⟨#[]⟩, .int .i64 0] 61))).fr0 hF2; have hF02 : Fr base PT [] w w2 := (((hF1.drew).alloc (.cells #[.string ⟨#[]⟩, .int .i64 0] 61)).trans hF2).any; have hX2 := hF2.blk0 (Blk.new' (w := w1.drew) hN.symm #[.string ⟨#[]⟩, .int .i64 0] 61); obtain ⟨x0, x1, xf0, xf1⟩ := hX2.c2; have xl := hX2.lt; refine hK _ _ ?_; clear hK K; (try simp only [Act.put, zq1, zq2, zq3, zq4, zq5, zq6])
    repeat (first | (refine plan_move rfl rfl rfl ?_; (try simp only [Act.put, zq1, zq2, zq3, zq4, zq5, zq6])) | (refine plan_pure (v := ?_) rfl rfl ?_ ?_; rotate_left; (intro w'; go_simp <;> with_reducible rfl); (try simp only [Act.put, zq1, zq2, zq3, zq4, zq5, zq6])))
    refine plan_go rfl (by kernel_rfl) rfl (fun K hK => ?_)
    go_simp; have hfin : ∃ X, X = N ∧ Blk ((w2.setCell ⟨N, 0, none⟩ (.string T)).setCell ⟨N, 1, none⟩ (.int .i64 a)) X #[.string T, .int .i64 a] 61 ∧ Ply base ((w2.setCell ⟨N, 0, none⟩ (.string T)).setCell ⟨N, 1, none⟩ (.int .i64 a)) p S ov hv9 P V ∧ Fr base PT [] w ((w2.setCell ⟨N, 0, none⟩ (.string T)).setCell ⟨N, 1, none⟩ (.int .i64 a)) := ⟨_, rfl, (hX2.set 0 _).set 1 _, (h2.other hX2 hbX _ _).other (hX2.set 0 _) hbX _ _, (hF02.setCell (a := ⟨N, 0, none⟩) hbX (.inr (.inl hwX)) _).setCell (a := ⟨N, 1, none⟩) hbX (.inr (.inl hwX)) _⟩; clear x0 x1 xf0 xf1 xl hX2; refine hK _ _ ?_; clear hK K; (try simp only [Act.put, zq1, zq2, zq3, zq4, zq5, zq6])
    refine plan_pure (v := ?_) rfl rfl ?_ ?_; rotate_left; (intro w'; go_simp <;> with_reducible rfl); (try simp only [Act.put, zq1, zq2, zq3, zq4, zq5, zq6])
    refine plan_done ?_
    obtain ⟨X, hXe, hX, h4, hF4⟩ := hfin
    (try rw [← hXe] at hX); (try rw [← hXe] at h4); (try rw [← hXe] at hF4); rw [← hXe]
    clear hXe
    go_wp2_with (fail)
    obtain ⟨x0, x1, -, -⟩ := hX.c2
    have xl := hX.lt
    have hC := plC h4.blk
    have c13 : _ = some (Value.int .i64 (n : Nat)) := hC.c13.trans (by rw [hsn])
    have c15 := hC.c15
    obtain ⟨g, vc, hvo, e1, e2, hbg, hgl⟩ := h4.rows.o.get n hn
    rw [hvo] at c15
    rw [hv] at e1
    have hlt := hC.lt
    have hS : (fun w' : World => w'.cell? ⟨X, 0, none⟩ = some (.string T) ∧ w'.cell? ⟨X, 1, none⟩ = some (.int .i64 a) ∧ w'.cell? ⟨p, 15, none⟩ = some (.slice (some ⟨g, 0, none⟩) P.s.tmp.length vc) ∧ w'.cell? ⟨p, 13, none⟩ = some (.int .i64 n) ∧ w'.cell? ⟨g, n * 2, none⟩ = some (.string v)) _ := ⟨x0, x1, c15, c13, e1⟩
    replace h4 := h4.fr0 ((Fr.refl 0 [] [] _).drew)
    replace hF4 := hF4.drew
    clear x0 x1 c13 c15 e1 e2 hC hX xl
    refine wp_region_plan [1, 5, 9, 12] [13, 16] (fun w' : World => w'.cell? ⟨X, 0, none⟩ = some (.string T) ∧ w'.cell? ⟨X, 1, none⟩ = some (.int .i64 a) ∧ w'.cell? ⟨p, 15, none⟩ = some (.slice (some ⟨g, 0, none⟩) P.s.tmp.length vc) ∧ w'.cell? ⟨p, 13, none⟩ = some (.int .i64 n) ∧ w'.cell? ⟨g, n * 2, none⟩ = some (.string v)) (.pure 0 (.take 1 (.pure 2 (.pure 3 (.pure 4 (.take 5 (.pure 6 (.pure 7 (.pure 8 (.take 9 (.pure 10 (.pure 11 (.take 12 (.go 13 (.pure 14 (.pure 15 (.go 16 .done))))))))))))))))) hmix (by kernel_rfl) ?_
    repeat (first | (refine plan_move rfl rfl rfl ?_; (try simp only [Act.put, zq1, zq2, zq3, zq4, zq5, zq6])) | (refine plan_pure (v := ?_) rfl rfl ?_ ?_; rotate_left; (intro w'; go_simp <;> with_reducible rfl); (try simp only [Act.put, zq1, zq2, zq3, zq4, zq5, zq6])) | (refine plan_take (v := ?_) rfl hS rfl ?_ ?_; rotate_left; (intro w' hSw; (try dsimp only at hSw); go_simp <;> with_reducible rfl); (try simp only [Act.put, zq1, zq2, zq3, zq4, zq5, zq6])))
    refine plan_go rfl (by kernel_rfl) rfl (fun K hK => ?_)
    go_simp; refine (hins _).mono ?_; rintro e w5 ⟨rfl, hF5⟩; replace h4 := h4.fr0 hF5; replace hF4 := hF4.ext hF5; have hC := plC h4.blk; have c11 := hC.c11; have c12 := hC.c12; have f11 := hC.f 11; have f12 := hC.f 12; have hlt := hC.lt; refine hK _ _ ?_; clear hK K; (try simp only [Act.put, zq1, zq2, zq3, zq4, zq5, zq6])
    repeat (first | (refine plan_pure (v := ?_) rfl rfl ?_ ?_; rotate_left; (intro w'; go_simp <;> with_reducible rfl); (try simp only [Act.put, zq1, zq2, zq3, zq4, zq5, zq6])))
    refine plan_go rfl (by kernel_rfl) rfl (fun K hK => ?_)
    go_simp; refine hK _ _ ?_; clear hK K; (try simp only [Act.put, zq1, zq2, zq3, zq4, zq5, zq6])
    refine plan_done ?_
    clear c11 c12 f11 f12 hC hlt
    have h5 := h4.put 11 (.string U) (P' := P.st { P.s with t := U }) (V' := V) rfl rfl rfl rfl rfl ⟨rfl, rfl, rfl, rfl, rfl, rfl⟩ rfl rfl
    have h6 := h5.put 12 (.int .i64 q) (P' := P.st { P.s with t := U, k := q }) (V' := V) rfl rfl rfl rfl rfl ⟨rfl, rfl, rfl, rfl, rfl, rfl⟩ rfl rfl
    have hF6 := (hF4.trans (h4.putF 11 (.string U))).trans (h5.putF 12 (.int .i64 q))
    have hC := plC h6.blk
    have c13 : _ = some (Value.int .i64 P.s.sel) := hC.c13
    have c14 : _ = some (Value.int .i64 P.s.vs) := hC.c14
    have f13 := hC.f 13
    have f14 := hC.f 14
    have hlt := hC.lt
    go_wp2_with (fail)
    go_end0
    have h7 := h6.put 13 (.int .i64 (-1)) (P' := P.st { P.s with t := U, k := q, sel := -1 }) (V' := V) rfl rfl rfl rfl rfl ⟨rfl, rfl, rfl, rfl, rfl, rfl⟩ rfl rfl
    have h8 := h7.put 14 (.int .i64 0) (P' := P.st { P.s with t := U, k := q, sel := -1, vs := 0 }) (V' := V) rfl rfl rfl rfl rfl ⟨rfl, rfl, rfl, rfl, rfl, rfl⟩ rfl rfl
    exact ⟨rfl, ⟨V, h8, hnb⟩, (hF6.trans (h6.putF 13 _)).trans (h7.putF 14 _)⟩
end Go.Proofs.YtiepopbmbgfhkaaGreat

namespace Go.Proofs.YtiepopbmbgfhkaaGreat
open Go.RowKit
set_option maxHeartbeats 4000000
set_option maxRecDepth 20000
set_option linter.unusedVariables false
set_option linter.unusedSimpArgs false

/-- A player whose cells are those of P0, V0, and whose rows are those of P, V. -/
structure PlyM (base : Nat) (w : World) (p : Nat) (S : Sess) (ov hv : Value) (P0 : PL) (V0 : PV) (P : PL) (V : PV) : Prop where
  blk : Blk w p (plc S ov hv P0 V0) 63
  bp : base ≤ p
  bw : base ≤ w.heap.size
  rows : Rows0 base w P V
  ino : PkIn w ov S.offs
  inl : ∀ A n c, ov = .slice (some A) n c → A.block < base ∨ S.offs = []
  kept : RowK base w P V

section
variable {base : Nat} {w w1 : World} {p : Nat} {S : Sess} {ov hv : Value} {P0 P0' P : PL} {V0 V0' V : PV}
theorem Ply.mid (h : Ply base w p S ov hv P V) : PlyM base w p S ov hv P V P V := ⟨h.blk, h.bp, h.bw, h.rows, h.ino, h.inl, h.kept⟩
theorem PlyM.done (h : PlyM base w p S ov hv P V P V) : Ply base w p S ov hv P V := ⟨⟨h.blk, h.bp, h.bw, h.rows, h.ino, h.inl⟩, h.kept⟩
theorem PlyM.fr0 {base' : Nat} (h : PlyM base w p S ov hv P0 V0 P V) (hF : Fr base' [] [] w w1) : PlyM base w1 p S ov hv P0 V0 P V :=
  ⟨hF.blk0 h.blk, h.bp, Nat.le_trans h.bw hF.size, h.rows.fr0 hF, h.ino.fr hF, h.inl, h.kept.fr0 hF⟩
theorem PlyM.apart (h : PlyM base w p S ov hv P0 V0 P V) : V.ga ≠ p ∧ V.gk ≠ p ∧ (∀ g, V.vl.ownBlock = some g → g ≠ p) ∧ (∀ g, V.vb.ownBlock = some g → g ≠ p) := by
  refine ⟨?_, ?_, fun g hg e => ?_, fun g hg e => ?_⟩
  · obtain ⟨cur, hc⟩ := h.rows.a.blk
    exact hc.ne h.blk (by decide)
  · obtain ⟨cur, hc⟩ := h.kept.k.blk
    exact hc.ne h.blk (by decide)
  · obtain ⟨-, cs, hc⟩ := row_blk h.rows.l g hg
    exact hc.ne h.blk (by decide) e
  · obtain ⟨-, cs, hc⟩ := row_blk h.rows.b g hg
    exact hc.ne h.blk (by decide) e
theorem PlyM.put (h : PlyM base w p S ov hv P0 V0 P V) (i : Nat) (v : Value) (he : (plc S ov hv P0 V0).setIfInBounds i v = plc S ov hv P0' V0') : PlyM base (w.setCell ⟨p, i, none⟩ v) p S ov hv P0' V0' P V := by
  have hF : Fr base [] [p] w (w.setCell ⟨p, i, none⟩ v) := fr_cell h.bp i v
  obtain ⟨a1, a0, a2, a3⟩ := h.apart
  exact ⟨he ▸ h.blk.set i v, h.bp, Nat.le_trans h.bw hF.size, h.rows.fr hF (fun b hb => by rw [List.mem_singleton.1 hb]; exact ⟨_, 63, h.blk, by decide⟩) (by simpa using a1) (fun g hg => by simpa using a2 g hg) (fun g hg => by simpa using a3 g hg), h.ino.lowB hF h.inl, h.inl, h.kept.fr hF (by simpa using a0)⟩
theorem PlyM.putF (h : PlyM base w p S ov hv P0 V0 P V) (i : Nat) (v : Value) : Fr base PT [] w (w.setCell ⟨p, i, none⟩ v) :=
  (Fr.refl _ _ _ _).setCell (a := ⟨p, i, none⟩) h.bp (.inr (.inr ⟨_, 63, h.blk, by simp [PT]⟩)) v
theorem PlyM.st (h : PlyM base w p S ov hv P0 V0 P V) {P' : PL} (h1 : P'.s.tmp = P.s.tmp) (h2 : P'.s.hs = P.s.hs) (h3 : P'.s.lines = P.s.lines) (h4 : P'.s.ts = P.s.ts) : PlyM base w p S ov hv P0 V0 P' V := by
  obtain ⟨r1, r2, r3, r4, r5, r6, r7, r8⟩ := h.rows
  exact ⟨h.blk, h.bp, h.bw, ⟨by rw [h1]; exact r1, by rw [h2]; exact r2, r3, by rw [h3]; exact r4, r5, r6, r7, r8⟩, h.ino, h.inl, ⟨by rw [h4]; exact h.kept.k, h.kept.kb, h.kept.ka, h.kept.kl, h.kept.kbb⟩⟩

theorem own_type {v : Value} {xs : List ByteArray} (ho : OS base w v xs) {b : Nat} {cs : Array Value} {t : TypeId} (hB : Blk w b cs t) (h9 : t ≠ 9) : b ∉ v.ownBlock.toList := fun hm => by
  have hm : v.ownBlock = some b := by simpa using hm
  obtain ⟨-, ds, hb⟩ := row_blk ho b hm
  exact h9 (hB.inj hb).2
theorem Fr.typesG {T bs : List Nat} (h : Fr base [] bs w w1) (hb : ∀ x ∈ bs, ∃ cs t, Blk w x cs t ∧ t ∈ T) : Fr base T [] w w1 :=
  ⟨h.os, h.tape, h.output, h.size, fun k hk hc => h.keep k hk (hc.imp id fun ⟨h1, h2⟩ => ⟨fun hm => by
    obtain ⟨cs, t, e1, e2⟩ := hb k hm
    exact h2 cs t _ e1 e2, by simp⟩)⟩
theorem fr_PT {v : Value} {xs : List ByteArray} (ho : OS base w v xs) (hF : Fr base [] v.ownBlock.toList w w1) : Fr base PT [] w w1 :=
  hF.typesG (fun b hb => by
    have hm : v.ownBlock = some b := by simpa using hb
    obtain ⟨-, ds, hb⟩ := row_blk ho b hm
    exact ⟨ds, 9, hb, by simp [PT]⟩)

/-- A line is added to those that were shown. -/
theorem PlyM.appB (h : PlyM base w p S ov hv P0 V0 P V) {v : Value} {t : ByteArray} (hO : OS base w1 v (V.bs ++ [t])) (hat : v.ownBlock = V.vb.ownBlock ∨ v.ownBlock = some w.heap.size) (hF : Fr base [] V.vb.ownBlock.toList w w1) :
    PlyM base w1 p S ov hv P0 V0 P { V with vb := v, bs := V.bs ++ [t] } ∧ Fr base PT [] w w1 := by
  have mem : ∀ g, g ∈ V.vb.ownBlock.toList → V.vb.ownBlock = some g := fun g hg => by simpa using hg
  have hga := h.rows.a.lt
  have hgk := h.kept.k.lt
  refine ⟨⟨hF.blk h.blk (.inr ⟨own_type h.rows.b h.blk (by decide), by simp⟩), h.bp, Nat.le_trans h.bw hF.size, ⟨?_, h.rows.a.fr hF (.inr ⟨fun e => h.rows.ba (mem _ e), by simp⟩), h.rows.ab, h.rows.l.fr hF (fun g hg e => h.rows.lb g hg (mem _ e)) (by simp), hO, h.rows.la, fun e => ?_, fun g hg e => ?_⟩, h.ino.lowB hF h.inl, h.inl, ⟨h.kept.k.fr hF (.inr ⟨fun e => h.kept.kbb (mem _ e), by simp⟩), h.kept.kb, h.kept.ka, h.kept.kl, fun e => ?_⟩⟩, fr_PT h.rows.b hF⟩
  · exact h.rows.o.fr hF (by simp) (fun b hb => by
      obtain ⟨-, ds, hd⟩ := row_blk h.rows.b b (mem b hb)
      exact ⟨ds, 9, hd, by decide⟩)
  · rcases hat with e2 | e2
    · exact h.rows.ba (e2 ▸ e)
    · have : v.ownBlock = some V.ga := e
      rw [e2] at this
      injection this with this
      omega
  · have e : v.ownBlock = some g := e
    rcases hat with e2 | e2
    · exact h.rows.lb g hg (e2 ▸ e)
    · rw [e2] at e
      injection e with e
      obtain ⟨-, ds, hd⟩ := row_blk h.rows.l g hg
      have := hd.lt
      omega
  · have e : v.ownBlock = some V.gk := e
    rcases hat with e2 | e2
    · exact h.kept.kbb (e2 ▸ e)
    · rw [e2] at e
      injection e with e
      omega

def PS.lined (s : PS) (t : ByteArray) : PS := { s with lines := s.lines ++ [t] }
/-- A line is added to those that were executed. -/
theorem PlyM.appL (h : PlyM base w p S ov hv P0 V0 P V) {v : Value} {t : ByteArray} (hO : OS base w1 v (P.s.lines ++ [t])) (hat : v.ownBlock = V.vl.ownBlock ∨ v.ownBlock = some w.heap.size) (hF : Fr base [] V.vl.ownBlock.toList w w1) :
    PlyM base w1 p S ov hv P0 V0 (P.st (P.s.lined t)) { V with vl := v } ∧ Fr base PT [] w w1 := by
  have mem : ∀ g, g ∈ V.vl.ownBlock.toList → V.vl.ownBlock = some g := fun g hg => by simpa using hg
  have hga := h.rows.a.lt
  have hgk := h.kept.k.lt
  refine ⟨⟨hF.blk h.blk (.inr ⟨own_type h.rows.l h.blk (by decide), by simp⟩), h.bp, Nat.le_trans h.bw hF.size, ⟨?_, h.rows.a.fr hF (.inr ⟨fun e => h.rows.la (mem _ e), by simp⟩), h.rows.ab, hO, h.rows.b.fr hF (fun g hg e => h.rows.lb g (mem _ e) hg) (by simp), fun e => ?_, h.rows.ba, fun g hg e => ?_⟩, h.ino.lowB hF h.inl, h.inl, ⟨h.kept.k.fr hF (.inr ⟨fun e => h.kept.kl (mem _ e), by simp⟩), h.kept.kb, h.kept.ka, fun e => ?_, h.kept.kbb⟩⟩, fr_PT h.rows.l hF⟩
  · exact h.rows.o.fr hF (by simp) (fun b hb => by
      obtain ⟨-, ds, hd⟩ := row_blk h.rows.l b (mem b hb)
      exact ⟨ds, 9, hd, by decide⟩)
  · have e : v.ownBlock = some V.ga := e
    rcases hat with e2 | e2
    · exact h.rows.la (e2 ▸ e)
    · rw [e2] at e
      injection e with e
      omega
  · have hg : v.ownBlock = some g := hg
    rcases hat with e2 | e2
    · exact h.rows.lb g (e2 ▸ hg) e
    · rw [e2] at hg
      injection hg with hg
      obtain ⟨-, ds, hd⟩ := row_blk h.rows.b g e
      have := hd.lt
      omega
  · have e : v.ownBlock = some V.gk := e
    rcases hat with e2 | e2
    · exact h.kept.kl (e2 ▸ e)
    · rw [e2] at e
      injection e with e
      omega
def PS.added (s : PS) (t : ByteArray) : PS := { s with hs := s.hs ++ [t] }
/-- A line is added to the history. -/
theorem PlyM.appA (h : PlyM base w p S ov hv P0 V0 P V) {g' c' : Nat} {t : ByteArray} (hO : SRow w1 g' (.slice (some ⟨g', 0, none⟩) (P.s.hs.length + 1) c') (P.s.hs ++ [t])) (hat : g' = V.ga ∨ g' = w.heap.size) (hF : Fr base [] [V.ga] w w1) :
    PlyM base w1 p S ov hv P0 V0 (P.st (P.s.added t)) { V with va := .slice (some ⟨g', 0, none⟩) (P.s.hs.length + 1) c', ga := g' } ∧ Fr base PT [] w w1 := by
  obtain ⟨cur, hc⟩ := h.rows.a.blk
  have hga := h.rows.a.lt
  have hgk := h.kept.k.lt
  have hbw := h.bw
  have hab := h.rows.ab
  have hFP : Fr base PT [] w w1 := hF.typesG (fun b hb => by rw [List.mem_singleton.1 hb]; exact ⟨cur, 9, hc, by simp [PT]⟩)
  have lo : ∀ (u : Value) xs, OS base w u xs → u.ownBlock ≠ some V.ga → u.ownBlock ≠ some g' := fun u xs ho hne e => by
    rcases hat with e2 | e2
    · exact hne (e2 ▸ e)
    · obtain ⟨-, ds, hd⟩ := row_blk ho _ e
      have := hd.lt
      omega
  refine ⟨⟨hF.blk h.blk (.inr ⟨by simpa using (hc.ne h.blk (by decide)).symm, by simp⟩), h.bp, Nat.le_trans h.bw hF.size, ⟨h.rows.o.fr hF (by simp) (fun b hb => by rw [List.mem_singleton.1 hb]; exact ⟨cur, 9, hc, by decide⟩), hO, by show base ≤ g'; rcases hat with e | e <;> omega, h.rows.l.fr hF (fun g hg e => h.rows.la (by rw [hg, List.mem_singleton.1 e])) (by simp), h.rows.b.fr hF (fun g hg e => h.rows.ba (by rw [hg, List.mem_singleton.1 e])) (by simp), lo _ _ h.rows.l h.rows.la, lo _ _ h.rows.b h.rows.ba, h.rows.lb⟩, h.ino.lowB hF h.inl, h.inl, ⟨h.kept.k.fr hF (.inr ⟨by simpa using h.kept.ka, by simp⟩), h.kept.kb, ?_, h.kept.kl, h.kept.kbb⟩⟩, hFP⟩
  show V.gk ≠ g'
  have := h.kept.ka
  rcases hat with e | e <;> omega
end
end Go.Proofs.YtiepopbmbgfhkaaGreat
