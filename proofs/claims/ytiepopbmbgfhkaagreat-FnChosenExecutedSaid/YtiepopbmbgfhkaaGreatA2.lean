/-
  The Buffer's functions: Text, Document, setText, InsertText, setDocument, DeleteBeforeCursor, Delete; the Document's texts.
-/
import Derived.Test.YtiepopbmbgfhkaaGreatA1
namespace Go.Proofs.YtiepopbmbgfhkaaGreat
open Go.RowKit
set_option maxHeartbeats 1000000
set_option maxRecDepth 20000
set_option linter.unusedVariables false
set_option linter.unusedSimpArgs false

/-- A Buffer at b: one working line, in block L: its text t; the cursor k; a document of the past, or none. -/
def Buf (base : Nat) (w : World) (b L : Nat) (t : ByteArray) (k : Nat) : Prop :=
  base ≤ b ∧ base ≤ L ∧ ∃ cd pc, Blk w b #[.slice (some ⟨L, 0, none⟩) 1 1, .int .i64 0, .int .i64 k, .pointer cd, .int .i64 pc] 121 ∧ Blk w L #[.string t] 9 ∧
    (cd = none ∨ ∃ d u j, cd = some ⟨d, 0, none⟩ ∧ Blk w d #[.string u, .int .i64 j] 75)

theorem text_c {base : Nat} {w : World} {b L : Nat} {t : ByteArray} {k : Nat} (h : Buf base w b L t k) :
    Calls Tryz.prog 51 #[.pointer (some ⟨b, 0, none⟩)] w fun e w' => e = .returned (.string t) ∧ ∃ n, w' = w.drewN n := by
  obtain ⟨-, -, cd, pc, hb, hL, -⟩ := h
  obtain ⟨h0, h1, h2, h3, h4, -⟩ := hb.c5
  obtain ⟨l0, -⟩ := hL.c1
  go_enter Tryz.func51, Tryz.ntmps51
  go_wp2
  go_quiet (fail)
  go_wp2
  go_ret
  exact ⟨rfl, _, rfl⟩

theorem Buf.drew {base : Nat} {w : World} {b L : Nat} {t : ByteArray} {k : Nat} (h : Buf base w b L t k) : Buf base w.drew b L t k := h
theorem Buf.drewN {base : Nat} {w : World} {b L : Nat} {t : ByteArray} {k : Nat} (h : Buf base w b L t k) (n : Nat) : Buf base (w.drewN n) b L t k := h

/-- What Document leaves. -/
def DocPost (base : Nat) (b L : Nat) (t : ByteArray) (k : Nat) (w : World) (e : Ending) (w' : World) : Prop :=
  ∃ d, e = .returned (.pointer (some ⟨d, 0, none⟩)) ∧ Blk w' d #[.string t, .int .i64 k] 75 ∧ Buf base w' b L t k ∧ Fr base [] [b] w w'

/-- The world behind a new document. -/
theorem doc_end {base : Nat} {w : World} {b L : Nat} {t : ByteArray} {k n m : Nat} {pc : Int} {cd : Option Addr} (hbb : base ≤ b) (hbL : base ≤ L)
    (hb : Blk w b #[.slice (some ⟨L, 0, none⟩) 1 1, .int .i64 0, .int .i64 k, .pointer cd, .int .i64 pc] 121) (hL : Blk w L #[.string t] 9) (hm : m = w.heap.size) :
    DocPost base b L t k w (.returned (.pointer (some ⟨m, 0, none⟩))) (((w.setCell ⟨b, 3, none⟩ (.pointer (some ⟨m, 0, none⟩))).alloc (.cells #[.string t, .int .i64 k] 75)).drewN n) := by
  have hne := hb.ne hL (by decide)
  have hb1 := (hb.set 3 (.pointer (some ⟨m, 0, none⟩))).alloc (.cells #[.string t, .int .i64 k] 75)
  have hL1 := (hL.other (a := ⟨b, 3, none⟩) hne.symm (.pointer (some ⟨m, 0, none⟩))).alloc (.cells #[.string t, .int .i64 k] 75)
  have hd : Blk ((w.setCell ⟨b, 3, none⟩ (.pointer (some ⟨m, 0, none⟩))).alloc (.cells #[.string t, .int .i64 k] 75)) m #[.string t, .int .i64 k] 75 := Blk.new' (by simp [hm]) _ _
  refine ⟨m, rfl, hd, ⟨hbb, hbL, some ⟨m, 0, none⟩, pc, hb1, hL1, .inr ⟨m, t, k, rfl, hd⟩⟩, ?_⟩
  exact (((Fr.refl base [] [b] w).setCell (a := ⟨b, 3, none⟩) hbb (.inl (by simp)) _).alloc _).drewN n

theorem doc_new {base : Nat} {w : World} {b L : Nat} {t : ByteArray} {k : Nat} {pc : Int} {cd : Option Addr} (hbb : base ≤ b) (hbL : base ≤ L)
    (hb : Blk w b #[.slice (some ⟨L, 0, none⟩) 1 1, .int .i64 0, .int .i64 k, .pointer cd, .int .i64 pc] 121) (hL : Blk w L #[.string t] 9)
    (hcd : cd = none ∨ ∃ d u j, cd = some ⟨d, 0, none⟩ ∧ Blk w d #[.string u, .int .i64 j] 75 ∧ (u ≠ t ∨ (u = t ∧ j ≠ (k : Int)))) :
    Calls Tryz.prog 46 #[.pointer (some ⟨b, 0, none⟩)] w (DocPost base b L t k w) := by
  have hB : Buf base w b L t k := ⟨hbb, hbL, cd, pc, hb, hL, hcd.imp id fun ⟨d, u, j, h1, h2, _⟩ => ⟨d, u, j, h1, h2⟩⟩
  obtain ⟨h0, h1, h2, h3, h4, f0, f1, f2, f3, f4⟩ := hb.c5
  have hlt := hb.lt
  have hend := fun n m hm => doc_end (n := n) (m := m) hbb hbL hb hL hm
  rcases hcd with rfl | ⟨d, u, j, rfl, hd, hu | ⟨rfl, hj⟩⟩
  · go_enter Tryz.func46, Tryz.ntmps46
    go_wp2
    go_quiet (fail)
    go_wp2_with (fail)
    have hS : (fun w' : World => w'.cell? ⟨b, 2, none⟩ = some (.int .i64 k)) (w.drewN nq).drew := h2
    refine wp_region_plan [6] [2, 8, 11] (fun w' => w'.cell? ⟨b, 2, none⟩ = some (.int .i64 k)) (.pure 0 (.pure 1 (.pure 3 (.pure 4 (.pure 5 (.take 6 (.go 2 (.pure 7 (.go 8 (.pure 9 (.pure 10 (.go 11 .done)))))))))))) hmix (by kernel_rfl) ?_
    refine plan_move rfl rfl rfl ?_; (try simp only [Act.put, List.setIfInBounds_toArray, List.set_cons_zero, List.set_cons_succ, Int.toNat_natCast, Int.toNat_sub, Int.toNat_zero])
    refine plan_move rfl rfl rfl ?_; (try simp only [Act.put, List.setIfInBounds_toArray, List.set_cons_zero, List.set_cons_succ, Int.toNat_natCast, Int.toNat_sub, Int.toNat_zero])
    refine plan_move rfl rfl rfl ?_; (try simp only [Act.put, List.setIfInBounds_toArray, List.set_cons_zero, List.set_cons_succ, Int.toNat_natCast, Int.toNat_sub, Int.toNat_zero])
    first | (refine plan_pure (v := ?_) rfl rfl ?_ ?_; rotate_left; (intro w'; go_simp <;> with_reducible rfl); (try simp only [Act.put, List.setIfInBounds_toArray, List.set_cons_zero, List.set_cons_succ, Int.toNat_natCast, Int.toNat_sub, Int.toNat_zero]))
    first | (refine plan_pure (v := ?_) rfl rfl ?_ ?_; rotate_left; (intro w'; go_simp <;> with_reducible rfl); (try simp only [Act.put, List.setIfInBounds_toArray, List.set_cons_zero, List.set_cons_succ, Int.toNat_natCast, Int.toNat_sub, Int.toNat_zero]))
    first | (refine plan_take (v := ?_) rfl hS rfl ?_ ?_; rotate_left; (intro w' hSw; (try dsimp only at hSw); go_simp <;> with_reducible rfl); (try simp only [Act.put, List.setIfInBounds_toArray, List.set_cons_zero, List.set_cons_succ, Int.toNat_natCast, Int.toNat_sub, Int.toNat_zero]))
    refine plan_goS rfl rfl (fun K hK => ?_)
    go_simp; refine (text_c (hB.drewN _)).mono ?_; rintro e w1 ⟨rfl, n, rfl⟩; refine hK _ _ h2 ?_; clear hK K; (try simp only [Act.put, List.setIfInBounds_toArray, List.set_cons_zero, List.set_cons_succ, Int.toNat_natCast, Int.toNat_sub, Int.toNat_zero])
    first | (refine plan_pure (v := ?_) rfl rfl ?_ ?_; rotate_left; (intro w'; go_simp <;> with_reducible rfl); (try simp only [Act.put, List.setIfInBounds_toArray, List.set_cons_zero, List.set_cons_succ, Int.toNat_natCast, Int.toNat_sub, Int.toNat_zero]))
    refine plan_go rfl (by kernel_rfl) rfl (fun K hK => ?_)
    go_simp; refine hK _ _ ?_; clear hK K; (try simp only [Act.put, List.setIfInBounds_toArray, List.set_cons_zero, List.set_cons_succ, Int.toNat_natCast, Int.toNat_sub, Int.toNat_zero])
    first | (refine plan_pure (v := ?_) rfl rfl ?_ ?_; rotate_left; (intro w'; go_simp <;> with_reducible rfl); (try simp only [Act.put, List.setIfInBounds_toArray, List.set_cons_zero, List.set_cons_succ, Int.toNat_natCast, Int.toNat_sub, Int.toNat_zero]))
    first | (refine plan_pure (v := ?_) rfl rfl ?_ ?_; rotate_left; (intro w'; go_simp <;> with_reducible rfl); (try simp only [Act.put, List.setIfInBounds_toArray, List.set_cons_zero, List.set_cons_succ, Int.toNat_natCast, Int.toNat_sub, Int.toNat_zero]))
    refine plan_go rfl (by kernel_rfl) rfl (fun K hK => ?_)
    go_simp; refine hK _ _ ?_; clear hK K; (try simp only [Act.put, List.setIfInBounds_toArray, List.set_cons_zero, List.set_cons_succ, Int.toNat_natCast, Int.toNat_sub, Int.toNat_zero])
    refine plan_done ?_
    go_wp2
    go_ret
    exact hend _ _ rfl
  · obtain ⟨d0, d1, -⟩ := hd.c2
    have e1 := str_ne hu
    go_enter Tryz.func46, Tryz.ntmps46
    go_wp2
    go_quiet ((go_at_call 51; exact Calls.quiet_of (text_c (hB.drewN _))))
    go_wp2_with (fail)
    have hS : (fun w' : World => w'.cell? ⟨b, 2, none⟩ = some (.int .i64 k)) (w.drewN nq).drew := h2
    refine wp_region_plan [6] [2, 8, 11] (fun w' => w'.cell? ⟨b, 2, none⟩ = some (.int .i64 k)) (.pure 0 (.pure 1 (.pure 3 (.pure 4 (.pure 5 (.take 6 (.go 2 (.pure 7 (.go 8 (.pure 9 (.pure 10 (.go 11 .done)))))))))))) hmix (by kernel_rfl) ?_
    refine plan_move rfl rfl rfl ?_; (try simp only [Act.put, List.setIfInBounds_toArray, List.set_cons_zero, List.set_cons_succ, Int.toNat_natCast, Int.toNat_sub, Int.toNat_zero])
    refine plan_move rfl rfl rfl ?_; (try simp only [Act.put, List.setIfInBounds_toArray, List.set_cons_zero, List.set_cons_succ, Int.toNat_natCast, Int.toNat_sub, Int.toNat_zero])
    refine plan_move rfl rfl rfl ?_; (try simp only [Act.put, List.setIfInBounds_toArray, List.set_cons_zero, List.set_cons_succ, Int.toNat_natCast, Int.toNat_sub, Int.toNat_zero])
    first | (refine plan_pure (v := ?_) rfl rfl ?_ ?_; rotate_left; (intro w'; go_simp <;> with_reducible rfl); (try simp only [Act.put, List.setIfInBounds_toArray, List.set_cons_zero, List.set_cons_succ, Int.toNat_natCast, Int.toNat_sub, Int.toNat_zero]))
    first | (refine plan_pure (v := ?_) rfl rfl ?_ ?_; rotate_left; (intro w'; go_simp <;> with_reducible rfl); (try simp only [Act.put, List.setIfInBounds_toArray, List.set_cons_zero, List.set_cons_succ, Int.toNat_natCast, Int.toNat_sub, Int.toNat_zero]))
    first | (refine plan_take (v := ?_) rfl hS rfl ?_ ?_; rotate_left; (intro w' hSw; (try dsimp only at hSw); go_simp <;> with_reducible rfl); (try simp only [Act.put, List.setIfInBounds_toArray, List.set_cons_zero, List.set_cons_succ, Int.toNat_natCast, Int.toNat_sub, Int.toNat_zero]))
    refine plan_goS rfl rfl (fun K hK => ?_)
    go_simp; refine (text_c (hB.drewN _)).mono ?_; rintro e w1 ⟨rfl, n, rfl⟩; refine hK _ _ h2 ?_; clear hK K; (try simp only [Act.put, List.setIfInBounds_toArray, List.set_cons_zero, List.set_cons_succ, Int.toNat_natCast, Int.toNat_sub, Int.toNat_zero])
    first | (refine plan_pure (v := ?_) rfl rfl ?_ ?_; rotate_left; (intro w'; go_simp <;> with_reducible rfl); (try simp only [Act.put, List.setIfInBounds_toArray, List.set_cons_zero, List.set_cons_succ, Int.toNat_natCast, Int.toNat_sub, Int.toNat_zero]))
    refine plan_go rfl (by kernel_rfl) rfl (fun K hK => ?_)
    go_simp; refine hK _ _ ?_; clear hK K; (try simp only [Act.put, List.setIfInBounds_toArray, List.set_cons_zero, List.set_cons_succ, Int.toNat_natCast, Int.toNat_sub, Int.toNat_zero])
    first | (refine plan_pure (v := ?_) rfl rfl ?_ ?_; rotate_left; (intro w'; go_simp <;> with_reducible rfl); (try simp only [Act.put, List.setIfInBounds_toArray, List.set_cons_zero, List.set_cons_succ, Int.toNat_natCast, Int.toNat_sub, Int.toNat_zero]))
    first | (refine plan_pure (v := ?_) rfl rfl ?_ ?_; rotate_left; (intro w'; go_simp <;> with_reducible rfl); (try simp only [Act.put, List.setIfInBounds_toArray, List.set_cons_zero, List.set_cons_succ, Int.toNat_natCast, Int.toNat_sub, Int.toNat_zero]))
    refine plan_go rfl (by kernel_rfl) rfl (fun K hK => ?_)
    go_simp; refine hK _ _ ?_; clear hK K; (try simp only [Act.put, List.setIfInBounds_toArray, List.set_cons_zero, List.set_cons_succ, Int.toNat_natCast, Int.toNat_sub, Int.toNat_zero])
    refine plan_done ?_
    go_wp2
    go_ret
    exact hend _ _ rfl
  · obtain ⟨d0, d1, -⟩ := hd.c2
    obtain ⟨e1, e2⟩ := int_ne hj
    go_enter Tryz.func46, Tryz.ntmps46
    go_wp2
    go_quiet ((go_at_call 51; exact Calls.quiet_of (text_c (hB.drewN _))))
    go_wp2_with (fail)
    have hS : (fun w' : World => w'.cell? ⟨b, 2, none⟩ = some (.int .i64 k)) (w.drewN nq).drew := h2
    refine wp_region_plan [6] [2, 8, 11] (fun w' => w'.cell? ⟨b, 2, none⟩ = some (.int .i64 k)) (.pure 0 (.pure 1 (.pure 3 (.pure 4 (.pure 5 (.take 6 (.go 2 (.pure 7 (.go 8 (.pure 9 (.pure 10 (.go 11 .done)))))))))))) hmix (by kernel_rfl) ?_
    refine plan_move rfl rfl rfl ?_; (try simp only [Act.put, List.setIfInBounds_toArray, List.set_cons_zero, List.set_cons_succ, Int.toNat_natCast, Int.toNat_sub, Int.toNat_zero])
    refine plan_move rfl rfl rfl ?_; (try simp only [Act.put, List.setIfInBounds_toArray, List.set_cons_zero, List.set_cons_succ, Int.toNat_natCast, Int.toNat_sub, Int.toNat_zero])
    refine plan_move rfl rfl rfl ?_; (try simp only [Act.put, List.setIfInBounds_toArray, List.set_cons_zero, List.set_cons_succ, Int.toNat_natCast, Int.toNat_sub, Int.toNat_zero])
    first | (refine plan_pure (v := ?_) rfl rfl ?_ ?_; rotate_left; (intro w'; go_simp <;> with_reducible rfl); (try simp only [Act.put, List.setIfInBounds_toArray, List.set_cons_zero, List.set_cons_succ, Int.toNat_natCast, Int.toNat_sub, Int.toNat_zero]))
    first | (refine plan_pure (v := ?_) rfl rfl ?_ ?_; rotate_left; (intro w'; go_simp <;> with_reducible rfl); (try simp only [Act.put, List.setIfInBounds_toArray, List.set_cons_zero, List.set_cons_succ, Int.toNat_natCast, Int.toNat_sub, Int.toNat_zero]))
    first | (refine plan_take (v := ?_) rfl hS rfl ?_ ?_; rotate_left; (intro w' hSw; (try dsimp only at hSw); go_simp <;> with_reducible rfl); (try simp only [Act.put, List.setIfInBounds_toArray, List.set_cons_zero, List.set_cons_succ, Int.toNat_natCast, Int.toNat_sub, Int.toNat_zero]))
    refine plan_goS rfl rfl (fun K hK => ?_)
    go_simp; refine (text_c (hB.drewN _)).mono ?_; rintro e w1 ⟨rfl, n, rfl⟩; refine hK _ _ h2 ?_; clear hK K; (try simp only [Act.put, List.setIfInBounds_toArray, List.set_cons_zero, List.set_cons_succ, Int.toNat_natCast, Int.toNat_sub, Int.toNat_zero])
    first | (refine plan_pure (v := ?_) rfl rfl ?_ ?_; rotate_left; (intro w'; go_simp <;> with_reducible rfl); (try simp only [Act.put, List.setIfInBounds_toArray, List.set_cons_zero, List.set_cons_succ, Int.toNat_natCast, Int.toNat_sub, Int.toNat_zero]))
    refine plan_go rfl (by kernel_rfl) rfl (fun K hK => ?_)
    go_simp; refine hK _ _ ?_; clear hK K; (try simp only [Act.put, List.setIfInBounds_toArray, List.set_cons_zero, List.set_cons_succ, Int.toNat_natCast, Int.toNat_sub, Int.toNat_zero])
    first | (refine plan_pure (v := ?_) rfl rfl ?_ ?_; rotate_left; (intro w'; go_simp <;> with_reducible rfl); (try simp only [Act.put, List.setIfInBounds_toArray, List.set_cons_zero, List.set_cons_succ, Int.toNat_natCast, Int.toNat_sub, Int.toNat_zero]))
    first | (refine plan_pure (v := ?_) rfl rfl ?_ ?_; rotate_left; (intro w'; go_simp <;> with_reducible rfl); (try simp only [Act.put, List.setIfInBounds_toArray, List.set_cons_zero, List.set_cons_succ, Int.toNat_natCast, Int.toNat_sub, Int.toNat_zero]))
    refine plan_go rfl (by kernel_rfl) rfl (fun K hK => ?_)
    go_simp; refine hK _ _ ?_; clear hK K; (try simp only [Act.put, List.setIfInBounds_toArray, List.set_cons_zero, List.set_cons_succ, Int.toNat_natCast, Int.toNat_sub, Int.toNat_zero])
    refine plan_done ?_
    go_wp2
    go_ret
    exact hend _ _ rfl

theorem doc_same {base : Nat} {w : World} {b L d : Nat} {t : ByteArray} {k : Nat} {pc : Int} (hbb : base ≤ b) (hbL : base ≤ L)
    (hb : Blk w b #[.slice (some ⟨L, 0, none⟩) 1 1, .int .i64 0, .int .i64 k, .pointer (some ⟨d, 0, none⟩), .int .i64 pc] 121) (hL : Blk w L #[.string t] 9)
    (hd : Blk w d #[.string t, .int .i64 k] 75) :
    Calls Tryz.prog 46 #[.pointer (some ⟨b, 0, none⟩)] w (DocPost base b L t k w) := by
  have hB : Buf base w b L t k := ⟨hbb, hbL, _, pc, hb, hL, .inr ⟨d, t, k, rfl, hd⟩⟩
  obtain ⟨h0, h1, h2, h3, h4, f0, f1, f2, f3, f4⟩ := hb.c5
  have hend : ∀ n, DocPost base b L t k w (.returned (.pointer (some ⟨d, 0, none⟩))) (w.drewN n) := fun n => ⟨d, rfl, hd, hB, (Fr.refl _ _ _ _).drewN n⟩
  obtain ⟨d0, d1, -⟩ := hd.c2
  go_enter Tryz.func46, Tryz.ntmps46
  go_wp2
  go_quiet ((go_at_call 51; exact Calls.quiet_of (text_c (hB.drewN _))))
  go_wp2
  go_ret
  exact hend _

/-- The document of a buffer: its text and its cursor. -/
theorem doc_c {base : Nat} {w : World} {b L : Nat} {t : ByteArray} {k : Nat} (h : Buf base w b L t k) :
    Calls Tryz.prog 46 #[.pointer (some ⟨b, 0, none⟩)] w (DocPost base b L t k w) := by
  obtain ⟨hbb, hbL, cd, pc, hb, hL, rfl | ⟨d, u, j, rfl, hd⟩⟩ := h
  · exact doc_new hbb hbL hb hL (.inl rfl)
  · by_cases hu : u = t
    · subst hu
      by_cases hj : j = (k : Int)
      · subst hj; exact doc_same hbb hbL hb hL hd
      · exact doc_new hbb hbL hb hL (.inr ⟨d, u, j, rfl, hd, .inr ⟨rfl, hj⟩⟩)
    · exact doc_new hbb hbL hb hL (.inr ⟨d, u, j, rfl, hd, .inl hu⟩)

theorem before_c {d : Nat} {t : ByteArray} {k : Nat} {w : World} (hd : Blk w d #[.string t, .int .i64 k] 75) (ha : Asc t) (hs : t.size ≤ 70368744177664) (hk : k ≤ t.size) :
    Calls Tryz.prog 64 #[.pointer (some ⟨d, 0, none⟩)] w fun e w' => e = .returned (.string (t.extract 0 k)) ∧ Fr 0 [] [] w w' := by
  obtain ⟨h0, h1, -, -⟩ := hd.c2
  go_enter Tryz.func64, Tryz.ntmps64
  go_wp2_with (first | (refine wpList_plain rfl (fun K hK => ?_); refine wp_runes _ _ rfl rfl ha hs ?_; intro rb rc w1 hcap hB hF; refine hK _ _ ?_; clear hK K; have hd1 := hF.blk0 hd; obtain ⟨g0, g1, -, -⟩ := hd1.c2) | (refine wpList_plain rfl (fun K hK => ?_); refine wp_runesTo _ _ _ _ _ _ rfl rfl rfl ?_ ?_ ?_; omega; omega; refine hK _ _ ?_; clear hK K) | (refine wpList_plain rfl (fun K hK => ?_); refine wp_textOf _ _ _ _ _ _ rfl rfl hB ha ?_ ?_ hcap ?_; omega; omega; refine hK _ _ ?_; clear hK K))
  go_ret
  refine ⟨?_, hF⟩
  simp

theorem after_c {d : Nat} {t : ByteArray} {k : Nat} {w : World} (hd : Blk w d #[.string t, .int .i64 k] 75) (ha : Asc t) (hs : t.size ≤ 70368744177664) (hk : k ≤ t.size) :
    Calls Tryz.prog 84 #[.pointer (some ⟨d, 0, none⟩)] w fun e w' => e = .returned (.string (t.extract k t.size)) ∧ Fr 0 [] [] w w' := by
  obtain ⟨h0, h1, -, -⟩ := hd.c2
  go_enter Tryz.func84, Tryz.ntmps84
  go_wp2_with (first | (refine wpList_plain rfl (fun K hK => ?_); refine wp_runes _ _ rfl rfl ha hs ?_; intro rb rc w1 hcap hB hF; refine hK _ _ ?_; clear hK K; have hd1 := hF.blk0 hd; obtain ⟨g0, g1, -, -⟩ := hd1.c2) | (refine wpList_plain rfl (fun K hK => ?_); refine wp_runesFrom _ _ _ _ _ _ rfl rfl rfl ?_ ?_ ?_; omega; omega; refine hK _ _ ?_; clear hK K) | (refine wpList_plain rfl (fun K hK => ?_); refine wp_textOf _ _ _ _ _ _ rfl rfl hB ha ?_ ?_ hcap ?_; omega; omega; refine hK _ _ ?_; clear hK K))
  go_ret
  refine ⟨?_, hF⟩
  simp

theorem setText_c {base : Nat} {w : World} {b L : Nat} {t : ByteArray} {k : Nat} (h : Buf base w b L t k) (v : ByteArray) :
    Calls Tryz.prog 110 #[.pointer (some ⟨b, 0, none⟩), .string v] w fun e w' => e = .returned (.tuple #[]) ∧ Buf base w' b L v k ∧ Fr base [] [L] w w' := by
  obtain ⟨hbb, hbL, cd, pc, hb, hL, hcd⟩ := h
  obtain ⟨h0, h1, -⟩ := hb.c5
  obtain ⟨l0, lf⟩ := hL.c1
  go_enter Tryz.func110, Tryz.ntmps110
  go_wp2
  refine wp_region_still_tail 10 hmix (by kernel_rfl) ?_
  simp only [List.take_succ_cons, List.take_zero, List.drop_succ_cons, List.drop_zero]
  repeat (first | fail | still_step)
  refine wpStill_nil ?_
  go_wp2
  go_end0
  refine ⟨rfl, ⟨hbb, hbL, cd, pc, hb.other (hb.ne hL (by decide)) _, hL.set 0 _, ?_⟩, ((Fr.refl base [] [L] w).setCell (a := ⟨L, 0, none⟩) hbL (.inl (by simp)) _).drew⟩
  rcases hcd with h | ⟨d, u, j, h, hd⟩
  · exact .inl h
  · exact .inr ⟨d, u, j, h, hd.other (hd.ne hL (by decide)) _⟩
end Go.Proofs.YtiepopbmbgfhkaaGreat
