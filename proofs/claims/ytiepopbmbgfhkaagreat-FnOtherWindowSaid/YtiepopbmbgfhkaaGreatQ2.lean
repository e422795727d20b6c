/-
  The Buffer's functions: Text, Document, setText, InsertText, setDocument, DeleteBeforeCursor, Delete; the Document's texts.
  The Buffer's functions that write: InsertText, setCursorPosition, setDocument, DeleteBeforeCursor, Delete.
-/
import Derived.Test.YtiepopbmbgfhkaaGreatQ1
namespace Go.Proofs.YtiepopbmbgfhkaaGreat
open Go.RowKit
open List renaming setIfInBounds_toArray → zq1, set_cons_zero → zq2, set_cons_succ → zq3
open Int renaming toNat_natCast → zq4, toNat_sub → zq5, toNat_zero → zq6
set_option maxHeartbeats 1000000
set_option maxRecDepth 20000
set_option linter.unusedVariables false
set_option linter.unusedSimpArgs false

/-- A Buffer at b: one working line, in block L: its text t; the cursor k; a document of the past, or none. -/
def Buf (base : Nat) (w : World) (b L : Nat) (t : ByteArray) (k : Nat) : Prop :=
  base ≤ b ∧ base ≤ L ∧ ∃ cd pc, Blk w b #[.slice (some ⟨L, 0, none⟩) 1 1, .int .i64 0, .int .i64 k, .pointer cd, .int .i64 pc] 121 ∧ Blk w L #[.string t] 9 ∧
    (cd = none ∨ ∃ d u j, cd = some ⟨d, 0, none⟩ ∧ Blk w d #[.string u, .int .i64 j] 75)

theorem text_c {base : Nat} {w : World} {b L : Nat} {t : ByteArray} {k : Nat} (h : Buf base w b L t k) :
    Calls Tryz.prog 51 #[.pointer (some ⟨b, 0, none⟩)] w fun e w' => e = .returned (.string t) ∧ ∃ n, w' = w.drewN n := by
  obtain ⟨-, -, cd, pc, hb, hL, -⟩ := h
  obtain ⟨h0, h1, h2, h3, h4, -⟩ := hb.c5
  obtain ⟨l0, -⟩ := hL.c1
  go_enter Tryz.func51, Tryz.ntmps51
  go_wp2
  go_quiet (fail)
  go_wp2
  go_ret
  exact ⟨rfl, _, rfl⟩

theorem Buf.drew {base : Nat} {w : World} {b L : Nat} {t : ByteArray} {k : Nat} (h : Buf base w b L t k) : Buf base w.drew b L t k := h
theorem Buf.drewN {base : Nat} {w : World} {b L : Nat} {t : ByteArray} {k : Nat} (h : Buf base w b L t k) (n : Nat) : Buf base (w.drewN n) b L t k := h

/-- What Document leaves. -/
def DocPost (base : Nat) (b L : Nat) (t : ByteArray) (k : Nat) (w : World) (e : Ending) (w' : World) : Prop :=
  ∃ d, e = .returned (.pointer (some ⟨d, 0, none⟩)) ∧ Blk w' d #[.string t, .int .i64 k] 75 ∧ Buf base w' b L t k ∧ Fr base [] [b] w w'

/-- The world behind a new document. -/
theorem doc_end {base : Nat} {w : World} {b L : Nat} {t : ByteArray} {k n m : Nat} {pc : Int} {cd : Option Addr} (hbb : base ≤ b) (hbL : base ≤ L)
    (hb : Blk w b #[.slice (some ⟨L, 0, none⟩) 1 1, .int .i64 0, .int .i64 k, .pointer cd, .int .i64 pc] 121) (hL : Blk w L #[.string t] 9) (hm : m = w.heap.size) :
    DocPost base b L t k w (.returned (.pointer (some ⟨m, 0, none⟩))) (((w.setCell ⟨b, 3, none⟩ (.pointer (some ⟨m, 0, none⟩))).alloc (.cells #[.string t, .int .i64 k] 75)).drewN n) := by
  have hne := hb.ne hL (by decide)
  have hb1 := (hb.set 3 (.pointer (some ⟨m, 0, none⟩))).alloc (.cells #[.string t, .int .i64 k] 75)
  have hL1 := (hL.other (a := ⟨b, 3, none⟩) hne.symm (.pointer (some ⟨m, 0, none⟩))).alloc (.cells #[.string t, .int .i64 k] 75)
  have hd : Blk ((w.setCell ⟨b, 3, none⟩ (.pointer (some ⟨m, 0, none⟩))).alloc (.cells #[.string t, .int .i64 k] 75)) m #[.string t, .int .i64 k] 75 := Blk.new' (by simp [hm]) _ _
  refine ⟨m, rfl, hd, ⟨hbb, hbL, some ⟨m, 0, none⟩, pc, hb1, hL1, .inr ⟨m, t, k, rfl, hd⟩⟩, ?_⟩
  exact (((Fr.refl base [] [b] w).setCell (a := ⟨b, 3, none⟩) hbb (.inl (by simp)) _).alloc _).drewN n

theorem doc_new {base : Nat} {w : World} {b L : Nat} {t : ByteArray} {k : Nat} {pc : Int} {cd : Option Addr} (hbb : base ≤ b) (hbL : base ≤ L)
    (hb : Blk w b #[.slice (some ⟨L, 0, none⟩) 1 1, .int .i64 0, .int .i64 k, .pointer cd, .int .i64 pc] 121) (hL : Blk w L #[.string t] 9)
    (hcd : cd = none ∨ ∃ d u j, cd = some ⟨d, 0, none⟩ ∧ Blk w d #[.string u, .int .i64 j] 75 ∧ (u ≠ t ∨ (u = t ∧ j ≠ (k : Int)))) :
    Calls Tryz.prog 46 #[.pointer (some ⟨b, 0, none⟩)] w (DocPost base b L t k w) := by
  have hB : Buf base w b L t k := ⟨hbb, hbL, cd, pc, hb, hL, hcd.imp id fun ⟨d, u, j, h1, h2, _⟩ => ⟨d, u, j, h1, h2⟩⟩
  obtain ⟨h0, h1, h2, h3, h4, f0, f1, f2, f3, f4⟩ := hb.c5
  have hlt := hb.lt
  have hend := fun n m hm => doc_end (n := n) (m := m) hbb hbL hb hL hm
  rcases hcd with rfl | ⟨d, u, j, rfl, hd, hu | ⟨rfl, hj⟩⟩
  · go_enter Tryz.func46, Tryz.ntmps46
    go_wp2
    go_quiet (fail)
    go_wp2_with (fail)
    have hS : (fun w' : World => w'.cell? ⟨b, 2, none⟩ = some (.int .i64 k)) (w.drewN nq).drew := h2
    refine wp_region_plan [6] [2, 8, 11] (fun w' => w'.cell? ⟨b, 2, none⟩ = some (.int .i64 k)) (.pure 0 (.pure 1 (.pure 3 (.pure 4 (.pure 5 (.take 6 (.go 2 (.pure 7 (.go 8 (.pure 9 (.pure 10 (.go 11 .done)))))))))))) hmix (by kernel_rfl) ?_
    repeat (first | (refine plan_move rfl rfl rfl ?_; (try simp only [Act.put, zq1, zq2, zq3, zq4, zq5, zq6])) | (refine plan_pure (v := ?_) rfl rfl ?_ ?_; rotate_left; (intro w'; go_simp <;> with_reducible rfl); (try simp only [Act.put, zq1, zq2, zq3, zq4, zq5, zq6])) | (refine plan_take (v := ?_) rfl hS rfl ?_ ?_; rotate_left; (intro w' hSw; (try dsimp only at hSw); go_simp <;> with_reducible rfl); (try simp only [Act.put, zq1, zq2, zq3, zq4, zq5, zq6])))
    refine plan_goS rfl rfl (fun K hK => ?_)
    go_simp; refine (text_c (hB.drewN _)).mono ?_; rintro e w1 ⟨rfl, n, rfl⟩; refine hK _ _ h2 ?_; clear hK K; (try simp only [Act.put, zq1, zq2, zq3, zq4, zq5, zq6])
    refine plan_pure (v := ?_) rfl rfl ?_ ?_; rotate_left; (intro w'; go_simp <;> with_reducible rfl); (try simp only [Act.put, zq1, zq2, zq3, zq4, zq5, zq6])
    refine plan_go rfl (by kernel_rfl) rfl (fun K hK => ?_)
    go_simp; refine hK _ _ ?_; clear hK K; (try simp only [Act.put, zq1, zq2, zq3, zq4, zq5, zq6])
    repeat (first | (refine plan_pure (v := ?_) rfl rfl ?_ ?_; rotate_left; (intro w'; go_simp <;> with_reducible rfl); (try simp only [Act.put, zq1, zq2, zq3, zq4, zq5, zq6])))
    refine plan_go rfl (by kernel_rfl) rfl (fun K hK => ?_)
    go_simp; refine hK _ _ ?_; clear hK K; (try simp only [Act.put, zq1, zq2, zq3, zq4, zq5, zq6])
    refine plan_done ?_
    go_wp2
    go_ret
    exact hend _ _ rfl
  · obtain ⟨d0, d1, -⟩ := hd.c2
    have e1 := str_ne hu
    go_enter Tryz.func46, Tryz.ntmps46
    go_wp2
    go_quiet ((go_at_call 51; exact Calls.quiet_of (text_c (hB.drewN _))))
    go_wp2_with (fail)
    have hS : (fun w' : World => w'.cell? ⟨b, 2, none⟩ = some (.int .i64 k)) (w.drewN nq).drew := h2
    refine wp_region_plan [6] [2, 8, 11] (fun w' => w'.cell? ⟨b, 2, none⟩ = some (.int .i64 k)) (.pure 0 (.pure 1 (.pure 3 (.pure 4 (.pure 5 (.take 6 (.go 2 (.pure 7 (.go 8 (.pure 9 (.pure 10 (.go 11 .done)))))))))))) hmix (by kernel_rfl) ?_
    repeat (first | (refine plan_move rfl rfl rfl ?_; (try simp only [Act.put, zq1, zq2, zq3, zq4, zq5, zq6])) | (refine plan_pure (v := ?_) rfl rfl ?_ ?_; rotate_left; (intro w'; go_simp <;> with_reducible rfl); (try simp only [Act.put, zq1, zq2, zq3, zq4, zq5, zq6])) | (refine plan_take (v := ?_) rfl hS rfl ?_ ?_; rotate_left; (intro w' hSw; (try dsimp only at hSw); go_simp <;> with_reducible rfl); (try simp only [Act.put, zq1, zq2, zq3, zq4, zq5, zq6])))
    refine plan_goS rfl rfl (fun K hK => ?_)
    go_simp; refine (text_c (hB.drewN _)).mono ?_; rintro e w1 ⟨rfl, n, rfl⟩; refine hK _ _ h2 ?_; clear hK K; (try simp only [Act.put, zq1, zq2, zq3, zq4, zq5, zq6])
    refine plan_pure (v := ?_) rfl rfl ?_ ?_; rotate_left; (intro w'; go_simp <;> with_reducible rfl); (try simp only [Act.put, zq1, zq2, zq3, zq4, zq5, zq6])
    refine plan_go rfl (by kernel_rfl) rfl (fun K hK => ?_)
    go_simp; refine hK _ _ ?_; clear hK K; (try simp only [Act.put, zq1, zq2, zq3, zq4, zq5, zq6])
    repeat (first | (refine plan_pure (v := ?_) rfl rfl ?_ ?_; rotate_left; (intro w'; go_simp <;> with_reducible rfl); (try simp only [Act.put, zq1, zq2, zq3, zq4, zq5, zq6])))
    refine plan_go rfl (by kernel_rfl) rfl (fun K hK => ?_)
    go_simp; refine hK _ _ ?_; clear hK K; (try simp only [Act.put, zq1, zq2, zq3, zq4, zq5, zq6])
    refine plan_done ?_
    go_wp2
    go_ret
    exact hend _ _ rfl
  · obtain ⟨d0, d1, -⟩ := hd.c2
    obtain ⟨e1, e2⟩ := int_ne hj
    go_enter Tryz.func46, Tryz.ntmps46
    go_wp2
    go_quiet ((go_at_call 51; exact Calls.quiet_of (text_c (hB.drewN _))))
    go_wp2_with (fail)
    have hS : (fun w' : World => w'.cell? ⟨b, 2, none⟩ = some (.int .i64 k)) (w.drewN nq).drew := h2
    refine wp_region_plan [6] [2, 8, 11] (fun w' => w'.cell? ⟨b, 2, none⟩ = some (.int .i64 k)) (.pure 0 (.pure 1 (.pure 3 (.pure 4 (.pure 5 (.take 6 (.go 2 (.pure 7 (.go 8 (.pure 9 (.pure 10 (.go 11 .done)))))))))))) hmix (by kernel_rfl) ?_
    repeat (first | (refine plan_move rfl rfl rfl ?_; (try simp only [Act.put, zq1, zq2, zq3, zq4, zq5, zq6])) | (refine plan_pure (v := ?_) rfl rfl ?_ ?_; rotate_left; (intro w'; go_simp <;> with_reducible rfl); (try simp only [Act.put, zq1, zq2, zq3, zq4, zq5, zq6])) | (refine plan_take (v := ?_) rfl hS rfl ?_ ?_; rotate_left; (intro w' hSw; (try dsimp only at hSw); go_simp <;> with_reducible rfl); (try simp only [Act.put, zq1, zq2, zq3, zq4, zq5, zq6])))
    refine plan_goS rfl rfl (fun K hK => ?_)
    go_simp; refine (text_c (hB.drewN _)).mono ?_; rintro e w1 ⟨rfl, n, rfl⟩; refine hK _ _ h2 ?_; clear hK K; (try simp only [Act.put, zq1, zq2, zq3, zq4, zq5, zq6])
    refine plan_pure (v := ?_) rfl rfl ?_ ?_; rotate_left; (intro w'; go_simp <;> with_reducible rfl); (try simp only [Act.put, zq1, zq2, zq3, zq4, zq5, zq6])
    refine plan_go rfl (by kernel_rfl) rfl (fun K hK => ?_)
    go_simp; refine hK _ _ ?_; clear hK K; (try simp only [Act.put, zq1, zq2, zq3, zq4, zq5, zq6])
    repeat (first | (refine plan_pure (v := ?_) rfl rfl ?_ ?_; rotate_left; (intro w'; go_simp <;> with_reducible rfl); (try simp only [Act.put, zq1, zq2, zq3, zq4, zq5, zq6])))
    refine plan_go rfl (by kernel_rfl) rfl (fun K hK => ?_)
    go_simp; refine hK _ _ ?_; clear hK K; (try simp only [Act.put, zq1, zq2, zq3, zq4, zq5, zq6])
    refine plan_done ?_
    go_wp2
    go_ret
    exact hend _ _ rfl

theorem doc_same {base : Nat} {w : World} {b L d : Nat} {t : ByteArray} {k : Nat} {pc : Int} (hbb : base ≤ b) (hbL : base ≤ L)
    (hb : Blk w b #[.slice (some ⟨L, 0, none⟩) 1 1, .int .i64 0, .int .i64 k, .pointer (some ⟨d, 0, none⟩), .int .i64 pc] 121) (hL : Blk w L #[.string t] 9)
    (hd : Blk w d #[.string t, .int .i64 k] 75) :
    Calls Tryz.prog 46 #[.pointer (some ⟨b, 0, none⟩)] w (DocPost base b L t k w) := by
  have hB : Buf base w b L t k := ⟨hbb, hbL, _, pc, hb, hL, .inr ⟨d, t, k, rfl, hd⟩⟩
  obtain ⟨h0, h1, h2, h3, h4, f0, f1, f2, f3, f4⟩ := hb.c5
  have hend : ∀ n, DocPost base b L t k w (.returned (.pointer (some ⟨d, 0, none⟩))) (w.drewN n) := fun n => ⟨d, rfl, hd, hB, (Fr.refl _ _ _ _).drewN n⟩
  obtain ⟨d0, d1, -⟩ := hd.c2
  go_enter Tryz.func46, Tryz.ntmps46
  go_wp2
  go_quiet ((go_at_call 51; exact Calls.quiet_of (text_c (hB.drewN _))))
  go_wp2
  go_ret
  exact hend _

/-- The document of a buffer: its text and its cursor. -/
theorem doc_c {base : Nat} {w : World} {b L : Nat} {t : ByteArray} {k : Nat} (h : Buf base w b L t k) :
    Calls Tryz.prog 46 #[.pointer (some ⟨b, 0, none⟩)] w (DocPost base b L t k w) := by
  obtain ⟨hbb, hbL, cd, pc, hb, hL, rfl | ⟨d, u, j, rfl, hd⟩⟩ := h
  · exact doc_new hbb hbL hb hL (.inl rfl)
  · by_cases hu : u = t
    · subst hu
      by_cases hj : j = (k : Int)
      · subst hj; exact doc_same hbb hbL hb hL hd
      · exact doc_new hbb hbL hb hL (.inr ⟨d, u, j, rfl, hd, .inr ⟨rfl, hj⟩⟩)
    · exact doc_new hbb hbL hb hL (.inr ⟨d, u, j, rfl, hd, .inl hu⟩)

theorem before_c {d : Nat} {t : ByteArray} {k : Nat} {w : World} (hd : Blk w d #[.string t, .int .i64 k] 75) (ha : Asc t) (hs : t.size ≤ 70368744177664) (hk : k ≤ t.size) :
    Calls Tryz.prog 64 #[.pointer (some ⟨d, 0, none⟩)] w fun e w' => e = .returned (.string (t.extract 0 k)) ∧ Fr 0 [] [] w w' := by
  obtain ⟨h0, h1, -, -⟩ := hd.c2
  go_enter Tryz.func64, Tryz.ntmps64
  go_wp2_with (first | (refine wpList_plain rfl (fun K hK => ?_); refine wp_runes _ _ rfl rfl ha hs ?_; intro rb rc w1 hcap hB hF; refine hK _ _ ?_; clear hK K; have hd1 := hF.blk0 hd; obtain ⟨g0, g1, -, -⟩ := hd1.c2) | (refine wpList_plain rfl (fun K hK => ?_); refine wp_runesTo _ _ _ _ _ _ rfl rfl rfl ?_ ?_ ?_; omega; omega; refine hK _ _ ?_; clear hK K) | (refine wpList_plain rfl (fun K hK => ?_); refine wp_textOf _ _ _ _ _ _ rfl rfl hB ha ?_ ?_ hcap ?_; omega; omega; refine hK _ _ ?_; clear hK K))
  go_ret
  refine ⟨?_, hF⟩
  simp

theorem after_c {d : Nat} {t : ByteArray} {k : Nat} {w : World} (hd : Blk w d #[.string t, .int .i64 k] 75) (ha : Asc t) (hs : t.size ≤ 70368744177664) (hk : k ≤ t.size) :
    Calls Tryz.prog 84 #[.pointer (some ⟨d, 0, none⟩)] w fun e w' => e = .returned (.string (t.extract k t.size)) ∧ Fr 0 [] [] w w' := by
  obtain ⟨h0, h1, -, -⟩ := hd.c2
  go_enter Tryz.func84, Tryz.ntmps84
  go_wp2_with (first | (refine wpList_plain rfl (fun K hK => ?_); refine wp_runes _ _ rfl rfl ha hs ?_; intro rb rc w1 hcap hB hF; refine hK _ _ ?_; clear hK K; have hd1 := hF.blk0 hd; obtain ⟨g0, g1, -, -⟩ := hd1.c2) | (refine wpList_plain rfl (fun K hK => ?_); refine wp_runesFrom _ _ _ _ _ _ rfl rfl rfl ?_ ?_ ?_; omega; omega; refine hK _ _ ?_; clear hK K) | (refine wpList_plain rfl (fun K hK => ?_); refine wp_textOf _ _ _ _ _ _ rfl rfl hB ha ?_ ?_ hcap ?_; omega; omega; refine hK _ _ ?_; clear hK K))
  go_ret
  refine ⟨?_, hF⟩
  simp

theorem setText_c {base : Nat} {w : World} {b L : Nat} {t : ByteArray} {k : Nat} (h : Buf base w b L t k) (v : ByteArray) :
    Calls Tryz.prog 110 #[.pointer (some ⟨b, 0, none⟩), .string v] w fun e w' => e = .returned (.tuple #[]) ∧ Buf base w' b L v k ∧ Fr base [] [L] w w' := by
  obtain ⟨hbb, hbL, cd, pc, hb, hL, hcd⟩ := h
  obtain ⟨h0, h1, -⟩ := hb.c5
  obtain ⟨l0, lf⟩ := hL.c1
  go_enter Tryz.func110, Tryz.ntmps110
  go_wp2
  refine wp_region_still_tail 10 hmix (by kernel_rfl) ?_
  simp only [List.take_succ_cons, List.take_zero, List.drop_succ_cons, List.drop_zero]
  repeat (first | fail | still_step)
  refine wpStill_nil ?_
  go_wp2
  go_end0
  refine ⟨rfl, ⟨hbb, hbL, cd, pc, hb.other (hb.ne hL (by decide)) _, hL.set 0 _, ?_⟩, ((Fr.refl base [] [L] w).setCell (a := ⟨L, 0, none⟩) hbL (.inl (by simp)) _).drew⟩
  rcases hcd with h | ⟨d, u, j, h, hd⟩
  · exact .inl h
  · exact .inr ⟨d, u, j, h, hd.other (hd.ne hL (by decide)) _⟩
end Go.Proofs.YtiepopbmbgfhkaaGreat

namespace Go.Proofs.YtiepopbmbgfhkaaGreat
open Go.RowKit
open List renaming setIfInBounds_toArray → zq1, set_cons_zero → zq2, set_cons_succ → zq3
open Int renaming toNat_natCast → zq4, toNat_sub → zq5, toNat_zero → zq6
set_option maxHeartbeats 1000000
set_option maxRecDepth 20000
set_option linter.unusedVariables false
set_option linter.unusedSimpArgs false

theorem Fr.buf0 {base base' : Nat} {w w1 : World} {b L : Nat} {t : ByteArray} {k : Nat} (hF : Fr base' [] [] w w1) (h : Buf base w b L t k) : Buf base w1 b L t k := by
  obtain ⟨hbb, hbL, cd, pc, hb, hL, hcd⟩ := h
  exact ⟨hbb, hbL, cd, pc, hF.blk0 hb, hF.blk0 hL, hcd.imp id fun ⟨d, u, j, h1, h2⟩ => ⟨d, u, j, h1, hF.blk0 h2⟩⟩

/-- The cells of a buffer that its own functions look at. -/
theorem Buf.cells {base : Nat} {w : World} {b L : Nat} {t : ByteArray} {k : Nat} (h : Buf base w b L t k) : w.cell? ⟨b, 2, none⟩ = some (.int .i64 k) ∧ w.frozen? ⟨b, 2, none⟩ = false ∧ b < w.heap.size ∧ L < w.heap.size ∧ base ≤ b ∧ base ≤ L := by
  obtain ⟨hbb, hbL, cd, pc, hb, hL, hcd⟩ := h
  exact ⟨hb.cell 2, hb.frozen 2, hb.lt, hL.lt, hbb, hbL⟩

/-- The cursor is written. -/
theorem Buf.setCur {base : Nat} {w : World} {b L : Nat} {t : ByteArray} {k : Nat} (h : Buf base w b L t k) (j : Nat) : Buf base (w.setCell ⟨b, 2, none⟩ (.int .i64 j)) b L t j ∧ Fr base [] [b] w (w.setCell ⟨b, 2, none⟩ (.int .i64 j)) := by
  obtain ⟨hbb, hbL, cd, pc, hb, hL, hcd⟩ := h
  refine ⟨⟨hbb, hbL, cd, pc, hb.set 2 _, hL.other (hb.ne hL (by decide)).symm _, hcd.imp id fun ⟨d, u, i, h1, hd⟩ => ⟨d, u, i, h1, hd.other (hd.ne hb (by decide)) _⟩⟩, ?_⟩
  exact (Fr.refl base [] [b] w).setCell (a := ⟨b, 2, none⟩) hbb (.inl (by simp)) _

theorem insert_c {base : Nat} {w : World} {b L : Nat} {t : ByteArray} {k : Nat} (h : Buf base w b L t k) (v : ByteArray) (ha : Asc t) (hv : Asc v) (hs : t.size ≤ 1000000) (hsv : v.size ≤ 1000000) (hk : k ≤ t.size) :
    Calls Tryz.prog 72 #[.pointer (some ⟨b, 0, none⟩), .string v, .bool false, .bool true] w fun e w' => e = .returned (.tuple #[]) ∧ Buf base w' b L (t.extract 0 k ++ v ++ t.extract k t.size) (k + v.size) ∧ Fr base [] [b, L] w w' := by
  have hs' : t.size ≤ 70368744177664 := by omega
  have hsv' : v.size ≤ 70368744177664 := by omega
  have e1 : (t.extract 0 k).size = k := by simp; omega
  have e2 : (t.extract k t.size).size = t.size - k := by simp
  go_enter Tryz.func72, Tryz.ntmps72
  go_wp2_with (fail)
  refine (text_c h).mono ?_
  rintro e w1 ⟨rfl, n, rfl⟩
  obtain ⟨c2, f2, hlt, hlL, hbb, hbL⟩ := h.cells
  go_wp2_with (first | (refine wpList_plain rfl (fun K hK => ?_); refine wp_runes _ _ rfl rfl ha hs' ?_; intro rb rc w1 hcap hB hF; refine hK _ _ ?_; clear hK K; have h1 := hF.buf0 (h.drewN n); obtain ⟨g2, gf2, glt, -⟩ := h1.cells))
  refine wp_region_still_tail 12 hmix (by kernel_rfl) ?_
  simp only [List.take_succ_cons, List.take_zero, List.drop_succ_cons, List.drop_zero]
  repeat (first | (refine wpStill_ex rfl (ex_runesTo rfl rfl rfl ?_ ?_) ?_; omega; omega; (try simp only [Act.put, zq1, zq2, zq3, zq4, zq5, zq6])) | (refine wpStill_ex rfl (ex_runesFrom rfl rfl rfl ?_ ?_) ?_; omega; omega; (try simp only [Act.put, zq1, zq2, zq3, zq4, zq5, zq6])) | (refine wpStill_ex rfl (ex_textOf rfl rfl hB ha ?_ ?_ hcap) ?_; omega; omega; (try simp only [Act.put, zq1, zq2, zq3, zq4, zq5, zq6])) | (refine wpStill_ex rfl (ex_add rfl rfl rfl ?_) ?_; (try simp only [ByteArray.size_append, Int.toNat_natCast]) <;> omega; (try simp only [Act.put, zq1, zq2, zq3, zq4, zq5, zq6])) | still_step)
  refine wpStill_nil ?_
  go_wp2_with (fail)
  refine (setText_c h1.drew _).mono ?_
  rintro e w2 ⟨rfl, hB2, hF2⟩
  obtain ⟨c22, f22, lt2, -⟩ := hB2.cells
  go_wp2_with (first | (refine wpList_plain rfl (fun K hK => ?_); refine wp_runes _ _ rfl rfl hv hsv' ?_; intro rb2 rc2 w3 hcap2 hB3 hF3; refine hK _ _ ?_; clear hK K; have h3 := hF3.buf0 hB2; obtain ⟨g32, gf32, glt3, -⟩ := h3.cells))
  go_end0
  obtain ⟨q1, q2⟩ := h3.setCur (k + v.size)
  rw [show ((k + v.size : Nat) : Int) = (k : Int) + (v.size : Int) by omega] at q1 q2
  exact ⟨rfl, q1, (((((Fr.refl _ _ _ _).drewN n).ext hF).drew.into hF2 (by simp) (by simp)).ext hF3).into q2 (by simp) (by simp)⟩

theorem setCursor_c {base : Nat} {w : World} {b L : Nat} {t : ByteArray} {k : Nat} (h : Buf base w b L t k) (j : Nat) :
    Calls Tryz.prog 178 #[.pointer (some ⟨b, 0, none⟩), .int .i64 j] w fun e w' => e = .returned (.tuple #[]) ∧ Buf base w' b L t j ∧ Fr base [] [b] w w' := by
  obtain ⟨c2, f2, hlt, hlL, hbb, hbL⟩ := h.cells
  obtain ⟨q1, q2⟩ := h.setCur j
  cases j with
  | zero =>
    have hz : ¬ (0 : Int) < ((0 : Nat) : Int) := by omega
    go_enter Tryz.func178, Tryz.ntmps178
    go_wp2
    go_end0
    exact ⟨rfl, q1, q2⟩
  | succ j =>
    have hz : (0 : Int) < ((j + 1 : Nat) : Int) := by omega
    go_enter Tryz.func178, Tryz.ntmps178
    go_wp2
    go_end0
    exact ⟨rfl, q1, q2⟩


theorem setDoc_c {base : Nat} {w : World} {b L d : Nat} {t u : ByteArray} {k j : Nat} (h : Buf base w b L t k) (hd : Blk w d #[.string u, .int .i64 j] 75) :
    Calls Tryz.prog 145 #[.pointer (some ⟨b, 0, none⟩), .pointer (some ⟨d, 0, none⟩)] w fun e w' => e = .returned (.tuple #[]) ∧ Buf base w' b L u j ∧ Fr base [] [b, L] w w' := by
  obtain ⟨hbb, hbL, cd, pc, hb, hL, hcd⟩ := h
  obtain ⟨c0, c1, c2, c3, c4, f0, f1, f2, f3, f4⟩ := hb.c5
  have hdb := hd.ne hb (by decide)
  have hd1 := hd.other (a := ⟨b, 3, none⟩) hdb (.pointer (some ⟨d, 0, none⟩))
  have hB1 : Buf base (w.setCell ⟨b, 3, none⟩ (.pointer (some ⟨d, 0, none⟩))) b L t k := ⟨hbb, hbL, some ⟨d, 0, none⟩, pc, hb.set 3 _, hL.other (hb.ne hL (by decide)).symm _, .inr ⟨d, u, j, rfl, hd1⟩⟩
  have hF1 : Fr base [] [b, L] w (w.setCell ⟨b, 3, none⟩ (.pointer (some ⟨d, 0, none⟩))) := (Fr.refl _ _ _ _).setCell (a := ⟨b, 3, none⟩) hbb (.inl (by simp)) _
  obtain ⟨d0, d1, -⟩ := hd1.c2
  go_enter Tryz.func145, Tryz.ntmps145
  go_wp2_with (fail)
  refine (setCursor_c hB1 j).mono ?_
  rintro e w2 ⟨rfl, hB2, hF2⟩
  have hd2 := hF2.blk hd1 (.inr ⟨by simpa using hdb, by simp⟩)
  obtain ⟨e0, e1, -⟩ := hd2.c2
  go_wp2_with (fail)
  refine (setText_c hB2 u).mono ?_
  rintro e w3 ⟨rfl, hB3, hF3⟩
  go_wp2
  go_end0
  exact ⟨rfl, hB3, (hF1.into hF2 (by simp) (by simp)).into hF3 (by simp) (by simp)⟩

theorem Buf.alloc {base : Nat} {w : World} {b L : Nat} {t : ByteArray} {k : Nat} (h : Buf base w b L t k) (o : Obj) : Buf base (w.alloc o) b L t k := Fr.buf0 ((Fr.refl 0 [] [] w).alloc o) h

theorem extract_all (t : ByteArray) (k : Nat) (hk : k ≤ t.size) : t.extract 0 k ++ t.extract k t.size = t := by
  apply ByteArray.ext
  rw [ByteArray.data_append, ByteArray.data_extract, ByteArray.data_extract]
  apply Array.ext'
  simp only [Array.toList_append, Array.toList_extract, List.extract_eq_take_drop]
  have : t.data.toList.length = t.size := by simp
  simp only [List.drop_zero, Nat.sub_zero]
  rw [show t.data.toList.take k = (t.data.toList).take k from rfl, List.take_of_length_le (l := List.drop k _) (by simp)]
  exact List.take_append_drop k _

theorem Asc.extract {t : ByteArray} (h : Asc t) (i j : Nat) : Asc (t.extract i j) := by
  intro k hk
  have hk' : k < (t.extract i j).data.size := hk
  simp only [ByteArray.data_extract, Array.size_extract] at hk'
  have e : (t.extract i j)[k] = t[i + k]'(by show i + k < t.data.size; omega) := by
    show (t.extract i j).data[k] = t.data[i + k]
    simp [ByteArray.data_extract]
  rw [e]
  exact h _ _

/-- Take signs ahead of the cursor out. -/
theorem delBefore_c {base : Nat} {w : World} {b L : Nat} {t : ByteArray} {k : Nat} (h : Buf base w b L t k) (c : Nat) (ha : Asc t) (hs : t.size ≤ 1000000) (hk : k ≤ t.size) (hc : c ≤ 1000000) :
    Calls Tryz.prog 121 #[.pointer (some ⟨b, 0, none⟩), .int .i64 c] w fun e w' => e = .returned (.string (t.extract (k - c) k)) ∧ Buf base w' b L (t.extract 0 (k - c) ++ t.extract k t.size) (k - c) ∧ Fr base [] [b, L] w w' := by
  have hs' : t.size ≤ 70368744177664 := by omega
  by_cases hk0 : k = 0
  · subst hk0
    have e1 : t.extract (0 - c) 0 = .empty := extract_empty _ _ _ (by omega)
    have e2 : t.extract 0 (0 - c) ++ t.extract 0 t.size = t := by rw [show 0 - c = 0 by omega]; exact extract_all t 0 (by omega)
    rw [e1, e2, show 0 - c = 0 by omega]
    go_enter Tryz.func121, Tryz.ntmps121
    go_wp2_with (fail)
    refine (text_c h).mono ?_
    rintro e w1 ⟨rfl, n, rfl⟩
    go_wp2_with (first | (refine wpList_plain rfl (fun K hK => ?_); refine wp_runes _ _ rfl rfl ha hs' ?_; intro rb rc w1 hcap hB hF; refine hK _ _ ?_; clear hK K; have h1 := hF.buf0 (h.drewN n); obtain ⟨g2, gf2, glt, -⟩ := h1.cells))
    go_ret
    exact ⟨rfl, h1, ((Fr.refl _ _ _ _).drewN n).ext hF⟩
  · have hkp : (0 : Int) < (k : Int) := by omega
    have hda : Asc (t.extract (k - c) k) := ha.extract _ _
    have hds : (t.extract (k - c) k).size ≤ 70368744177664 := by simp; omega
    have hj : IntKind.i64.wrap ((k : Int) - ((k - (k - c) : Nat) : Int)) = ((k - c : Nat) : Int) := by rw [wrap_in (by omega) (by omega)]; omega
    have e1 : (t.extract 0 (k - c)).size ≤ 1000000 := by simp; omega
    have e2 : (t.extract k t.size).size ≤ 1000000 := by simp; omega
    by_cases hck : c ≤ k
    · have hn0 : ¬ (k : Int) - (c : Int) < 0 := by omega
      go_enter Tryz.func121, Tryz.ntmps121
      go_wp2_with (fail)
      refine (text_c h).mono ?_
      rintro e w1 ⟨rfl, n, rfl⟩
      go_wp2_with (first | (refine wpList_plain rfl (fun K hK => ?_); refine wp_runes _ _ rfl rfl ha hs' ?_; intro rb rc w1 hcap hB hF; refine hK _ _ ?_; clear hK K; have h1 := hF.buf0 (h.drewN n); obtain ⟨g2, gf2, glt, -⟩ := h1.cells) | (refine wpList_plain rfl (fun K hK => ?_); refine wp_runesMid _ _ _ _ _ _ _ _ rfl rfl rfl rfl ?_ ?_ ?_ ?_; omega; omega; omega; refine hK _ _ ?_; clear hK K) | (refine wpList_plain rfl (fun K hK => ?_); refine wp_textOf _ _ _ _ _ _ rfl rfl hB ha ?_ ?_ hcap ?_; omega; omega; refine hK _ _ ?_; clear hK K))
      have hS : (fun w' : World => Blk w' rb (runeRow t rc) 21 ∧ w'.cell? ⟨b, 2, none⟩ = some (.int .i64 k)) w1.drew := ⟨hB, g2⟩
      refine wp_region_plan [4, 9, 11, 16] [18, 22, 23] (fun w' => Blk w' rb (runeRow t rc) 21 ∧ w'.cell? ⟨b, 2, none⟩ = some (.int .i64 k)) (.pure 0 (.pure 1 (.pure 2 (.pure 3 (.take 4 (.pure 5 (.pure 6 (.pure 7 (.pure 8 (.take 9 (.pure 10 (.take 11 (.pure 12 (.pure 13 (.pure 14 (.pure 15 (.take 16 (.pure 17 (.go 18 (.pure 19 (.pure 20 (.pure 21 (.go 22 (.go 23 .done)))))))))))))))))))))))) hmix (by kernel_rfl) ?_
      repeat (first | (refine plan_move rfl rfl rfl ?_; (try simp only [Act.put, zq1, zq2, zq3, zq4, zq5, zq6])) | (refine plan_pure rfl rfl (fun w' => ex_runesTo rfl rfl rfl ?_ ?_) ?_; omega; omega; (try simp only [Act.put, zq1, zq2, zq3, zq4, zq5, zq6])) | (refine plan_pure rfl rfl (fun w' => ex_runesFrom rfl rfl rfl ?_ ?_) ?_; omega; omega; (try simp only [Act.put, zq1, zq2, zq3, zq4, zq5, zq6])) | (refine plan_take rfl hS rfl (fun w' hSw => ex_textOf rfl rfl hSw.1 ha ?_ ?_ hcap) ?_; omega; omega; (try simp only [Act.put, zq1, zq2, zq3, zq4, zq5, zq6])) | (refine plan_pure rfl rfl (fun w' => ex_add rfl rfl rfl ?_) ?_; ((try simp only [ByteArray.size_append, Int.toNat_natCast]) <;> omega); (try simp only [Act.put, zq1, zq2, zq3, zq4, zq5, zq6])) | (refine plan_pure (v := ?_) rfl rfl ?_ ?_; rotate_left; (intro w'; go_simp <;> with_reducible rfl); (try simp only [Act.put, zq1, zq2, zq3, zq4, zq5, zq6])) | (refine plan_take (v := ?_) rfl hS rfl ?_ ?_; rotate_left; (intro w' hSw; (try dsimp only at hSw); go_simp <;> with_reducible rfl); (try simp only [Act.put, zq1, zq2, zq3, zq4, zq5, zq6])))
      refine plan_goS rfl rfl (fun K hK => ?_)
      refine wp_runes _ _ rfl rfl hda hds ?_; intro rb2 rc2 w2 hcap2 hB2 hF2; refine hK _ _ ⟨hF2.blk0 hS.1, hF2.cell0 hS.2⟩ ?_; clear hK K; (try simp only [Act.put, zq1, zq2, zq3, zq4, zq5, zq6]); have h2 := hF2.buf0 h1.drew; have hS := (show (fun w' : World => Blk w' rb (runeRow t rc) 21 ∧ w'.cell? ⟨b, 2, none⟩ = some (.int .i64 k)) w2 from ⟨hF2.blk0 hS.1, hF2.cell0 hS.2⟩)
      repeat (first | (refine plan_pure rfl rfl (fun w' => ex_runesTo rfl rfl rfl ?_ ?_) ?_; omega; omega; (try simp only [Act.put, zq1, zq2, zq3, zq4, zq5, zq6])) | (refine plan_pure rfl rfl (fun w' => ex_runesFrom rfl rfl rfl ?_ ?_) ?_; omega; omega; (try simp only [Act.put, zq1, zq2, zq3, zq4, zq5, zq6])) | (refine plan_take rfl hS rfl (fun w' hSw => ex_textOf rfl rfl hSw.1 ha ?_ ?_ hcap) ?_; omega; omega; (try simp only [Act.put, zq1, zq2, zq3, zq4, zq5, zq6])) | (refine plan_pure rfl rfl (fun w' => ex_add rfl rfl rfl ?_) ?_; ((try simp only [ByteArray.size_append, Int.toNat_natCast]) <;> omega); (try simp only [Act.put, zq1, zq2, zq3, zq4, zq5, zq6])) | (refine plan_pure (v := ?_) rfl rfl ?_ ?_; rotate_left; (intro w'; go_simp <;> with_reducible rfl); (try simp only [Act.put, zq1, zq2, zq3, zq4, zq5, zq6])))
      refine plan_go rfl (by kernel_rfl) rfl (fun K hK => ?_)
      go_simp; refine hK _ _ ?_; clear hK K; (try simp only [Act.put, zq1, zq2, zq3, zq4, zq5, zq6])
      refine plan_go rfl (by kernel_rfl) rfl (fun K hK => ?_)
      go_simp; refine (setDoc_c (h2.alloc _) (Blk.new' rfl _ _)).mono ?_; rintro e w3 ⟨rfl, hB3, hF3⟩; refine hK _ _ ?_; clear hK K; (try simp only [Act.put, zq1, zq2, zq3, zq4, zq5, zq6])
      refine plan_done ?_
      go_wp2
      go_ret
      refine ⟨rfl, hB3, ?_⟩
      exact ((((Fr.refl _ _ _ _).drewN n).ext hF).drew.ext hF2).alloc _ |>.into hF3 (by simp) (by simp)
    · have hn0 : (k : Int) - (c : Int) < 0 := by omega
      have ek : k - c = 0 := by omega
      rw [ek] at hda hds hj e1 ⊢
      go_enter Tryz.func121, Tryz.ntmps121
      go_wp2_with (fail)
      refine (text_c h).mono ?_
      rintro e w1 ⟨rfl, n, rfl⟩
      go_wp2_with (first | (refine wpList_plain rfl (fun K hK => ?_); refine wp_runes _ _ rfl rfl ha hs' ?_; intro rb rc w1 hcap hB hF; refine hK _ _ ?_; clear hK K; have h1 := hF.buf0 (h.drewN n); obtain ⟨g2, gf2, glt, -⟩ := h1.cells) | (refine wpList_plain rfl (fun K hK => ?_); refine wp_runesMid _ _ _ _ _ _ _ _ rfl rfl rfl rfl ?_ ?_ ?_ ?_; omega; omega; omega; refine hK _ _ ?_; clear hK K) | (refine wpList_plain rfl (fun K hK => ?_); refine wp_textOf _ _ _ _ _ _ rfl rfl hB ha ?_ ?_ hcap ?_; omega; omega; refine hK _ _ ?_; clear hK K))
      have hS : (fun w' : World => Blk w' rb (runeRow t rc) 21 ∧ w'.cell? ⟨b, 2, none⟩ = some (.int .i64 k)) w1.drew := ⟨hB, g2⟩
      refine wp_region_plan [4, 9, 11, 16] [18, 22, 23] (fun w' => Blk w' rb (runeRow t rc) 21 ∧ w'.cell? ⟨b, 2, none⟩ = some (.int .i64 k)) (.pure 0 (.pure 1 (.pure 2 (.pure 3 (.take 4 (.pure 5 (.pure 6 (.pure 7 (.pure 8 (.take 9 (.pure 10 (.take 11 (.pure 12 (.pure 13 (.pure 14 (.pure 15 (.take 16 (.pure 17 (.go 18 (.pure 19 (.pure 20 (.pure 21 (.go 22 (.go 23 .done)))))))))))))))))))))))) hmix (by kernel_rfl) ?_
      repeat (first | (refine plan_move rfl rfl rfl ?_; (try simp only [Act.put, zq1, zq2, zq3, zq4, zq5, zq6])) | (refine plan_pure rfl rfl (fun w' => ex_runesTo rfl rfl rfl ?_ ?_) ?_; omega; omega; (try simp only [Act.put, zq1, zq2, zq3, zq4, zq5, zq6])) | (refine plan_pure rfl rfl (fun w' => ex_runesFrom rfl rfl rfl ?_ ?_) ?_; omega; omega; (try simp only [Act.put, zq1, zq2, zq3, zq4, zq5, zq6])) | (refine plan_take rfl hS rfl (fun w' hSw => ex_textOf rfl rfl hSw.1 ha ?_ ?_ hcap) ?_; omega; omega; (try simp only [Act.put, zq1, zq2, zq3, zq4, zq5, zq6])) | (refine plan_pure rfl rfl (fun w' => ex_add rfl rfl rfl ?_) ?_; ((try simp only [ByteArray.size_append, Int.toNat_natCast]) <;> omega); (try simp only [Act.put, zq1, zq2, zq3, zq4, zq5, zq6])) | (refine plan_pure (v := ?_) rfl rfl ?_ ?_; rotate_left; (intro w'; go_simp <;> with_reducible rfl); (try simp only [Act.put, zq1, zq2, zq3, zq4, zq5, zq6])) | (refine plan_take (v := ?_) rfl hS rfl ?_ ?_; rotate_left; (intro w' hSw; (try dsimp only at hSw); go_simp <;> with_reducible rfl); (try simp only [Act.put, zq1, zq2, zq3, zq4, zq5, zq6])))
      refine plan_goS rfl rfl (fun K hK => ?_)
      refine wp_runes _ _ rfl rfl hda hds ?_; intro rb2 rc2 w2 hcap2 hB2 hF2; refine hK _ _ ⟨hF2.blk0 hS.1, hF2.cell0 hS.2⟩ ?_; clear hK K; (try simp only [Act.put, zq1, zq2, zq3, zq4, zq5, zq6]); have h2 := hF2.buf0 h1.drew; have hS := (show (fun w' : World => Blk w' rb (runeRow t rc) 21 ∧ w'.cell? ⟨b, 2, none⟩ = some (.int .i64 k)) w2 from ⟨hF2.blk0 hS.1, hF2.cell0 hS.2⟩)
      repeat (first | (refine plan_pure rfl rfl (fun w' => ex_runesTo rfl rfl rfl ?_ ?_) ?_; omega; omega; (try simp only [Act.put, zq1, zq2, zq3, zq4, zq5, zq6])) | (refine plan_pure rfl rfl (fun w' => ex_runesFrom rfl rfl rfl ?_ ?_) ?_; omega; omega; (try simp only [Act.put, zq1, zq2, zq3, zq4, zq5, zq6])) | (refine plan_take rfl hS rfl (fun w' hSw => ex_textOf rfl rfl hSw.1 ha ?_ ?_ hcap) ?_; omega; omega; (try simp only [Act.put, zq1, zq2, zq3, zq4, zq5, zq6])) | (refine plan_pure rfl rfl (fun w' => ex_add rfl rfl rfl ?_) ?_; ((try simp only [ByteArray.size_append, Int.toNat_natCast]) <;> omega); (try simp only [Act.put, zq1, zq2, zq3, zq4, zq5, zq6])) | (refine plan_pure (v := ?_) rfl rfl ?_ ?_; rotate_left; (intro w'; go_simp <;> with_reducible rfl); (try simp only [Act.put, zq1, zq2, zq3, zq4, zq5, zq6])))
      refine plan_go rfl (by kernel_rfl) rfl (fun K hK => ?_)
      go_simp; refine hK _ _ ?_; clear hK K; (try simp only [Act.put, zq1, zq2, zq3, zq4, zq5, zq6])
      refine plan_go rfl (by kernel_rfl) rfl (fun K hK => ?_)
      go_simp; refine (setDoc_c (h2.alloc _) (Blk.new' rfl _ _)).mono ?_; rintro e w3 ⟨rfl, hB3, hF3⟩; refine hK _ _ ?_; clear hK K; (try simp only [Act.put, zq1, zq2, zq3, zq4, zq5, zq6])
      refine plan_done ?_
      go_wp2
      go_ret
      refine ⟨rfl, hB3, ?_⟩
      exact ((((Fr.refl _ _ _ _).drewN n).ext hF).drew.ext hF2).alloc _ |>.into hF3 (by simp) (by simp)
end Go.Proofs.YtiepopbmbgfhkaaGreat
