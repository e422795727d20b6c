/-
  Prompted.
-/
import Derived.Test.YtiepopbmbgfhkaaGreatQ24
namespace Go.Proofs.YtiepopbmbgfhkaaGreat
open Go.RowKit
open List renaming setIfInBounds_toArray → zq1, set_cons_zero → zq2, set_cons_succ → zq3
open Int renaming toNat_natCast → zq4, toNat_sub → zq5, toNat_zero → zq6
set_option maxHeartbeats 2000000
set_option maxRecDepth 20000
set_option linter.unusedVariables false
set_option linter.unusedSimpArgs false

theorem OS.low {base base' : Nat} {w : World} {v : Value} {xs : List ByteArray} (h : OS base w v xs) (hb : base' ≤ base) : OS base' w v xs := by
  obtain ⟨h1, h2 | ⟨g, cap, cur, e, hb', r⟩⟩ := h
  · exact ⟨h1, .inl h2⟩
  · exact ⟨h1, .inr ⟨g, cap, cur, e, by omega, r⟩⟩

theorem res12 {fn : Func} (h : fn.results = #[.cell 4 9, .cell 5 31, .tmp 6]) {tmps : Array Value} {w : World} {B x : Nat} {t : ByteArray} {cs : Array Value} (h4 : tmps.getD 4 undef = .pointer (some ⟨B, 0, none⟩)) (h5 : tmps.getD 5 undef = .pointer (some ⟨x, 0, none⟩)) (hB : Blk w B #[.string t] 9) (hx : Blk w x cs 31) (hs : cs.size = 4 := by rfl) :
    (results fn tmps).run Tryz.prog w = .ok (.tuple #[.string t, .agg cs, tmps.getD 6 undef]) w := by
  have hr := run_loadVar_row (P := Tryz.prog) w x 31 31 cs (0, 0) _ hx Tryz.underlying31 rfl (by rw [hs]; kernel_rfl)
  have b0 : w.cell? ⟨B, 0, none⟩ = some (.string t) := hB.cell 0
  have hr9 : (loadVar 9 ⟨B, 0, none⟩).run Tryz.prog w = .ok (.string t) w := by simp [go_sem, b0]
  have h4' : tmps[4]?.getD undef = .pointer (some ⟨B, 0, none⟩) := by simpa using h4
  have h5' : tmps[5]?.getD undef = .pointer (some ⟨x, 0, none⟩) := by simpa using h5
  simp [results, h, h4', h5', asAddr, hr, hr9]

/-- What 'Prompted' leaves. -/
def PrompPost (s : PS) (over : Bool) (w : World) (e : Ending) (w' : World) : Prop :=
  ∃ vl bs, e = .returned (.tuple #[.string bs, .agg #[vl, .string s.t, .int .i64 s.k, .bool over], .bool true]) ∧ OS w.heap.size w' vl s.lines ∧ Fr 0 [] [] w w'

theorem Fr.fresh' {ts bs : List Nat} {w w1 : World} {base : Nat} (hb : w.heap.size ≤ base) (h : Fr base ts bs w w1) : Fr 0 [] [] w w1 :=
  ⟨h.os, h.tape, h.output, h.size, fun k hk _ => h.keep k hk (.inl (by omega))⟩

theorem prompted_end {M : Nat} {w w3 : World} {vp : Option Addr} {vc : Nat} {bs t : ByteArray} {lines : List ByteArray} {k : Nat} {ovr : Bool}
    (hX : Blk w3 (M + 1 + 1 + 1) #[.slice vp lines.length vc, .string t, .int .i64 k, .bool ovr] 31) (hB : Blk w3 (M + 1 + 1) #[.string bs] 9) (hO : OS (M + 1 + 1 + 1) w3 (.slice vp lines.length vc) lines) (hF : Fr M TT [] w w3) (hM : w.heap.size = M) :
    Blk (((((w3.setCell ⟨M + 1 + 1, 0, none⟩ (.string bs)).setCell ⟨M + 1 + 1 + 1, 0, none⟩ (.slice vp lines.length vc)).setCell ⟨M + 1 + 1 + 1, 1, none⟩ (.string t)).setCell ⟨M + 1 + 1 + 1, 2, none⟩ (.int .i64 k)).setCell ⟨M + 1 + 1 + 1, 3, none⟩ (.bool ovr)).drew (M + 1 + 1) #[.string bs] 9 ∧
    Blk (((((w3.setCell ⟨M + 1 + 1, 0, none⟩ (.string bs)).setCell ⟨M + 1 + 1 + 1, 0, none⟩ (.slice vp lines.length vc)).setCell ⟨M + 1 + 1 + 1, 1, none⟩ (.string t)).setCell ⟨M + 1 + 1 + 1, 2, none⟩ (.int .i64 k)).setCell ⟨M + 1 + 1 + 1, 3, none⟩ (.bool ovr)).drew (M + 1 + 1 + 1) #[.slice vp lines.length vc, .string t, .int .i64 k, .bool ovr] 31 ∧
    OS w.heap.size (((((w3.setCell ⟨M + 1 + 1, 0, none⟩ (.string bs)).setCell ⟨M + 1 + 1 + 1, 0, none⟩ (.slice vp lines.length vc)).setCell ⟨M + 1 + 1 + 1, 1, none⟩ (.string t)).setCell ⟨M + 1 + 1 + 1, 2, none⟩ (.int .i64 k)).setCell ⟨M + 1 + 1 + 1, 3, none⟩ (.bool ovr)).drew (.slice vp lines.length vc) lines ∧
    Fr 0 [] [] w (((((w3.setCell ⟨M + 1 + 1, 0, none⟩ (.string bs)).setCell ⟨M + 1 + 1 + 1, 0, none⟩ (.slice vp lines.length vc)).setCell ⟨M + 1 + 1 + 1, 1, none⟩ (.string t)).setCell ⟨M + 1 + 1 + 1, 2, none⟩ (.int .i64 k)).setCell ⟨M + 1 + 1 + 1, 3, none⟩ (.bool ovr)).drew := by
  have stepX : ∀ (W : World) (i : Nat) (v : Value) (cs : Array Value), Blk W (M + 1 + 1 + 1) cs 31 → Blk W (M + 1 + 1) #[.string bs] 9 → OS (M + 1 + 1 + 1) W (.slice vp lines.length vc) lines → Fr M TT [] w W →
      Blk (W.setCell ⟨M + 1 + 1 + 1, i, none⟩ v) (M + 1 + 1 + 1) (cs.setIfInBounds i v) 31 ∧ Blk (W.setCell ⟨M + 1 + 1 + 1, i, none⟩ v) (M + 1 + 1) #[.string bs] 9 ∧ OS (M + 1 + 1 + 1) (W.setCell ⟨M + 1 + 1 + 1, i, none⟩ v) (.slice vp lines.length vc) lines ∧ Fr M TT [] w (W.setCell ⟨M + 1 + 1 + 1, i, none⟩ v) := by
    intro W i v cs hx hb ho hf
    have e : Fr M [] [M + 1 + 1 + 1] W (W.setCell ⟨M + 1 + 1 + 1, i, none⟩ v) := (Fr.refl M [] [M + 1 + 1 + 1] W).setCell (a := ⟨M + 1 + 1 + 1, i, none⟩) (by show M ≤ M + 1 + 1 + 1; omega) (.inl (by simp)) v
    refine ⟨hx.set i v, hb.other (a := ⟨M + 1 + 1 + 1, i, none⟩) (by show M + 1 + 1 ≠ M + 1 + 1 + 1; omega) v, ho.fr e (fun g hg hm => ?_) (by simp), hf.trans (e.types (by simp) (fun y hy => .inr (by simp only [List.mem_singleton] at hy; subst hy; exact ⟨_, _, hx, by simp [TT]⟩)))⟩
    simp only [List.mem_singleton] at hm
    obtain ⟨-, ds, e1⟩ := row_blk ho g hg
    subst hm
    exact absurd (e1.inj hx).2 (by decide)
  have e : Fr M [] [M + 1 + 1] w3 (w3.setCell ⟨M + 1 + 1, 0, none⟩ (.string bs)) := (Fr.refl M [] [M + 1 + 1] w3).setCell (a := ⟨M + 1 + 1, 0, none⟩) (by show M ≤ M + 1 + 1; omega) (.inl (by simp)) _
  have b1 := hB.set 0 (.string bs)
  have x1 := hX.other (a := ⟨M + 1 + 1, 0, none⟩) (by show M + 1 + 1 + 1 ≠ M + 1 + 1; omega) (.string bs)
  have o1 := hO.fr e (fun g hg hm => by
    simp only [List.mem_singleton] at hm
    have := (row_blk hO g hg).1
    omega) (by simp)
  have f1 := hF.trans (e.types (by simp) (fun y hy => .inr (by simp only [List.mem_singleton] at hy; subst hy; exact ⟨_, _, hB, by simp [TT]⟩)))
  obtain ⟨x2, b2, o2, f2⟩ := stepX _ 0 (.slice vp lines.length vc) _ x1 b1 o1 f1
  obtain ⟨x3, b3, o3, f3⟩ := stepX _ 1 (.string t) _ x2 b2 o2 f2
  obtain ⟨x4, b4, o4, f4⟩ := stepX _ 2 (.int .i64 k) _ x3 b3 o3 f3
  obtain ⟨x5, b5, o5, f5⟩ := stepX _ 3 (.bool ovr) _ x4 b4 o4 f4
  refine ⟨b5.drew, x5.drew, (o5.low (by omega)).fr0 (Fr.refl 0 [] [] _).drew, ?_⟩
  exact (Fr.fresh' (Nat.le_of_eq hM) f5).drew

theorem prompted_c {w : World} {S : Sess} {ov hv chv : Value} {chunks : List ByteArray} {f : PS → List UInt8 → PS × Bool} {s0 : PS}
    (hS : SessOk S) (hw : 1 ≤ w.heap.size) (ht : Tab w) (hO : PkIn w ov S.offs) (hH : TxIn w hv S.hist)
    (hCh : TxIn w chv chunks) (hChN : ∀ A n c, chv = .slice (some A) n c → A.block < w.heap.size) (hlen : chunks.length ≤ 100)
    (hShow : ∀ N x I w D, 1 < N → IdS S x I → St N w I D → D.ps = S.ps → D.n = 0 → Calls Tryz.prog 22 #[.pointer (some ⟨I.p, 0, none⟩)] w (ShowPost N I D s0 w))
    (hFed : ∀ N x (i : Nat) (hi : i < chunks.length) I w D u, 1 < N → IdS S x I → St N w I D → D.ps = (play f s0 (chunks.take i)).1 → (play f s0 (chunks.take i)).2 = false → DatB w u chunks[i].data.toList → D.n ≤ 200000 + 210000 * i →
      Calls Tryz.prog 23 #[.pointer (some ⟨I.p, 0, none⟩), u] w (FedPost N I D (f (play f s0 (chunks.take i)).1 chunks[i].data.toList).1 (f (play f s0 (chunks.take i)).1 chunks[i].data.toList).2 w)) :
    Calls Tryz.prog 12 #[.agg (S.cells ov hv), chv] w (PrompPost (play f s0 chunks).1 (play f s0 chunks).2 w) := by
  obtain ⟨M, hM⟩ : ∃ M, w.heap.size = M := ⟨_, rfl⟩
  have hm1 := hS.m1
  have hm2 := hS.m2
  have hc1 := hS.c1
  have hc2 := hS.c2
  have hSw : SessOk S := hS
  have htr := tried_c (caps := #[.pointer (some ⟨M, 0, none⟩), .pointer (some ⟨M + 1 + 1 + 1, 0, none⟩), .pointer (some ⟨M + 1, 0, none⟩), .pointer (some ⟨M + 1 + 1, 0, none⟩)])
    (w := (((w.alloc (.cells (S.cells ov hv) 25)).alloc (.cells #[chv] 23)).alloc (.cells #[.string .empty] 9)).alloc (.cells #[.slice none 0 0, .string .empty, .int .i64 0, .bool false] 31))
    (R := fun w' => (∃ vl bs, Blk w' (M + 1 + 1 + 1) #[vl, .string (play f s0 chunks).1.t, .int .i64 (play f s0 chunks).1.k, .bool (play f s0 chunks).2] 31 ∧ OS (M + 1 + 1 + 1) w' vl (play f s0 chunks).1.lines ∧ Blk w' (M + 1 + 1) #[.string bs] 9) ∧ Fr M TT [] w w' ∧ Blk w' (M + 1 + 1 + 1 + 1) #[.bool false] 4)
    (by
      have hF : Fr 0 [] [] w (((((w.alloc (.cells (S.cells ov hv) 25)).alloc (.cells #[chv] 23)).alloc (.cells #[.string .empty] 9)).alloc (.cells #[.slice none 0 0, .string .empty, .int .i64 0, .bool false] 31)).alloc (.cells #[.bool false] 4)) := (((((Fr.refl 0 [] [] w).alloc _).alloc _).alloc _).alloc _).alloc _
      have hN : Blk (((((w.alloc (.cells (S.cells ov hv) 25)).alloc (.cells #[chv] 23)).alloc (.cells #[.string .empty] 9)).alloc (.cells #[.slice none 0 0, .string .empty, .int .i64 0, .bool false] 31)).alloc (.cells #[.bool false] 4)) (M + 1 + 1 + 1 + 1) #[.bool false] 4 := Blk.new' (by simp [hM]) _ _
      refine (play_c (N := M + 1 + 1 + 1) (A := M) (x := M + 1 + 1 + 1) (C := M + 1) (B := M + 1 + 1) (t0 := .empty) (f := f) (s0 := s0) hS (by omega) (Nat.le_refl _) (by omega) (by omega) (by omega) (by omega) (hF.tab0 ht) (hO.fr hF) (hH.fr hF) ?_ ?_ ?_ ?_ (hCh.fr hF) (fun A n c e => by have := hChN A n c e; omega) hlen (fun I w D h1 h2 h3 h4 => hShow _ _ I w D (by omega) h1 h2 h3 h4) (fun i hi I w D u h1 h2 h3 h4 h5 h6 => hFed _ _ i hi I w D u (by omega) h1 h2 h3 h4 h5 h6)).mono ?_
      · exact ((((Blk.new' hM.symm _ _).alloc _).alloc _).alloc _).alloc _
      · exact (Blk.new' (by simp [hM]) _ _).alloc _
      · exact (((Blk.new' (by simp [hM]) _ _).alloc _).alloc _).alloc _
      · exact ((Blk.new' (by simp [hM]) _ _).alloc _).alloc _
      · rintro e w' ⟨rfl, hx, hFp⟩
        exact ⟨rfl, hx, hF.any.trans hFp, hFp.blk hN (.inr ⟨by simp, by decide⟩)⟩)
    (fun w' hR => by
      have e : ((((w.alloc (.cells (S.cells ov hv) 25)).alloc (.cells #[chv] 23)).alloc (.cells #[.string .empty] 9)).alloc (.cells #[.slice none 0 0, .string .empty, .int .i64 0, .bool false] 31)).heap.size = M + 1 + 1 + 1 + 1 := by simp [hM]
      rw [e]; exact hR.2.2)
  have e4 : ((((w.alloc (.cells (S.cells ov hv) 25)).alloc (.cells #[chv] 23)).alloc (.cells #[.string .empty] 9)).alloc (.cells #[.slice none 0 0, .string .empty, .int .i64 0, .bool false] 31)).heap.size = M + 1 + 1 + 1 + 1 := by simp [hM]
  rw [e4] at htr
  clear e4
  obtain ⟨pr, hpr⟩ : ∃ pr, play f s0 chunks = pr := ⟨_, rfl⟩
  rw [hpr] at htr ⊢
  have HPR := Lib.hid hpr
  clear hpr
  have cO : ∃ A n c, ov = .slice A n c := by obtain ⟨A, c, h⟩ := hO.form; exact ⟨A, _, c, h⟩
  have cH : ∃ A n c, hv = .slice A n c := by obtain ⟨A, c, h⟩ := hH.form; exact ⟨A, _, c, h⟩
  have cC : ∃ A n c, chv = .slice A n c := by obtain ⟨A, c, h⟩ := hCh.form; exact ⟨A, _, c, h⟩
  obtain ⟨oA, on, oc, rfl⟩ := cO
  obtain ⟨hA, hn, hc, rfl⟩ := cH
  obtain ⟨kA, kn, kc, rfl⟩ := cC
  clear hShow hFed hO hH hCh hChN hS
  unfold Sess.cells at htr ⊢
  go_enter Tryz.func12, Tryz.ntmps12
  go_wp2_with (fail)
  refine htr.mono ?_
  rintro e w2 ⟨rfl, w1, ⟨⟨vl, bs, hX, hO, hB⟩, hF, hT⟩, rfl⟩
  clear htr
  obtain ⟨vp, vc, rfl⟩ := hO.form
  have n1 : M + 1 + 1 + 1 ≠ M + 1 + 1 + 1 + 1 := by omega
  have n2 : M + 1 + 1 ≠ M + 1 + 1 + 1 + 1 := by omega
  have hX2 := hX.other (a := ⟨M + 1 + 1 + 1 + 1, 0, none⟩) n1 (.bool true)
  have hB2 := hB.other (a := ⟨M + 1 + 1 + 1 + 1, 0, none⟩) n2 (.bool true)
  have fT : Fr M [] [M + 1 + 1 + 1 + 1] w1 (w1.setCell ⟨M + 1 + 1 + 1 + 1, 0, none⟩ (.bool true)) := (Fr.refl M [] [M + 1 + 1 + 1 + 1] w1).setCell (a := ⟨M + 1 + 1 + 1 + 1, 0, none⟩) (by show M ≤ M + 1 + 1 + 1 + 1; omega) (.inl (by simp)) _
  have hO2 := hO.fr fT (fun g hg hm => by
    simp only [List.mem_singleton] at hm
    obtain ⟨-, ds, e1⟩ := row_blk hO g hg
    subst hm
    exact absurd (e1.inj hT).2 (by decide)) (by simp)
  have hF2 : Fr M TT [] w (w1.setCell ⟨M + 1 + 1 + 1 + 1, 0, none⟩ (.bool true)) := hF.setCell (a := ⟨M + 1 + 1 + 1 + 1, 0, none⟩) (by show M ≤ M + 1 + 1 + 1 + 1; omega) (.inr (.inl (by show w.heap.size ≤ M + 1 + 1 + 1 + 1; omega))) _
  obtain ⟨w3, hw3⟩ : ∃ w3, w1.setCell ⟨M + 1 + 1 + 1 + 1, 0, none⟩ (.bool true) = w3 := ⟨_, rfl⟩
  rw [hw3] at hX2 hB2 hO2 hF2 ⊢
  clear hw3 fT hX hB hO hF hT n1 n2
  have x0 := hX2.cell 0
  have x1 := hX2.cell 1
  have x2 := hX2.cell 2
  have x3 := hX2.cell 3
  have b0 := hB2.cell 0
  have bf := hB2.frozen 0
  have bl := hB2.lt
  have xf0 := hX2.frozen 0
  have xf1 := hX2.frozen 1
  have xf2 := hX2.frozen 2
  have xf3 := hX2.frozen 3
  have xl := hX2.lt
  simp only [List.getElem?_toArray, List.getElem?_cons_zero, List.getElem?_cons_succ] at x0 x1 x2 x3 b0
  have hB3 := hB2.drew.set 0 (.string bs)
  have hX3 := hX2.drew.other (a := ⟨M + 1 + 1, 0, none⟩) (by show M + 1 + 1 + 1 ≠ M + 1 + 1; omega) (.string bs)
  go_wp2_with (fail)
  have hS : (fun w' : World => w'.cell? ⟨M + 1 + 1, 0, none⟩ = some (.string bs) ∧ w'.cell? ⟨M + 1 + 1 + 1, 0, none⟩ = some (.slice vp pr.1.lines.length vc) ∧ w'.cell? ⟨M + 1 + 1 + 1, 1, none⟩ = some (.string pr.1.t) ∧ w'.cell? ⟨M + 1 + 1 + 1, 2, none⟩ = some (.int .i64 pr.1.k) ∧ w'.cell? ⟨M + 1 + 1 + 1, 3, none⟩ = some (.bool pr.2)) w3.drew := ⟨b0, x0, x1, x2, x3⟩
  refine wp_region_plan [0, 1] [2, 3] (fun w' : World => w'.cell? ⟨M + 1 + 1, 0, none⟩ = some (.string bs) ∧ w'.cell? ⟨M + 1 + 1 + 1, 0, none⟩ = some (.slice vp pr.1.lines.length vc) ∧ w'.cell? ⟨M + 1 + 1 + 1, 1, none⟩ = some (.string pr.1.t) ∧ w'.cell? ⟨M + 1 + 1 + 1, 2, none⟩ = some (.int .i64 pr.1.k) ∧ w'.cell? ⟨M + 1 + 1 + 1, 3, none⟩ = some (.bool pr.2)) (.take 0 (.take 1 (.go 2 (.go 3 (.pure 4 .done))))) hmix (by kernel_rfl) ?_
  repeat (first | (refine plan_take (v := ?_) rfl hS rfl ?_ ?_; rotate_left; (intro w' hSw; (try dsimp only at hSw); go_simp <;> with_reducible rfl); (try simp only [Act.put, zq1, zq2, zq3, zq4, zq5, zq6])))
  refine plan_goS rfl rfl (fun K hK => ?_)
  go_simp; refine hK _ _ ⟨hB3.cell 0, hX3.cell 0, hX3.cell 1, hX3.cell 2, hX3.cell 3⟩ ?_; clear hK K; (try simp only [Act.put, zq1, zq2, zq3, zq4, zq5, zq6])
  refine plan_go rfl (by kernel_rfl) rfl (fun K hK => ?_)
  go_simp; refine hK _ _ ?_; clear hK K; (try simp only [Act.put, zq1, zq2, zq3, zq4, zq5, zq6])
  refine plan_pure (v := ?_) rfl rfl ?_ ?_; rotate_left; (intro w'; go_simp <;> with_reducible rfl); (try simp only [Act.put, zq1, zq2, zq3, zq4, zq5, zq6])
  refine plan_done ?_
  go_wp2_with (fail)
  have HE := prompted_end hX2 hB2 hO2 hF2 hM
  obtain ⟨g1, g2, g3, g4⟩ := HE
  refine bodyPost_ret (res12 rfl rfl rfl g1 g2) rfl ?_
  exact ⟨_, bs, rfl, g3, g4⟩
end Go.Proofs.YtiepopbmbgfhkaaGreat
