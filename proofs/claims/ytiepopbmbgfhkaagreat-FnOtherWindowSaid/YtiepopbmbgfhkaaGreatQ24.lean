/-
  A function that is tried, where it does not panic.
  Chunks are played.
-/
import Derived.Test.YtiepopbmbgfhkaaGreatQ23
import Derived.Defers
import Derived.Recover
namespace Go.Proofs.YtiepopbmbgfhkaaGreat
open Go.RowKit
set_option maxHeartbeats 2000000
set_option maxRecDepth 20000
set_option linter.unusedVariables false
set_option linter.unusedSimpArgs false

theorem idle_c (p : Addr) (w : World) :
    CallsD Tryz.prog 37 #[.pointer (some p)] .returning w fun e u' w' => e = .returned (.tuple #[]) ∧ u' = .returning ∧ w' = w := by
  have q1 : ∀ w, (binOp .neq 20 .nilIface .nilIface).run Tryz.prog w = .ok (.bool false) w := fun w => by kernel_rfl
  refine callsD_of_wpS Tryz.func37 rfl fun c₀ cs hu => ?_
  apply wpS_seq
  apply wpS_region
  simp [wpOpsS, go_sem, recoverD, hu, Tryz.ntmps37, Exit.thenS, q1]
  refine wpS_cond (t := false) (by simp [Act.eval, Array.replicate]) ?_
  simp only [Bool.false_eq_true, if_false]
  refine wpS_of_wp (wp_skip ?_)
  cases c₀
  simp_all [bodyPostS, results, Tryz.results37]

theorem tried_c {caps : Array Value} {w : World} {R : World → Prop} (h : Calls Tryz.prog 20 caps (w.alloc (.cells #[.bool false] 4)) fun e w' => e = .returned (.tuple #[]) ∧ R w') (hok : ∀ w', R w' → Blk w' w.heap.size #[.bool false] 4) :
    Calls Tryz.prog 19 #[.func (.func 20) #[] caps] w fun e w'' => e = .returned (.bool true) ∧ ∃ w', R w' ∧ w'' = w'.setCell ⟨w.heap.size, 0, none⟩ (.bool true) := by
  have hmf : ∀ (fn : Fn) (first cap : Array Value) (w : World), (Instr.makeFunc fn first cap).run Tryz.prog w = .ok (.func fn first cap) w := fun _ _ _ _ => rfl
  go_enter_defers Tryz.func19, Tryz.ntmps19
  go_wp2_with (fail)
  refine h.mono ?_
  rintro e w1 ⟨rfl, hR⟩
  have hB := hok _ hR
  obtain ⟨b0, bf⟩ := hB.c1
  have bl := hB.lt
  go_wp2_with (fail)
  refine leaves_cons (f := 37) (args := #[.pointer (some ⟨w.heap.size, 0, none⟩)]) (by simp) (by simp [go_sem]) ?_
  refine (idle_c ⟨w.heap.size, 0, none⟩ _).mono ?_
  rintro e u' w'' ⟨rfl, rfl, rfl⟩
  have hb2 := (hB.set 0 (.bool true)).c1.1
  have hres : (results Tryz.f19 #[.func (.func 20) #[] caps, undef, .pointer (some ⟨w.heap.size, 0, none⟩), .func (.func 37) #[] #[.pointer (some ⟨w.heap.size, 0, none⟩)], .func (.func 20) #[] caps, .tuple #[]]).run Tryz.prog (w1.setCell ⟨w.heap.size, 0, none⟩ (.bool true)) = .ok (.bool true) (w1.setCell ⟨w.heap.size, 0, none⟩ (.bool true)) := by
    simp [results, Tryz.results19, go_sem, hb2]
  exact ⟨_, hres, rfl, _, hR, rfl⟩
end Go.Proofs.YtiepopbmbgfhkaaGreat

namespace Go.Proofs.YtiepopbmbgfhkaaGreat
open Go.RowKit
open List renaming setIfInBounds_toArray → zq1, set_cons_zero → zq2, set_cons_succ → zq3
open Int renaming toNat_natCast → zq4, toNat_sub → zq5, toNat_zero → zq6
set_option maxHeartbeats 2000000
set_option maxRecDepth 20000
set_option linter.unusedVariables false
set_option linter.unusedSimpArgs false

/-- Chunk by chunk, till it is over. -/
def stepO (f : PS → List UInt8 → PS × Bool) (p : PS × Bool) (c : ByteArray) : PS × Bool := if p.2 then p else f p.1 c.data.toList
def play (f : PS → List UInt8 → PS × Bool) (s : PS) (cs : List ByteArray) : PS × Bool := cs.foldl (stepO f) (s, false)
theorem play_succ (f : PS → List UInt8 → PS × Bool) (s : PS) (cs : List ByteArray) (i : Nat) (hi : i < cs.length) : play f s (cs.take (i + 1)) = stepO f (play f s (cs.take i)) cs[i] := by
  unfold play
  rw [List.take_succ_eq_append_getElem hi, List.foldl_append]
  rfl
theorem stepO_over (f : PS → List UInt8 → PS × Bool) (p : PS × Bool) (hp : p.2 = true) : ∀ cs : List ByteArray, cs.foldl (stepO f) p = p
  | [] => rfl
  | c :: cs => by
    have e : stepO f p c = p := by unfold stepO; rw [hp]; rfl
    rw [List.foldl_cons, e]
    exact stepO_over f p hp cs
theorem play_over (f : PS → List UInt8 → PS × Bool) (s : PS) (cs : List ByteArray) (i : Nat) (h : (play f s (cs.take i)).2 = true) : play f s cs = play f s (cs.take i) := by
  unfold play at *
  conv => lhs; rw [← List.take_append_drop i cs, List.foldl_append]
  exact stepO_over f _ h _

/-- What a prompt has of its session. -/
structure IdS (S : Sess) (x : Nat) (I : Pid) : Prop where
  pre : I.pre = S.pre
  cols : I.cols = S.cols
  q : I.q = S.cp I.q.sb I.q.oc
  mode : I.mode = S.mode
  down : I.down = S.down
  et : I.et = S.exit
  x : I.x = x

section
variable {o : Oper} {a : Act} {w : World} {K : Act → World → Prop} {Q : Exit → Act → World → Prop}
/-- '[]byte(s)' -/
theorem wp_bytesB (x : Operand) (t : ByteArray) (ho : o.op = .convert 9 53 x) (hx : a.eval x = .string t)
    (h : ∀ B n c w1, DatB w1 (.slice (some ⟨B, 0, none⟩) n c) t.data.toList → Fr 0 [] [] w w1 → K (a.put o.dst (.slice (some ⟨B, 0, none⟩) n c)) w1) : o.wp Tryz.prog a w K Q := by
  have hr := run_bytes_of_string (P := Tryz.prog) w 9 53 5 t (by kernel_rfl) (by kernel_rfl) (by kernel_rfl)
  unfold Oper.wp execOp
  simp only [ho, hx, Sem.run_bind, hr, Result.andThen_ok, Sem.run_pure]
  refine h _ _ _ _ ⟨_, _, _, _, rfl, heap_alloc_new w.drew _, fun j b hj => ?_⟩ ((Fr.refl _ _ _ _).drew.alloc _)
  have hj' : j < t.data.size := by have := (List.getElem?_eq_some_iff.1 hj).1; simpa using this
  unfold bytesRow
  rw [Array.getElem?_append_left (by simpa using hj')]
  simp only [Array.getElem?_map]
  simp only [Array.getElem?_toList] at hj
  rw [hj]; rfl
end

section
variable {base : Nat} {w : World} {I : Pid} {D : Dyn}
theorem St.setV3 (h : St base w I D) (v : Value) : St base (w.setCell ⟨I.x, 3, none⟩ v) { I with v3 := v } D ∧ Fr base TT [] w (w.setCell ⟨I.x, 3, none⟩ v) := by
  obtain ⟨hbx, hLB, hX, hO⟩ := h.ln
  have hF : Fr base [] [I.x] w (w.setCell ⟨I.x, 3, none⟩ v) := (Fr.refl _ _ _ _).setCell (a := ⟨I.x, 3, none⟩) hbx (.inl (by simp)) _
  have t2 : ∀ (p : Nat → Prop), p 31 → ∀ y ∈ [I.x], ∃ cs t, Blk w y cs t ∧ p t := fun p hp y hy => by
    simp only [List.mem_singleton] at hy; subst hy; exact ⟨_, 31, hX, hp⟩
  have far : ∀ (y : Nat) (ds : Array Value) (ty : TypeId), Blk w y ds ty → ty ≠ 31 → y ∉ [I.x] := by
    intro y ds ty hy g1 hm
    simp only [List.mem_singleton] at hm; subst hm
    exact g1 (hy.inj hX).2
  obtain ⟨⟨csb, hb⟩, ⟨csL, hL⟩, ⟨csc, hc⟩, ⟨csr, hr⟩, ⟨csh, hh⟩, ⟨csg, hg⟩, ⟨cst, ht⟩⟩ := h.blks
  refine ⟨⟨hF.blk h.pr (.inr ⟨far _ _ _ h.pr (by decide), by simp⟩), h.bp, ⟨h.scr.rn.fr hF (by simp) (t2 _ (by decide)), h.scr.buf.frB hF (by simp) (t2 _ (by decide)), h.scr.cm.fr hF (by simp) (t2 _ (by decide))⟩,
    h.hist.fr hF (far _ _ _ hh (by decide)) (far _ _ _ hg (by decide)) (far _ _ _ ht (by decide)) (by simp) (by simp), ⟨hbx, hF.blk hLB (.inr ⟨far _ _ _ hLB (by decide), by simp⟩), hX.set 3 v, hO.fr hF (fun g hg hm => ?_) (by simp)⟩, h.exi.fr hF (by simp) (t2 _ (by decide)), h.a1, h.a2, h.a3⟩,
    hF.types (by simp) (fun y hy => .inr (t2 (· ∈ TT) (by simp [TT]) y hy))⟩
  obtain ⟨-, ds, e1⟩ := row_blk hO g hg
  exact far g ds 9 e1 (by decide) hm
end

theorem bytes_v {base : Nat} {w : World} {r o n : Nat} {pre : ByteArray} {cols : Nat} {p : Option Addr} {k c : Nat} (h : Rn base w r o pre cols n) (hv : Blk w o #[.slice p k c] 143) : Calls Tryz.prog 50 #[.pointer (some ⟨r, 0, none⟩)] w fun e w' => e = .returned (.slice p k c) ∧ w = w' := by
  obtain ⟨pc, hpc, ⟨c0, c1, c2, c3, c5, c6, c7, f7, hlt⟩, hB, hbr⟩ := h.ren
  have v0 := hv.cell 0
  have ta : ∀ (a : Addr) (w : World), (Instr.typeAssert (.iface 144 (.pointer (some a))) 123 144 false).run Tryz.prog w = .ok (.pointer (some a)) w := fun a w => by kernel_rfl
  go_enter Tryz.func50, Tryz.ntmps50
  go_wp2
  go_ret
  exact ⟨rfl, rfl⟩
theorem written_v {base : Nat} {w : World} {I : Pid} {D : Dyn} {p : Option Addr} {k c : Nat} (h : St base w I D) (hv : Blk w I.o #[.slice p k c] 143) : Calls Tryz.prog 24 #[.pointer (some ⟨I.p, 0, none⟩)] w fun e w' => e = .returned (.slice p k c) ∧ w = w' := by
  obtain ⟨c0, c1, c2, c3, c4, c5, c6, c7, c8, c9, f0, hlt⟩ := prC h.pr
  go_enter Tryz.func24, Tryz.ntmps24
  go_wp2_with (fail)
  refine (bytes_v h.scr.rn hv).mono ?_
  rintro e w4 ⟨rfl, rfl⟩
  go_wp2
  go_ret
  exact ⟨rfl, rfl⟩
theorem ex_stringRow {base : Nat} {o : Oper} {a : Act} {w : World} {x : Operand} {u : Value} {l : List UInt8} (ho : o.op = .convert 53 9 x) (hx : a.eval x = u) (hd : Bys base w u l) :
    (execOp a.eval o).run Tryz.prog w = .ok (.value (.string ⟨l.toArray⟩)) w := by
  have hr := run_string_row hd
  unfold execOp
  simp only [ho, hx, Sem.run_bind, hr, Result.andThen_ok, Sem.run_pure]

theorem St.setV3' {base : Nat} {w : World} {I : Pid} {D : Dyn} {x : Nat} (h : St base w I D) (hx : I.x = x) (v : Value) : St base (w.setCell ⟨x, 3, none⟩ v) { I with v3 := v } D ∧ Fr base TT [] w (w.setCell ⟨x, 3, none⟩ v) := by
  subst hx; exact h.setV3 v
theorem le_play {a b : Nat} (i : Nat) (h1 : a ≤ b + 210000) (h2 : b ≤ 200000 + 210000 * i) : a ≤ 200000 + 210000 * (i + 1) := by
  rw [Nat.mul_add, Nat.mul_one, ← Nat.add_assoc]
  exact Nat.le_trans h1 (Nat.add_le_add_right h2 _)

theorem TxIn.lowN {w w1 : World} {v : Value} {ys : List ByteArray} {N : Nat} {ts bs : List Nat} (h : TxIn w v ys) (hF : Fr N ts bs w w1) (hb : ∀ A n c, v = .slice (some A) n c → A.block < N) : TxIn w1 v ys := by
  rcases h with h | ⟨b, o, c, h1, h2⟩
  · exact .inl h
  · exact .inr ⟨b, o, c, h1, fun j hj => hF.cellB (h2 j hj) (by show b < N; exact hb _ _ _ h1)⟩

/-- What the play leaves. -/
def PlayPost (A N x B : Nat) (s : PS) (over : Bool) (w : World) (e : Ending) (w' : World) : Prop :=
  e = .returned (.tuple #[]) ∧ (∃ vl bs, Blk w' x #[vl, .string s.t, .int .i64 s.k, .bool over] 31 ∧ OS N w' vl s.lines ∧ Blk w' B #[.string bs] 9) ∧ Fr A TT [] w w'

theorem play_c {N : Nat} {w : World} {S : Sess} {ov hv chv : Value} {A x C B : Nat} {chunks : List ByteArray} {t0 : ByteArray} {f : PS → List UInt8 → PS × Bool} {s0 : PS}
    (hS : SessOk S) (hN1 : 1 < N) (hNx : N ≤ x) (hA : A < N) (hC : C < N) (hB : B < N) (hAB : A ≤ B) (ht : Tab w) (hO : PkIn w ov S.offs) (hH : TxIn w hv S.hist)
    (hSB : Blk w A (S.cells ov hv) 25) (hX : Blk w x #[.slice none 0 0, .string .empty, .int .i64 0, .bool false] 31) (hCB : Blk w C #[chv] 23) (hBB : Blk w B #[.string t0] 9)
    (hCh : TxIn w chv chunks) (hChN : ∀ A n c, chv = .slice (some A) n c → A.block < N) (hlen : chunks.length ≤ 100)
    (hShow : ∀ I w D, IdS S x I → St N w I D → D.ps = S.ps → D.n = 0 → Calls Tryz.prog 22 #[.pointer (some ⟨I.p, 0, none⟩)] w (ShowPost N I D s0 w))
    (hFed : ∀ (i : Nat) (hi : i < chunks.length) I w D u, IdS S x I → St N w I D → D.ps = (play f s0 (chunks.take i)).1 → (play f s0 (chunks.take i)).2 = false → DatB w u chunks[i].data.toList → D.n ≤ 200000 + 210000 * i →
      Calls Tryz.prog 23 #[.pointer (some ⟨I.p, 0, none⟩), u] w (FedPost N I D (f (play f s0 (chunks.take i)).1 chunks[i].data.toList).1 (f (play f s0 (chunks.take i)).1 chunks[i].data.toList).2 w)) :
    Calls Tryz.prog 20 #[.pointer (some ⟨A, 0, none⟩), .pointer (some ⟨x, 0, none⟩), .pointer (some ⟨C, 0, none⟩), .pointer (some ⟨B, 0, none⟩)] w (PlayPost A N x B (play f s0 chunks).1 (play f s0 chunks).2 w) := by
  obtain ⟨oA, oc, rfl⟩ := hO.form
  obtain ⟨hA', hcc, rfl⟩ := hH.form
  obtain ⟨cA, cc, rfl⟩ := hCh.form
  have a0 := hSB.cell 0
  have a1 := hSB.cell 1
  have a2 := hSB.cell 2
  have a3 := hSB.cell 3
  have a4 := hSB.cell 4
  have a5 := hSB.cell 5
  have a6 := hSB.cell 6
  have a7 := hSB.cell 7
  have a8 := hSB.cell 8
  have a9 := hSB.cell 9
  have a10 := hSB.cell 10
  have al := hSB.lt
  simp only [Sess.cells] at a0 a1 a2 a3 a4 a5 a6 a7 a8 a9 a10
  simp only [List.getElem?_toArray, List.getElem?_cons_zero, List.getElem?_cons_succ] at a0 a1 a2 a3 a4 a5 a6 a7 a8 a9 a10
  go_enter Tryz.func20, Tryz.ntmps20
  go_wp2_with (fail)
  refine (begun_c hS hN1 hNx ht hO hH hX).mono ?_
  rintro e w1 ⟨I, D, rfl, h1, hps, hn, i1, i2, i3, i4, i5, i6, i7, i8, i9, i10, hF1⟩
  have hId : IdS S x I := ⟨i1, i2, i3, i4, i5, i6, i7⟩
  have HI := Lib.hid (And.intro i8 (And.intro i9 i10))
  have hsh := hShow I w1 D hId h1 hps hn
  clear a0 a1 a2 a3 a4 a5 a6 a7 a8 a9 a10 al i1 i2 i3 i4 i5 i6 i8 i9 i10 hps
  go_wp2_with (fail)
  refine hsh.mono ?_
  rintro e w2 ⟨D2, rfl, h2, hps2, hn2, hF2⟩
  clear hsh hShow
  have hF02 := hF1.trans hF2
  have hn2' : D2.n ≤ 200000 := by omega
  have HX := Lib.hid i7
  clear hn hn2 i7
  go_wp2_with (fail)
  have hSt0 : St N w2 { I with v3 := .bool false } D2 := by have := h2; have e := HI.out.2.2; rw [← e]; exact h2
  have hP0 : D2.ps = (play f s0 (chunks.take 0)).1 := hps2
  clear hps2
  go_loopw [5] (fun v5 w' => ∃ i : Nat, i ≤ chunks.length ∧ v5 = .int .i64 i ∧ Fr N TT [] w w' ∧ ∃ D', St N w' { I with v3 := .bool (play f s0 (chunks.take i)).2 } D' ∧ D'.ps = (play f s0 (chunks.take i)).1 ∧ D'.n ≤ 200000 + 210000 * i) (fun v5 _ => chunks.length - (intOf v5).toNat)
  case atStart => exact ⟨0, by omega, rfl, hF02, D2, hSt0, hP0, by omega⟩
  case round =>
    clear hSt0 hP0 h2 h1 hn2' hF02
    obtain ⟨i, hi, rfl, hF, D', h', hps', hn'⟩ := hrel
    have hHPS := Lib.hid hps'
    clear hps'
    have hx3 := h'.ln.2.2.1
    have hxe : ({ I with v3 := .bool (play f s0 (chunks.take i)).2 } : Pid).x = x := HX.out
    rw [hxe] at hx3
    obtain ⟨ov, hov⟩ : ∃ ov, (play f s0 (chunks.take i)).2 = ov := ⟨_, rfl⟩
    have x3 : wr.cell? ⟨x, 3, none⟩ = some (.bool ov) := by rw [← hov]; exact hx3.cell 3
    have x3f := hx3.frozen 3
    have xl := hx3.lt
    have hcb := hF.blk hCB (.inl hC)
    have c0 := hcb.cell 0
    have cl := hcb.lt
    have HOV := Lib.hid hov
    clear hov
    by_cases hlt : i < chunks.length
    · have d1 : decide ((i : Int) < chunks.length) = true := by simpa using hlt
      have d2 : (i : Int) < chunks.length := by omega
      cases ov with
      | false =>
        have hq : ∃ b o, cA = some ⟨b, o, none⟩ ∧ wr.cell? ⟨b, o + i, none⟩ = some (.string chunks[i]) := by
          rcases hCh.lowN hF hChN with ⟨e, -⟩ | ⟨b, o, c, e, hc⟩
          · rw [e] at hlt; simp at hlt
          · simp only [Value.slice.injEq] at e
            exact ⟨b, o, e.1, hc i hlt⟩
        obtain ⟨cb, co, rfl, hcell⟩ := hq
        have hId2 : IdS S x { I with v3 := .bool (play f s0 (chunks.take i)).2 } := ⟨hId.pre, hId.cols, hId.q, hId.mode, hId.down, hId.et, hId.x⟩
        go_wp2_with (first | (refine wpList_plain rfl (fun K hK => ?_); refine wp_bytesB _ chunks[i] rfl rfl ?_; intro uB un uc wb hDb hFb; refine hK _ _ ?_; clear hK K))
        refine (hFed i hlt _ wb D' _ hId2 (h'.fr0 hFb) hHPS.out HOV.out hDb hn').mono ?_
        rintro e w5 ⟨D5, rfl, h5, hps5, hn5, hF5⟩
        have hx5 := h5.ln.2.2.1
        rw [hxe] at hx5
        have y3 : w5.cell? ⟨x, 3, none⟩ = some (.bool (play f s0 (chunks.take i)).2) := hx5.cell 3
        have y3f := hx5.frozen 3
        have yl := hx5.lt
        have hHP5 := Lib.hid hps5
        clear hps5
        go_wp2_with (fail)
        go_roundw
        case rel =>
          have hst := h5.setV3' (x := x) hxe (.bool (f (play f s0 (chunks.take i)).1 chunks[i].data.toList).2)
          have hpl : play f s0 (chunks.take (i + 1)) = f (play f s0 (chunks.take i)).1 chunks[i].data.toList := by
            rw [play_succ f s0 chunks i hlt]; unfold stepO; rw [HOV.out]; rfl
          refine ⟨i + 1, by omega, by simp, ((hF.trans hFb.any).trans hF5).trans hst.2, D5, ?_, ?_, ?_⟩
          · rw [hpl]; exact hst.1
          · rw [hpl]; exact hHP5.out
          · exact le_play i hn5 hn'
        case measure => simp [intOf]; omega
      | true =>
        have hPF : play f s0 chunks = play f s0 (chunks.take i) := play_over f s0 chunks i HOV.out
        rw [hPF]
        obtain ⟨-, -, -, v, l, hWB, hWL, -⟩ := h'.scr.rn.wr
        obtain ⟨vp, vk, vc, rfl⟩ := hWL.form
        have hbb := hF.blk hBB (.inl hB)
        have b0 := hbb.cell 0
        have bf := hbb.frozen 0
        have bl := hbb.lt
        have hxB : x ≠ B := by omega
        have hBx : B ≠ x := by omega
        have x1 : wr.cell? ⟨x, 1, none⟩ = some I.v1 := hx3.cell 1
        have x2 : wr.cell? ⟨x, 2, none⟩ = some I.v2 := hx3.cell 2
        have x1f := hx3.frozen 1
        have x2f := hx3.frozen 2
        go_wp2_with (fail)
        have hS : (fun w' : World => Bys N w' (.slice vp vk vc) l) wr.drew := hWL.drew
        refine wp_region_plan [2] [1, 4, 6, 7, 9, 11] (fun w' : World => Bys N w' (.slice vp vk vc) l) (.pure 0 (.pure 3 (.pure 5 (.go 1 (.take 2 (.go 4 (.go 6 (.go 7 (.pure 8 (.go 9 (.pure 10 (.go 11 .done)))))))))))) hmix (by kernel_rfl) ?_
        repeat (first | (refine plan_move rfl rfl rfl ?_; (try simp only [Act.put, zq1, zq2, zq3, zq4, zq5, zq6])) | (refine plan_take rfl hS rfl (fun w' hSw => ex_stringRow rfl rfl hSw) ?_; (try simp only [Act.put, zq1, zq2, zq3, zq4, zq5, zq6])))
        refine plan_goS rfl rfl (fun K hK => ?_)
        go_simp; refine (written_v h'.drew hWB.drew).mono ?_; rintro e w7 ⟨rfl, rfl⟩; refine hK _ _ hS ?_; clear hK K; (try simp only [Act.put, zq1, zq2, zq3, zq4, zq5, zq6])
        first | (refine plan_take rfl hS rfl (fun w' hSw => ex_stringRow rfl rfl hSw) ?_; (try simp only [Act.put, zq1, zq2, zq3, zq4, zq5, zq6])) | (refine plan_take (v := ?_) rfl hS rfl ?_ ?_; rotate_left; (intro w' hSw; (try dsimp only at hSw); go_simp <;> with_reducible rfl); (try simp only [Act.put, zq1, zq2, zq3, zq4, zq5, zq6]))
        refine plan_goS rfl rfl (fun K hK => ?_)
        go_simp; refine (pText_c h'.drew).mono ?_; rintro e w8 ⟨rfl, j8, rfl⟩; refine hK _ _ hS ?_; clear hK K; (try simp only [Act.put, zq1, zq2, zq3, zq4, zq5, zq6])
        refine plan_goS rfl rfl (fun K hK => ?_)
        go_simp; refine (pAt_c (h'.drewN (1 + j8))).mono ?_; rintro e w9 ⟨rfl, rfl⟩; refine hK _ _ hS ?_; clear hK K; (try simp only [Act.put, zq1, zq2, zq3, zq4, zq5, zq6])
        refine plan_go rfl (by kernel_rfl) rfl (fun K hK => ?_)
        go_simp; refine hK _ _ ?_; clear hK K; (try simp only [Act.put, zq1, zq2, zq3, zq4, zq5, zq6])
        first | (refine plan_take rfl hS rfl (fun w' hSw => ex_stringRow rfl rfl hSw) ?_; (try simp only [Act.put, zq1, zq2, zq3, zq4, zq5, zq6])) | (refine plan_pure (v := ?_) rfl rfl ?_ ?_; rotate_left; (intro w'; go_simp <;> with_reducible rfl); (try simp only [Act.put, zq1, zq2, zq3, zq4, zq5, zq6]))
        refine plan_go rfl (by kernel_rfl) rfl (fun K hK => ?_)
        go_simp; refine hK _ _ ?_; clear hK K; (try simp only [Act.put, zq1, zq2, zq3, zq4, zq5, zq6])
        first | (refine plan_take rfl hS rfl (fun w' hSw => ex_stringRow rfl rfl hSw) ?_; (try simp only [Act.put, zq1, zq2, zq3, zq4, zq5, zq6])) | (refine plan_pure (v := ?_) rfl rfl ?_ ?_; rotate_left; (intro w'; go_simp <;> with_reducible rfl); (try simp only [Act.put, zq1, zq2, zq3, zq4, zq5, zq6]))
        refine plan_go rfl (by kernel_rfl) rfl (fun K hK => ?_)
        go_simp; refine hK _ _ ?_; clear hK K; (try simp only [Act.put, zq1, zq2, zq3, zq4, zq5, zq6])
        refine plan_done ?_
        go_wp2
        go_end0
        have G1 := hbb.set 0 (.string ⟨l.toArray⟩)
        have G2 := hx3.other (a := ⟨B, 0, none⟩) hxB (.string ⟨l.toArray⟩)
        have G3 := G2.set 1 (.string D'.t)
        have G4 := G3.set 2 (.int .i64 D'.k)
        have G5 := (G1.other (a := ⟨x, 1, none⟩) hBx (.string D'.t)).other (a := ⟨x, 2, none⟩) hBx (.int .i64 D'.k)
        have hO := h'.ln.2.2.2
        have E1 : Fr A [] [B] wr (wr.setCell ⟨B, 0, none⟩ (.string ⟨l.toArray⟩)) := (Fr.refl A [] [B] wr).setCell (a := ⟨B, 0, none⟩) hAB (.inl (by simp)) _
        have E2 : Fr A [] [x] (wr.setCell ⟨B, 0, none⟩ (.string ⟨l.toArray⟩)) (((wr.setCell ⟨B, 0, none⟩ (.string ⟨l.toArray⟩)).setCell ⟨x, 1, none⟩ (.string D'.t)).setCell ⟨x, 2, none⟩ (.int .i64 D'.k)) := ((Fr.refl A [] [x] _).setCell (a := ⟨x, 1, none⟩) (by show A ≤ x; omega) (.inl (by simp)) _).setCell (a := ⟨x, 2, none⟩) (by show A ≤ x; omega) (.inl (by simp)) _
        have hO1 := hO.fr E1 (fun g hg hm => by simp only [List.mem_singleton] at hm; have := (row_blk hO g hg).1; omega) (by simp)
        have hO2 := hO1.fr E2 (fun g hg hm => by
          simp only [List.mem_singleton] at hm
          obtain ⟨-, ds, e1⟩ := row_blk hO1 g hg
          subst hm
          exact absurd (e1.inj G2).2 (by decide)) (by simp)
        rw [← hHPS.out]
        refine ⟨rfl, ⟨D'.vl, ⟨l.toArray⟩, ?_, hO2, G5⟩, ?_⟩
        · have := G4
          rw [HOV.out] at this
          rw [HOV.out]
          exact this
        · exact (((hF.base_mono (by omega)).trans (E1.types (by simp) (fun y hy => .inr (by simp only [List.mem_singleton] at hy; subst hy; exact ⟨_, _, hbb, by simp [TT]⟩)))).trans (E2.types (by simp) (fun y hy => .inr (by simp only [List.mem_singleton] at hy; subst hy; exact ⟨_, _, G2, by simp [TT]⟩)))).drewN _
    · have d1 : decide ((i : Int) < chunks.length) = false := by simpa using hlt
      have d2 : ¬ (i : Int) < chunks.length := by omega
      have hie : i = chunks.length := by omega
      have HIE := Lib.hid hie
      clear hie
      have hPF : play f s0 chunks = play f s0 (chunks.take i) := by rw [HIE.out, List.take_length]
      rw [hPF]
      obtain ⟨-, -, -, v, l, hWB, hWL, -⟩ := h'.scr.rn.wr
      obtain ⟨vp, vk, vc, rfl⟩ := hWL.form
      have hbb := hF.blk hBB (.inl hB)
      have b0 := hbb.cell 0
      have bf := hbb.frozen 0
      have bl := hbb.lt
      have hxB : x ≠ B := by omega
      have hBx : B ≠ x := by omega
      have x1 : wr.cell? ⟨x, 1, none⟩ = some I.v1 := hx3.cell 1
      have x2 : wr.cell? ⟨x, 2, none⟩ = some I.v2 := hx3.cell 2
      have x1f := hx3.frozen 1
      have x2f := hx3.frozen 2
      go_wp2_with (fail)
      have hS : (fun w' : World => Bys N w' (.slice vp vk vc) l) wr.drew := hWL.drew
      refine wp_region_plan [2] [1, 4, 6, 7, 9, 11] (fun w' : World => Bys N w' (.slice vp vk vc) l) (.pure 0 (.pure 3 (.pure 5 (.go 1 (.take 2 (.go 4 (.go 6 (.go 7 (.pure 8 (.go 9 (.pure 10 (.go 11 .done)))))))))))) hmix (by kernel_rfl) ?_
      repeat (first | (refine plan_move rfl rfl rfl ?_; (try simp only [Act.put, zq1, zq2, zq3, zq4, zq5, zq6])) | (refine plan_take rfl hS rfl (fun w' hSw => ex_stringRow rfl rfl hSw) ?_; (try simp only [Act.put, zq1, zq2, zq3, zq4, zq5, zq6])))
      refine plan_goS rfl rfl (fun K hK => ?_)
      go_simp; refine (written_v h'.drew hWB.drew).mono ?_; rintro e w7 ⟨rfl, rfl⟩; refine hK _ _ hS ?_; clear hK K; (try simp only [Act.put, zq1, zq2, zq3, zq4, zq5, zq6])
      first | (refine plan_take rfl hS rfl (fun w' hSw => ex_stringRow rfl rfl hSw) ?_; (try simp only [Act.put, zq1, zq2, zq3, zq4, zq5, zq6])) | (refine plan_take (v := ?_) rfl hS rfl ?_ ?_; rotate_left; (intro w' hSw; (try dsimp only at hSw); go_simp <;> with_reducible rfl); (try simp only [Act.put, zq1, zq2, zq3, zq4, zq5, zq6]))
      refine plan_goS rfl rfl (fun K hK => ?_)
      go_simp; refine (pText_c h'.drew).mono ?_; rintro e w8 ⟨rfl, j8, rfl⟩; refine hK _ _ hS ?_; clear hK K; (try simp only [Act.put, zq1, zq2, zq3, zq4, zq5, zq6])
      refine plan_goS rfl rfl (fun K hK => ?_)
      go_simp; refine (pAt_c (h'.drewN (1 + j8))).mono ?_; rintro e w9 ⟨rfl, rfl⟩; refine hK _ _ hS ?_; clear hK K; (try simp only [Act.put, zq1, zq2, zq3, zq4, zq5, zq6])
      refine plan_go rfl (by kernel_rfl) rfl (fun K hK => ?_)
      go_simp; refine hK _ _ ?_; clear hK K; (try simp only [Act.put, zq1, zq2, zq3, zq4, zq5, zq6])
      first | (refine plan_take rfl hS rfl (fun w' hSw => ex_stringRow rfl rfl hSw) ?_; (try simp only [Act.put, zq1, zq2, zq3, zq4, zq5, zq6])) | (refine plan_pure (v := ?_) rfl rfl ?_ ?_; rotate_left; (intro w'; go_simp <;> with_reducible rfl); (try simp only [Act.put, zq1, zq2, zq3, zq4, zq5, zq6]))
      refine plan_go rfl (by kernel_rfl) rfl (fun K hK => ?_)
      go_simp; refine hK _ _ ?_; clear hK K; (try simp only [Act.put, zq1, zq2, zq3, zq4, zq5, zq6])
      first | (refine plan_take rfl hS rfl (fun w' hSw => ex_stringRow rfl rfl hSw) ?_; (try simp only [Act.put, zq1, zq2, zq3, zq4, zq5, zq6])) | (refine plan_pure (v := ?_) rfl rfl ?_ ?_; rotate_left; (intro w'; go_simp <;> with_reducible rfl); (try simp only [Act.put, zq1, zq2, zq3, zq4, zq5, zq6]))
      refine plan_go rfl (by kernel_rfl) rfl (fun K hK => ?_)
      go_simp; refine hK _ _ ?_; clear hK K; (try simp only [Act.put, zq1, zq2, zq3, zq4, zq5, zq6])
      refine plan_done ?_
      go_wp2
      go_end0
      have G1 := hbb.set 0 (.string ⟨l.toArray⟩)
      have G2 := hx3.other (a := ⟨B, 0, none⟩) hxB (.string ⟨l.toArray⟩)
      have G3 := G2.set 1 (.string D'.t)
      have G4 := G3.set 2 (.int .i64 D'.k)
      have G5 := (G1.other (a := ⟨x, 1, none⟩) hBx (.string D'.t)).other (a := ⟨x, 2, none⟩) hBx (.int .i64 D'.k)
      have hO := h'.ln.2.2.2
      have E1 : Fr A [] [B] wr (wr.setCell ⟨B, 0, none⟩ (.string ⟨l.toArray⟩)) := (Fr.refl A [] [B] wr).setCell (a := ⟨B, 0, none⟩) hAB (.inl (by simp)) _
      have E2 : Fr A [] [x] (wr.setCell ⟨B, 0, none⟩ (.string ⟨l.toArray⟩)) (((wr.setCell ⟨B, 0, none⟩ (.string ⟨l.toArray⟩)).setCell ⟨x, 1, none⟩ (.string D'.t)).setCell ⟨x, 2, none⟩ (.int .i64 D'.k)) := ((Fr.refl A [] [x] _).setCell (a := ⟨x, 1, none⟩) (by show A ≤ x; omega) (.inl (by simp)) _).setCell (a := ⟨x, 2, none⟩) (by show A ≤ x; omega) (.inl (by simp)) _
      have hO1 := hO.fr E1 (fun g hg hm => by simp only [List.mem_singleton] at hm; have := (row_blk hO g hg).1; omega) (by simp)
      have hO2 := hO1.fr E2 (fun g hg hm => by
        simp only [List.mem_singleton] at hm
        obtain ⟨-, ds, e1⟩ := row_blk hO1 g hg
        subst hm
        exact absurd (e1.inj G2).2 (by decide)) (by simp)
      rw [← hHPS.out]
      refine ⟨rfl, ⟨D'.vl, ⟨l.toArray⟩, ?_, hO2, G5⟩, ?_⟩
      · have := G4
        rw [HOV.out] at this
        rw [HOV.out]
        exact this
      · exact (((hF.base_mono (by omega)).trans (E1.types (by simp) (fun y hy => .inr (by simp only [List.mem_singleton] at hy; subst hy; exact ⟨_, _, hbb, by simp [TT]⟩)))).trans (E2.types (by simp) (fun y hy => .inr (by simp only [List.mem_singleton] at hy; subst hy; exact ⟨_, _, G2, by simp [TT]⟩)))).drewN _
end Go.Proofs.YtiepopbmbgfhkaaGreat
