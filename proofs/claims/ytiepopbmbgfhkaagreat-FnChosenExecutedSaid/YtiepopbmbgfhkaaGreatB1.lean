/-
  The renderer: its fields; moves.
-/
import Derived.Test.YtiepopbmbgfhkaaGreatA10
import Derived.Laws.EntriesVeiled
import Derived.Laws.Tables
namespace Go.Proofs.YtiepopbmbgfhkaaGreat
open Go.RowKit
set_option maxHeartbeats 1000000
set_option maxRecDepth 20000
set_option linter.unusedVariables false
set_option linter.unusedSimpArgs false

/-- The fields of a renderer. -/
def renCells (o : Nat) (pre : ByteArray) (cols : Nat) (pc : Int) : Array Value :=
  #[.iface 144 (.pointer (some ⟨o, 0, none⟩)), .string pre, .func (.func 107) #[] #[], .nilFunc, .string .empty, .int .u16 1000, .int .u16 cols, .int .i64 pc,
    .int .i64 13, .int .i64 0, .int .i64 0, .int .i64 0, .int .i64 11, .int .i64 0, .int .i64 16, .int .i64 7, .int .i64 1, .int .i64 15, .int .i64 1, .int .i64 15, .int .i64 16, .int .i64 7, .int .i64 9, .int .i64 7]

/-- The renderer at r, with the writer at o. -/
def Rn (base : Nat) (w : World) (r o : Nat) (pre : ByteArray) (cols n : Nat) : Prop :=
  base ≤ r ∧ (∃ pc : Int, 0 ≤ pc ∧ pc ≤ 1400 ∧ Blk w r (renCells o pre cols pc) 128) ∧ Wr base w o n

theorem wpList_build' {P : Program} {ops : Array Oper} {rest : List Oper} {o : Oper} {a : Act} {w : World} {Q : Exit → Act → World → Prop} (cells : Array Value) (hg : o.guard = none) (t : TypeId) (parts : Array (Nat × Operand)) (ho : o.op = .build t parts)
    (hc : P.built t (parts.map fun (i, x) => (i, a.eval x)).toList = some cells) (h : wpList P ops Q rest (a.put o.dst (.agg cells)) w) : wpList P ops Q (o :: rest) a w :=
  wpList_build hg t parts ho (by rw [hc]; rfl) (by rw [hc]; exact h)

theorem newRender_c (w : World) (hb : 1 < w.heap.size) (ht : Tab w) (pre : ByteArray) (c : Nat) : Calls Tryz.prog 67 #[.string pre, .int .u16 c, .int .u16 1000] w fun e w' =>
    ∃ r o, e = .returned (.pointer (some ⟨r, 0, none⟩)) ∧ Rn w.heap.size w' r o pre c 0 ∧ Fr w.heap.size [] [] w w' := by
  go_enter Tryz.func67, Tryz.ntmps67
  go_wp2_with (first | (refine wpList_build' (renCells w.heap.size pre c 0) rfl 128 _ rfl (by kernel_rfl) ?_))
  go_ret
  refine ⟨_, _, rfl, ⟨by omega, ⟨0, by omega, by omega, Blk.new' (by simp) _ _⟩, ?_⟩, ((Fr.refl _ _ _ _).alloc _).alloc _⟩
  have h1 : Wr w.heap.size (w.alloc (.cells #[.slice none 0 0] 143)) w.heap.size 0 := ⟨hb, Nat.le_refl _, ((Fr.refl 0 [] [] w).alloc _).tab0 ht, _, [], Blk.new w _ _, Bys.nil _ _, by simp⟩
  exact h1.alloc _

/-- The cells of a renderer that its functions look at. -/
structure RnC (w : World) (r o : Nat) (pre : ByteArray) (cols : Nat) (pc : Int) : Prop where
  c0 : w.cell? ⟨r, 0, none⟩ = some (.iface 144 (.pointer (some ⟨o, 0, none⟩)))
  c1 : w.cell? ⟨r, 1, none⟩ = some (.string pre)
  c2 : w.cell? ⟨r, 2, none⟩ = some (.func (.func 107) #[] #[])
  c3 : w.cell? ⟨r, 3, none⟩ = some .nilFunc
  c5 : w.cell? ⟨r, 5, none⟩ = some (.int .u16 1000)
  c6 : w.cell? ⟨r, 6, none⟩ = some (.int .u16 cols)
  c7 : w.cell? ⟨r, 7, none⟩ = some (.int .i64 pc)
  f7 : w.frozen? ⟨r, 7, none⟩ = false
  lt : r < w.heap.size
theorem rnC {w : World} {r o : Nat} {pre : ByteArray} {cols : Nat} {pc : Int} (h : Blk w r (renCells o pre cols pc) 128) : RnC w r o pre cols pc :=
  ⟨h.cell 0, h.cell 1, h.cell 2, h.cell 3, h.cell 5, h.cell 6, h.cell 7, h.frozen 7, h.lt⟩

theorem Rn.ren {base : Nat} {w : World} {r o n : Nat} {pre : ByteArray} {cols : Nat} (h : Rn base w r o pre cols n) : ∃ pc : Nat, pc ≤ 1400 ∧ RnC w r o pre cols pc ∧ Blk w r (renCells o pre cols pc) 128 ∧ base ≤ r := by
  obtain ⟨h1, ⟨pc, h2, h3, hB⟩, hW⟩ := h
  obtain ⟨k, rfl⟩ : ∃ k : Nat, pc = k := ⟨pc.toNat, by omega⟩
  exact ⟨k, by omega, rnC hB, hB, h1⟩
theorem Rn.wr {base : Nat} {w : World} {r o n : Nat} {pre : ByteArray} {cols : Nat} (h : Rn base w r o pre cols n) : Wr base w o n := h.2.2
theorem Rn.after {base : Nat} {w w1 : World} {r o n m : Nat} {pre : ByteArray} {cols : Nat} (h : Rn base w r o pre cols n) (hF : Fr base [5, 143] [] w w1) (hW : Wr base w1 o m) : Rn base w1 r o pre cols m := by
  obtain ⟨h1, ⟨pc, h2, h3, hB⟩, -⟩ := h
  exact ⟨h1, ⟨pc, h2, h3, hF.blk hB (.inr ⟨by simp, by simp⟩)⟩, hW⟩
theorem Fr.rn0 {base base' : Nat} {w w1 : World} {r o n : Nat} {pre : ByteArray} {cols : Nat} (hF : Fr base' [] [] w w1) (h : Rn base w r o pre cols n) : Rn base w1 r o pre cols n := by
  obtain ⟨h1, ⟨pc, h2, h3, hB⟩, hW⟩ := h
  exact ⟨h1, ⟨pc, h2, h3, hF.blk0 hB⟩, hF.wr0 hW⟩
theorem Rn.drewN {base : Nat} {w : World} {r o n : Nat} {pre : ByteArray} {cols : Nat} (h : Rn base w r o pre cols n) (k : Nat) : Rn base (w.drewN k) r o pre cols n := h
theorem Rn.drew {base : Nat} {w : World} {r o n : Nat} {pre : ByteArray} {cols : Nat} (h : Rn base w r o pre cols n) : Rn base w.drew r o pre cols n := h

theorem toPos_c {base : Nat} {w : World} {r o n : Nat} {pre : ByteArray} {cols : Nat} (h : Rn base w r o pre cols n) (hc : 13 ≤ cols) (hc2 : cols ≤ 120) (cur : Nat) (hcur : cur ≤ 1400) :
    Calls Tryz.prog 76 #[.pointer (some ⟨r, 0, none⟩), .int .i64 cur] w fun e w' => ∃ x y : Nat, e = .returned (.tuple #[.int .i64 x, .int .i64 y]) ∧ x < cols ∧ x ≤ cur ∧ y ≤ 110 ∧ Fr 0 [] [] w w' := by
  obtain ⟨pc, hpc, ⟨c0, c1, c2, c3, c5, c6, c7, f7, hlt⟩, hB, hbr⟩ := h.ren
  have hw : IntKind.i64.wrap (cols : Int) = cols := wrap_in (by omega) (by omega)
  obtain ⟨e1, e2⟩ := int_ne (a := (cols : Int)) (b := 0) (by omega)
  have e3 : ¬ cols = 0 := by omega
  have hy : cur / cols ≤ 110 := by
    calc cur / cols ≤ cur / 13 := Nat.div_le_div_left hc (by omega)
      _ ≤ 110 := by omega
  have hq : wrap64 ((cur : Int) / cols) = (cur / cols : Nat) := by
    rw [← Int.natCast_ediv]
    obtain ⟨z, hz⟩ : ∃ z, cur / cols = z := ⟨_, rfl⟩
    rw [hz] at hy ⊢
    unfold wrap64; omega
  have hx1 : cur % cols < cols := Nat.mod_lt _ (by omega)
  have hx2 : cur % cols ≤ cur := Nat.mod_le _ _
  have hr : (cur : Int) % cols = (cur % cols : Nat) := (Int.natCast_emod _ _).symm
  go_enter Tryz.func76, Tryz.ntmps76
  go_wp2_with (fail)
  go_quiet (fail)
  go_wp2
  go_ret2
  refine ⟨cur % cols, cur / cols, ?_, hx1, hx2, hy, (Fr.refl _ _ _ _).drewN _⟩
  simp only [← hr, ← hq]
  rfl

theorem md_CursorUp (a : Addr) (w : World) : (method 361 144 (.pointer (some a)) "CursorUp").run Tryz.prog w = .ok (238, .pointer (some a)) w := by kernel_rfl
theorem na_CursorUp (a : Addr) (w : World) : (nilAhead 361 144 (.pointer (some a)) "CursorUp").run Tryz.prog w = .ok (some false) w := by kernel_rfl
theorem md_CursorDown (a : Addr) (w : World) : (method 361 144 (.pointer (some a)) "CursorDown").run Tryz.prog w = .ok (235, .pointer (some a)) w := by kernel_rfl
theorem na_CursorDown (a : Addr) (w : World) : (nilAhead 361 144 (.pointer (some a)) "CursorDown").run Tryz.prog w = .ok (some false) w := by kernel_rfl
theorem md_CursorForward (a : Addr) (w : World) : (method 361 144 (.pointer (some a)) "CursorForward").run Tryz.prog w = .ok (236, .pointer (some a)) w := by kernel_rfl
theorem na_CursorForward (a : Addr) (w : World) : (nilAhead 361 144 (.pointer (some a)) "CursorForward").run Tryz.prog w = .ok (some false) w := by kernel_rfl
theorem md_CursorBackward (a : Addr) (w : World) : (method 361 144 (.pointer (some a)) "CursorBackward").run Tryz.prog w = .ok (234, .pointer (some a)) w := by kernel_rfl
theorem na_CursorBackward (a : Addr) (w : World) : (nilAhead 361 144 (.pointer (some a)) "CursorBackward").run Tryz.prog w = .ok (some false) w := by kernel_rfl
theorem md_EraseDown (a : Addr) (w : World) : (method 361 144 (.pointer (some a)) "EraseDown").run Tryz.prog w = .ok (239, .pointer (some a)) w := by kernel_rfl
theorem na_EraseDown (a : Addr) (w : World) : (nilAhead 361 144 (.pointer (some a)) "EraseDown").run Tryz.prog w = .ok (some false) w := by kernel_rfl
theorem md_HideCursor (a : Addr) (w : World) : (method 361 144 (.pointer (some a)) "HideCursor").run Tryz.prog w = .ok (245, .pointer (some a)) w := by kernel_rfl
theorem na_HideCursor (a : Addr) (w : World) : (nilAhead 361 144 (.pointer (some a)) "HideCursor").run Tryz.prog w = .ok (some false) w := by kernel_rfl
theorem md_ShowCursor (a : Addr) (w : World) : (method 361 144 (.pointer (some a)) "ShowCursor").run Tryz.prog w = .ok (251, .pointer (some a)) w := by kernel_rfl
theorem na_ShowCursor (a : Addr) (w : World) : (nilAhead 361 144 (.pointer (some a)) "ShowCursor").run Tryz.prog w = .ok (some false) w := by kernel_rfl
theorem md_ScrollDown (a : Addr) (w : World) : (method 361 144 (.pointer (some a)) "ScrollDown").run Tryz.prog w = .ok (247, .pointer (some a)) w := by kernel_rfl
theorem na_ScrollDown (a : Addr) (w : World) : (nilAhead 361 144 (.pointer (some a)) "ScrollDown").run Tryz.prog w = .ok (some false) w := by kernel_rfl
theorem md_ScrollUp (a : Addr) (w : World) : (method 361 144 (.pointer (some a)) "ScrollUp").run Tryz.prog w = .ok (248, .pointer (some a)) w := by kernel_rfl
theorem na_ScrollUp (a : Addr) (w : World) : (nilAhead 361 144 (.pointer (some a)) "ScrollUp").run Tryz.prog w = .ok (some false) w := by kernel_rfl
theorem md_SetColor (a : Addr) (w : World) : (method 361 144 (.pointer (some a)) "SetColor").run Tryz.prog w = .ok (249, .pointer (some a)) w := by kernel_rfl
theorem na_SetColor (a : Addr) (w : World) : (nilAhead 361 144 (.pointer (some a)) "SetColor").run Tryz.prog w = .ok (some false) w := by kernel_rfl
theorem md_WriteRaw (a : Addr) (w : World) : (method 361 144 (.pointer (some a)) "WriteRaw").run Tryz.prog w = .ok (254, .pointer (some a)) w := by kernel_rfl
theorem na_WriteRaw (a : Addr) (w : World) : (nilAhead 361 144 (.pointer (some a)) "WriteRaw").run Tryz.prog w = .ok (some false) w := by kernel_rfl
theorem md_WriteStr (a : Addr) (w : World) : (method 361 144 (.pointer (some a)) "WriteStr").run Tryz.prog w = .ok (256, .pointer (some a)) w := by kernel_rfl
theorem na_WriteStr (a : Addr) (w : World) : (nilAhead 361 144 (.pointer (some a)) "WriteStr").run Tryz.prog w = .ok (some false) w := by kernel_rfl

theorem move_c {base : Nat} {w : World} {r o n : Nat} {pre : ByteArray} {cols : Nat} (h : Rn base w r o pre cols n) (hc : 13 ≤ cols) (hc2 : cols ≤ 120) (a b : Nat) (ha : a ≤ 1400) (hb : b ≤ 1400) (hn : n + 20 ≤ 1000000000) :
    Calls Tryz.prog 73 #[.pointer (some ⟨r, 0, none⟩), .int .i64 a, .int .i64 b] w fun e w' => e = .returned (.int .i64 b) ∧ Rn base w' r o pre cols (n + 20) ∧ Fr base [5, 143] [] w w' := by
  have m1 := md_CursorUp
  have m2 := na_CursorUp
  have m3 := md_CursorBackward
  have m4 := na_CursorBackward
  go_enter Tryz.func73, Tryz.ntmps73
  go_wp2_with (fail)
  refine (toPos_c h hc hc2 a ha).mono ?_
  rintro e w1 ⟨x, y, rfl, hx, hxa, hy, hF⟩
  have h1 := hF.rn0 h
  go_wp2_with (fail)
  refine (toPos_c h1 hc hc2 b hb).mono ?_
  rintro e w2 ⟨x2, y2, rfl, hx2, hxb, hy2, hF2⟩
  have h2 := hF2.rn0 h1
  obtain ⟨pc, hpc, ⟨c0, c1, c2, c3, c5, c6, c7, f7, hlt⟩, hB, hbr⟩ := h2.ren
  go_wp2_with (fail)
  refine (up_c h2.wr ((y : Int) - y2) (by omega) (by omega) (by omega)).mono ?_
  rintro e w3 ⟨rfl, hW3, hF3⟩
  have h3 := h2.after hF3 hW3
  obtain ⟨pc, hpc, ⟨c0, c1, c2, c3, c5, c6, c7, f7, hlt⟩, hB, hbr⟩ := h3.ren
  go_wp2_with (fail)
  refine (back_c h3.wr ((x : Int) - x2) (by omega) (by omega) (by omega)).mono ?_
  rintro e w4 ⟨rfl, hW4, hF4⟩
  have h4 := h3.after hF4 hW4
  go_wp2
  go_ret
  exact ⟨rfl, h4, (((Fr.refl _ _ _ _).ext hF).ext hF2 |>.into hF3 (by simp) (by simp)).into hF4 (by simp) (by simp)⟩

theorem backward_c {base : Nat} {w : World} {r o n : Nat} {pre : ByteArray} {cols : Nat} (h : Rn base w r o pre cols n) (hc : 13 ≤ cols) (hc2 : cols ≤ 120) (a b : Nat) (ha : a ≤ 1400) (hb : b ≤ a) (hn : n + 20 ≤ 1000000000) :
    Calls Tryz.prog 80 #[.pointer (some ⟨r, 0, none⟩), .int .i64 a, .int .i64 b] w fun e w' => e = .returned (.int .i64 (a - b : Nat)) ∧ Rn base w' r o pre cols (n + 20) ∧ Fr base [5, 143] [] w w' := by
  have hab : (a : Int) - b = (a - b : Nat) := by omega
  go_enter Tryz.func80, Tryz.ntmps80
  go_wp2_with (fail)
  refine (move_c h hc hc2 a (a - b) ha (by omega) hn).mono ?_
  rintro e w1 ⟨rfl, h1, hF⟩
  go_wp2
  go_ret
  exact ⟨rfl, h1, hF⟩

theorem clear_c {base : Nat} {w : World} {r o n : Nat} {pre : ByteArray} {cols : Nat} (h : Rn base w r o pre cols n) (hc : 13 ≤ cols) (hc2 : cols ≤ 120) (a : Nat) (ha : a ≤ 1400) (hn : n + 40 ≤ 1000000000) :
    Calls Tryz.prog 93 #[.pointer (some ⟨r, 0, none⟩), .int .i64 a] w fun e w' => e = .returned (.tuple #[]) ∧ Rn base w' r o pre cols (n + 40) ∧ Fr base [5, 143] [] w w' := by
  have m1 := md_EraseDown
  have m2 := na_EraseDown
  go_enter Tryz.func93, Tryz.ntmps93
  go_wp2_with (fail)
  refine (move_c h hc hc2 a 0 ha (by omega) (by omega)).mono ?_
  rintro e w1 ⟨rfl, h1, hF⟩
  obtain ⟨pc, hpc, ⟨c0, c1, c2, c3, c5, c6, c7, f7, hlt⟩, hB, hbr⟩ := h1.ren
  go_wp2_with (fail)
  refine (eraseDown_c h1.wr (by omega)).mono ?_
  rintro e w2 ⟨rfl, hW2, hF2⟩
  have h2 := h1.after hF2 hW2
  go_wp2
  go_end0
  exact ⟨rfl, h1.after hF2 (hW2.le (by omega)), hF.into hF2 (by simp) (by simp)⟩
end Go.Proofs.YtiepopbmbgfhkaaGreat
