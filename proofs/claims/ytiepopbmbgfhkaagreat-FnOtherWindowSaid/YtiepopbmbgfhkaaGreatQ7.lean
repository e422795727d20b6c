/-
  The renderer: its fields; moves.
  The renderer: prefix, line ends, room.
-/
import Derived.Test.YtiepopbmbgfhkaaGreatQ6
import Derived.Laws.EntriesVeiled
import Derived.Laws.Tables
namespace Go.Proofs.YtiepopbmbgfhkaaGreat
open Go.RowKit
set_option maxHeartbeats 1000000
set_option maxRecDepth 20000
set_option linter.unusedVariables false
set_option linter.unusedSimpArgs false

/-- The fields of a renderer. -/
def renCells (o : Nat) (pre : ByteArray) (cols : Nat) (pc : Int) : Array Value :=
  #[.iface 144 (.pointer (some ⟨o, 0, none⟩)), .string pre, .func (.func 107) #[] #[], .nilFunc, .string .empty, .int .u16 1000, .int .u16 cols, .int .i64 pc,
    .int .i64 13, .int .i64 0, .int .i64 0, .int .i64 0, .int .i64 11, .int .i64 0, .int .i64 16, .int .i64 7, .int .i64 1, .int .i64 15, .int .i64 1, .int .i64 15, .int .i64 16, .int .i64 7, .int .i64 9, .int .i64 7]

/-- The renderer at r, with the writer at o. -/
def Rn (base : Nat) (w : World) (r o : Nat) (pre : ByteArray) (cols n : Nat) : Prop :=
  base ≤ r ∧ (∃ pc : Int, 0 ≤ pc ∧ pc ≤ 1400 ∧ Blk w r (renCells o pre cols pc) 128) ∧ Wr base w o n

theorem wpList_build' {P : Program} {ops : Array Oper} {rest : List Oper} {o : Oper} {a : Act} {w : World} {Q : Exit → Act → World → Prop} (cells : Array Value) (hg : o.guard = none) (t : TypeId) (parts : Array (Nat × Operand)) (ho : o.op = .build t parts)
    (hc : P.built t (parts.map fun (i, x) => (i, a.eval x)).toList = some cells) (h : wpList P ops Q rest (a.put o.dst (.agg cells)) w) : wpList P ops Q (o :: rest) a w :=
  wpList_build hg t parts ho (by rw [hc]; rfl) (by rw [hc]; exact h)

theorem newRender_c (w : World) (hb : 1 < w.heap.size) (ht : Tab w) (pre : ByteArray) (c : Nat) : Calls Tryz.prog 67 #[.string pre, .int .u16 c, .int .u16 1000] w fun e w' =>
    ∃ r o, e = .returned (.pointer (some ⟨r, 0, none⟩)) ∧ Rn w.heap.size w' r o pre c 0 ∧ Fr w.heap.size [] [] w w' := by
  go_enter Tryz.func67, Tryz.ntmps67
  go_wp2_with (first | (refine wpList_build' (renCells w.heap.size pre c 0) rfl 128 _ rfl (by kernel_rfl) ?_))
  go_ret
  refine ⟨_, _, rfl, ⟨by omega, ⟨0, by omega, by omega, Blk.new' (by simp) _ _⟩, ?_⟩, ((Fr.refl _ _ _ _).alloc _).alloc _⟩
  have h1 : Wr w.heap.size (w.alloc (.cells #[.slice none 0 0] 143)) w.heap.size 0 := ⟨hb, Nat.le_refl _, ((Fr.refl 0 [] [] w).alloc _).tab0 ht, _, [], Blk.new w _ _, Bys.nil _ _, by simp⟩
  exact h1.alloc _

/-- The cells of a renderer that its functions look at. -/
structure RnC (w : World) (r o : Nat) (pre : ByteArray) (cols : Nat) (pc : Int) : Prop where
  c0 : w.cell? ⟨r, 0, none⟩ = some (.iface 144 (.pointer (some ⟨o, 0, none⟩)))
  c1 : w.cell? ⟨r, 1, none⟩ = some (.string pre)
  c2 : w.cell? ⟨r, 2, none⟩ = some (.func (.func 107) #[] #[])
  c3 : w.cell? ⟨r, 3, none⟩ = some .nilFunc
  c5 : w.cell? ⟨r, 5, none⟩ = some (.int .u16 1000)
  c6 : w.cell? ⟨r, 6, none⟩ = some (.int .u16 cols)
  c7 : w.cell? ⟨r, 7, none⟩ = some (.int .i64 pc)
  f7 : w.frozen? ⟨r, 7, none⟩ = false
  lt : r < w.heap.size
theorem rnC {w : World} {r o : Nat} {pre : ByteArray} {cols : Nat} {pc : Int} (h : Blk w r (renCells o pre cols pc) 128) : RnC w r o pre cols pc :=
  ⟨h.cell 0, h.cell 1, h.cell 2, h.cell 3, h.cell 5, h.cell 6, h.cell 7, h.frozen 7, h.lt⟩

theorem Rn.ren {base : Nat} {w : World} {r o n : Nat} {pre : ByteArray} {cols : Nat} (h : Rn base w r o pre cols n) : ∃ pc : Nat, pc ≤ 1400 ∧ RnC w r o pre cols pc ∧ Blk w r (renCells o pre cols pc) 128 ∧ base ≤ r := by
  obtain ⟨h1, ⟨pc, h2, h3, hB⟩, hW⟩ := h
  obtain ⟨k, rfl⟩ : ∃ k : Nat, pc = k := ⟨pc.toNat, by omega⟩
  exact ⟨k, by omega, rnC hB, hB, h1⟩
theorem Rn.wr {base : Nat} {w : World} {r o n : Nat} {pre : ByteArray} {cols : Nat} (h : Rn base w r o pre cols n) : Wr base w o n := h.2.2
theorem Rn.after {base : Nat} {w w1 : World} {r o n m : Nat} {pre : ByteArray} {cols : Nat} (h : Rn base w r o pre cols n) (hF : Fr base [5, 143] [] w w1) (hW : Wr base w1 o m) : Rn base w1 r o pre cols m := by
  obtain ⟨h1, ⟨pc, h2, h3, hB⟩, -⟩ := h
  exact ⟨h1, ⟨pc, h2, h3, hF.blk hB (.inr ⟨by simp, by simp⟩)⟩, hW⟩
theorem Fr.rn0 {base base' : Nat} {w w1 : World} {r o n : Nat} {pre : ByteArray} {cols : Nat} (hF : Fr base' [] [] w w1) (h : Rn base w r o pre cols n) : Rn base w1 r o pre cols n := by
  obtain ⟨h1, ⟨pc, h2, h3, hB⟩, hW⟩ := h
  exact ⟨h1, ⟨pc, h2, h3, hF.blk0 hB⟩, hF.wr0 hW⟩
theorem Rn.drewN {base : Nat} {w : World} {r o n : Nat} {pre : ByteArray} {cols : Nat} (h : Rn base w r o pre cols n) (k : Nat) : Rn base (w.drewN k) r o pre cols n := h
theorem Rn.drew {base : Nat} {w : World} {r o n : Nat} {pre : ByteArray} {cols : Nat} (h : Rn base w r o pre cols n) : Rn base w.drew r o pre cols n := h

theorem toPos_c {base : Nat} {w : World} {r o n : Nat} {pre : ByteArray} {cols : Nat} (h : Rn base w r o pre cols n) (hc : 13 ≤ cols) (hc2 : cols ≤ 120) (cur : Nat) (hcur : cur ≤ 1400) :
    Calls Tryz.prog 76 #[.pointer (some ⟨r, 0, none⟩), .int .i64 cur] w fun e w' => ∃ x y : Nat, e = .returned (.tuple #[.int .i64 x, .int .i64 y]) ∧ x < cols ∧ x ≤ cur ∧ y ≤ 110 ∧ Fr 0 [] [] w w' := by
  obtain ⟨pc, hpc, ⟨c0, c1, c2, c3, c5, c6, c7, f7, hlt⟩, hB, hbr⟩ := h.ren
  have hw : IntKind.i64.wrap (cols : Int) = cols := wrap_in (by omega) (by omega)
  obtain ⟨e1, e2⟩ := int_ne (a := (cols : Int)) (b := 0) (by omega)
  have e3 : ¬ cols = 0 := by omega
  have hy : cur / cols ≤ 110 := by
    calc cur / cols ≤ cur / 13 := Nat.div_le_div_left hc (by omega)
      _ ≤ 110 := by omega
  have hq : wrap64 ((cur : Int) / cols) = (cur / cols : Nat) := by
    rw [← Int.natCast_ediv]
    obtain ⟨z, hz⟩ : ∃ z, cur / cols = z := ⟨_, rfl⟩
    rw [hz] at hy ⊢
    unfold wrap64; omega
  have hx1 : cur % cols < cols := Nat.mod_lt _ (by omega)
  have hx2 : cur % cols ≤ cur := Nat.mod_le _ _
  have hr : (cur : Int) % cols = (cur % cols : Nat) := (Int.natCast_emod _ _).symm
  go_enter Tryz.func76, Tryz.ntmps76
  go_wp2_with (fail)
  go_quiet (fail)
  go_wp2
  go_ret2
  refine ⟨cur % cols, cur / cols, ?_, hx1, hx2, hy, (Fr.refl _ _ _ _).drewN _⟩
  simp only [← hr, ← hq]
  rfl

theorem md_CursorUp (a : Addr) (w : World) : (method 361 144 (.pointer (some a)) "CursorUp").run Tryz.prog w = .ok (238, .pointer (some a)) w := by kernel_rfl
theorem na_CursorUp (a : Addr) (w : World) : (nilAhead 361 144 (.pointer (some a)) "CursorUp").run Tryz.prog w = .ok (some false) w := by kernel_rfl
theorem md_CursorDown (a : Addr) (w : World) : (method 361 144 (.pointer (some a)) "CursorDown").run Tryz.prog w = .ok (235, .pointer (some a)) w := by kernel_rfl
theorem na_CursorDown (a : Addr) (w : World) : (nilAhead 361 144 (.pointer (some a)) "CursorDown").run Tryz.prog w = .ok (some false) w := by kernel_rfl
theorem md_CursorForward (a : Addr) (w : World) : (method 361 144 (.pointer (some a)) "CursorForward").run Tryz.prog w = .ok (236, .pointer (some a)) w := by kernel_rfl
theorem na_CursorForward (a : Addr) (w : World) : (nilAhead 361 144 (.pointer (some a)) "CursorForward").run Tryz.prog w = .ok (some false) w := by kernel_rfl
theorem md_CursorBackward (a : Addr) (w : World) : (method 361 144 (.pointer (some a)) "CursorBackward").run Tryz.prog w = .ok (234, .pointer (some a)) w := by kernel_rfl
theorem na_CursorBackward (a : Addr) (w : World) : (nilAhead 361 144 (.pointer (some a)) "CursorBackward").run Tryz.prog w = .ok (some false) w := by kernel_rfl
theorem md_EraseDown (a : Addr) (w : World) : (method 361 144 (.pointer (some a)) "EraseDown").run Tryz.prog w = .ok (239, .pointer (some a)) w := by kernel_rfl
theorem na_EraseDown (a : Addr) (w : World) : (nilAhead 361 144 (.pointer (some a)) "EraseDown").run Tryz.prog w = .ok (some false) w := by kernel_rfl
theorem md_HideCursor (a : Addr) (w : World) : (method 361 144 (.pointer (some a)) "HideCursor").run Tryz.prog w = .ok (245, .pointer (some a)) w := by kernel_rfl
theorem na_HideCursor (a : Addr) (w : World) : (nilAhead 361 144 (.pointer (some a)) "HideCursor").run Tryz.prog w = .ok (some false) w := by kernel_rfl
theorem md_ShowCursor (a : Addr) (w : World) : (method 361 144 (.pointer (some a)) "ShowCursor").run Tryz.prog w = .ok (251, .pointer (some a)) w := by kernel_rfl
theorem na_ShowCursor (a : Addr) (w : World) : (nilAhead 361 144 (.pointer (some a)) "ShowCursor").run Tryz.prog w = .ok (some false) w := by kernel_rfl
theorem md_ScrollDown (a : Addr) (w : World) : (method 361 144 (.pointer (some a)) "ScrollDown").run Tryz.prog w = .ok (247, .pointer (some a)) w := by kernel_rfl
theorem na_ScrollDown (a : Addr) (w : World) : (nilAhead 361 144 (.pointer (some a)) "ScrollDown").run Tryz.prog w = .ok (some false) w := by kernel_rfl
theorem md_ScrollUp (a : Addr) (w : World) : (method 361 144 (.pointer (some a)) "ScrollUp").run Tryz.prog w = .ok (248, .pointer (some a)) w := by kernel_rfl
theorem na_ScrollUp (a : Addr) (w : World) : (nilAhead 361 144 (.pointer (some a)) "ScrollUp").run Tryz.prog w = .ok (some false) w := by kernel_rfl
theorem md_SetColor (a : Addr) (w : World) : (method 361 144 (.pointer (some a)) "SetColor").run Tryz.prog w = .ok (249, .pointer (some a)) w := by kernel_rfl
theorem na_SetColor (a : Addr) (w : World) : (nilAhead 361 144 (.pointer (some a)) "SetColor").run Tryz.prog w = .ok (some false) w := by kernel_rfl
theorem md_WriteRaw (a : Addr) (w : World) : (method 361 144 (.pointer (some a)) "WriteRaw").run Tryz.prog w = .ok (254, .pointer (some a)) w := by kernel_rfl
theorem na_WriteRaw (a : Addr) (w : World) : (nilAhead 361 144 (.pointer (some a)) "WriteRaw").run Tryz.prog w = .ok (some false) w := by kernel_rfl
theorem md_WriteStr (a : Addr) (w : World) : (method 361 144 (.pointer (some a)) "WriteStr").run Tryz.prog w = .ok (256, .pointer (some a)) w := by kernel_rfl
theorem na_WriteStr (a : Addr) (w : World) : (nilAhead 361 144 (.pointer (some a)) "WriteStr").run Tryz.prog w = .ok (some false) w := by kernel_rfl

theorem move_c {base : Nat} {w : World} {r o n : Nat} {pre : ByteArray} {cols : Nat} (h : Rn base w r o pre cols n) (hc : 13 ≤ cols) (hc2 : cols ≤ 120) (a b : Nat) (ha : a ≤ 1400) (hb : b ≤ 1400) (hn : n + 20 ≤ 1000000000) :
    Calls Tryz.prog 73 #[.pointer (some ⟨r, 0, none⟩), .int .i64 a, .int .i64 b] w fun e w' => e = .returned (.int .i64 b) ∧ Rn base w' r o pre cols (n + 20) ∧ Fr base [5, 143] [] w w' := by
  have m1 := md_CursorUp
  have m2 := na_CursorUp
  have m3 := md_CursorBackward
  have m4 := na_CursorBackward
  go_enter Tryz.func73, Tryz.ntmps73
  go_wp2_with (fail)
  refine (toPos_c h hc hc2 a ha).mono ?_
  rintro e w1 ⟨x, y, rfl, hx, hxa, hy, hF⟩
  have h1 := hF.rn0 h
  go_wp2_with (fail)
  refine (toPos_c h1 hc hc2 b hb).mono ?_
  rintro e w2 ⟨x2, y2, rfl, hx2, hxb, hy2, hF2⟩
  have h2 := hF2.rn0 h1
  obtain ⟨pc, hpc, ⟨c0, c1, c2, c3, c5, c6, c7, f7, hlt⟩, hB, hbr⟩ := h2.ren
  go_wp2_with (fail)
  refine (up_c h2.wr ((y : Int) - y2) (by omega) (by omega) (by omega)).mono ?_
  rintro e w3 ⟨rfl, hW3, hF3⟩
  have h3 := h2.after hF3 hW3
  obtain ⟨pc, hpc, ⟨c0, c1, c2, c3, c5, c6, c7, f7, hlt⟩, hB, hbr⟩ := h3.ren
  go_wp2_with (fail)
  refine (back_c h3.wr ((x : Int) - x2) (by omega) (by omega) (by omega)).mono ?_
  rintro e w4 ⟨rfl, hW4, hF4⟩
  have h4 := h3.after hF4 hW4
  go_wp2
  go_ret
  exact ⟨rfl, h4, (((Fr.refl _ _ _ _).ext hF).ext hF2 |>.into hF3 (by simp) (by simp)).into hF4 (by simp) (by simp)⟩

theorem backward_c {base : Nat} {w : World} {r o n : Nat} {pre : ByteArray} {cols : Nat} (h : Rn base w r o pre cols n) (hc : 13 ≤ cols) (hc2 : cols ≤ 120) (a b : Nat) (ha : a ≤ 1400) (hb : b ≤ a) (hn : n + 20 ≤ 1000000000) :
    Calls Tryz.prog 80 #[.pointer (some ⟨r, 0, none⟩), .int .i64 a, .int .i64 b] w fun e w' => e = .returned (.int .i64 (a - b : Nat)) ∧ Rn base w' r o pre cols (n + 20) ∧ Fr base [5, 143] [] w w' := by
  have hab : (a : Int) - b = (a - b : Nat) := by omega
  go_enter Tryz.func80, Tryz.ntmps80
  go_wp2_with (fail)
  refine (move_c h hc hc2 a (a - b) ha (by omega) hn).mono ?_
  rintro e w1 ⟨rfl, h1, hF⟩
  go_wp2
  go_ret
  exact ⟨rfl, h1, hF⟩

theorem clear_c {base : Nat} {w : World} {r o n : Nat} {pre : ByteArray} {cols : Nat} (h : Rn base w r o pre cols n) (hc : 13 ≤ cols) (hc2 : cols ≤ 120) (a : Nat) (ha : a ≤ 1400) (hn : n + 40 ≤ 1000000000) :
    Calls Tryz.prog 93 #[.pointer (some ⟨r, 0, none⟩), .int .i64 a] w fun e w' => e = .returned (.tuple #[]) ∧ Rn base w' r o pre cols (n + 40) ∧ Fr base [5, 143] [] w w' := by
  have m1 := md_EraseDown
  have m2 := na_EraseDown
  go_enter Tryz.func93, Tryz.ntmps93
  go_wp2_with (fail)
  refine (move_c h hc hc2 a 0 ha (by omega) (by omega)).mono ?_
  rintro e w1 ⟨rfl, h1, hF⟩
  obtain ⟨pc, hpc, ⟨c0, c1, c2, c3, c5, c6, c7, f7, hlt⟩, hB, hbr⟩ := h1.ren
  go_wp2_with (fail)
  refine (eraseDown_c h1.wr (by omega)).mono ?_
  rintro e w2 ⟨rfl, hW2, hF2⟩
  have h2 := h1.after hF2 hW2
  go_wp2
  go_end0
  exact ⟨rfl, h1.after hF2 (hW2.le (by omega)), hF.into hF2 (by simp) (by simp)⟩
end Go.Proofs.YtiepopbmbgfhkaaGreat

namespace Go.Proofs.YtiepopbmbgfhkaaGreat
open Go.RowKit
open List renaming setIfInBounds_toArray → zq1, set_cons_zero → zq2, set_cons_succ → zq3
open Int renaming toNat_natCast → zq4, toNat_sub → zq5, toNat_zero → zq6
set_option maxHeartbeats 1000000
set_option maxRecDepth 20000
set_option linter.unusedVariables false
set_option linter.unusedSimpArgs false

theorem live_c (w : World) : Calls Tryz.prog 107 #[] w fun e w' => e = .returned (.tuple #[.string .empty, .bool false]) ∧ Fr 0 [] [] w w' := by
  go_enter Tryz.func107, Tryz.ntmps107
  go_wp2_with (fail)
  go_ret2
  exact ⟨rfl, (Fr.refl _ _ _ _)⟩

theorem prefix_c {base : Nat} {w : World} {r o n : Nat} {pre : ByteArray} {cols : Nat} (h : Rn base w r o pre cols n) :
    Calls Tryz.prog 74 #[.pointer (some ⟨r, 0, none⟩)] w fun e w' => e = .returned (.string pre) ∧ Fr 0 [] [] w w' := by
  obtain ⟨pc, hpc, ⟨c0, c1, c2, c3, c5, c6, c7, f7, hlt⟩, hB, hbr⟩ := h.ren
  go_enter Tryz.func74, Tryz.ntmps74
  go_wp2_with (fail)
  refine (live_c w).mono ?_
  rintro e w1 ⟨rfl, hF⟩
  have h1 := hF.rn0 h
  obtain ⟨pc, hpc, ⟨c0, c1, c2, c3, c5, c6, c7, f7, hlt⟩, hB, hbr⟩ := h1.ren
  go_wp2
  go_ret
  exact ⟨rfl, hF⟩

/-- The colours of a renderer, as its region reads them. -/
theorem Rn.col {base : Nat} {w : World} {r o n : Nat} {pre : ByteArray} {cols : Nat} (h : Rn base w r o pre cols n) :
    w.cell? ⟨r, 8, none⟩ = some (.int .i64 13) ∧ w.cell? ⟨r, 9, none⟩ = some (.int .i64 0) ∧ w.cell? ⟨r, 10, none⟩ = some (.int .i64 0) ∧ w.cell? ⟨r, 11, none⟩ = some (.int .i64 0) ∧ w.cell? ⟨r, 12, none⟩ = some (.int .i64 11) ∧ w.cell? ⟨r, 13, none⟩ = some (.int .i64 0) := by
  obtain ⟨pc, hpc, -, hB, hbr⟩ := h.ren
  exact ⟨hB.cell 8, hB.cell 9, hB.cell 10, hB.cell 11, hB.cell 12, hB.cell 13⟩

theorem renderPrefix_c {base : Nat} {w : World} {r o n : Nat} {pre : ByteArray} {cols : Nat} (h : Rn base w r o pre cols n) (hp : Prn pre) (hs : pre.size ≤ 100) (hn : n + 200 ≤ 1000000000) :
    Calls Tryz.prog 78 #[.pointer (some ⟨r, 0, none⟩)] w fun e w' => e = .returned (.tuple #[]) ∧ Rn base w' r o pre cols (n + 200) ∧ Fr base [5, 143] [] w w' := by
  have m1 := md_SetColor
  have m2 := na_SetColor
  have m3 := md_WriteStr
  have m4 := na_WriteStr
  go_enter Tryz.func78, Tryz.ntmps78
  go_wp2_with (fail)
  have hS : (fun w' : World => w'.cell? ⟨r, 0, none⟩ = some (.iface 144 (.pointer (some ⟨o, 0, none⟩))) ∧ w'.cell? ⟨r, 8, none⟩ = some (.int .i64 13) ∧ w'.cell? ⟨r, 9, none⟩ = some (.int .i64 0)) w.drew := by
    obtain ⟨pc, hpc, ⟨c0, c1, c2, c3, c5, c6, c7, f7, hlt⟩, hB, hbr⟩ := h.ren
    exact ⟨c0, h.col.1, h.col.2.1⟩
  refine wp_region_plan [3, 7, 11] [14] (fun w' => w'.cell? ⟨r, 0, none⟩ = some (.iface 144 (.pointer (some ⟨o, 0, none⟩))) ∧ w'.cell? ⟨r, 8, none⟩ = some (.int .i64 13) ∧ w'.cell? ⟨r, 9, none⟩ = some (.int .i64 0)) (.pure 0 (.pure 1 (.pure 2 (.take 3 (.pure 4 (.pure 5 (.pure 6 (.take 7 (.pure 8 (.pure 9 (.pure 10 (.take 11 (.pure 12 (.pure 13 (.go 14 .done))))))))))))))) hmix (by kernel_rfl) ?_
  repeat (first | (refine plan_move rfl rfl rfl ?_; (try simp only [Act.put, zq1, zq2, zq3, zq4, zq5, zq6])) | (refine plan_pure (v := ?_) rfl rfl ?_ ?_; rotate_left; (intro w'; go_simp <;> with_reducible rfl); (try simp only [Act.put, zq1, zq2, zq3, zq4, zq5, zq6])) | (refine plan_take (v := ?_) rfl hS rfl ?_ ?_; rotate_left; (intro w' hSw; (try dsimp only at hSw); go_simp <;> with_reducible rfl); (try simp only [Act.put, zq1, zq2, zq3, zq4, zq5, zq6])))
  refine plan_go rfl (by kernel_rfl) rfl (fun K hK => ?_)
  go_simp; refine (setColor_c (f := 13) (b := 0) h.wr.drew (by omega) (by omega) (by omega)).mono ?_; rintro e w1 ⟨rfl, hW1, hF1⟩; refine hK _ _ ?_; clear hK K; (try simp only [Act.put, zq1, zq2, zq3, zq4, zq5, zq6])
  refine plan_done ?_
  have h1 := h.drew.after hF1 hW1
  go_wp2_with (fail)
  have hS : (fun w' : World => w'.cell? ⟨r, 0, none⟩ = some (.iface 144 (.pointer (some ⟨o, 0, none⟩)))) w1.drew := by
    obtain ⟨pc, hpc, ⟨c0, c1, c2, c3, c5, c6, c7, f7, hlt⟩, hB, hbr⟩ := h1.ren
    exact c0
  refine wp_region_plan [3] [5, 8] (fun w' => w'.cell? ⟨r, 0, none⟩ = some (.iface 144 (.pointer (some ⟨o, 0, none⟩)))) (.pure 0 (.pure 1 (.pure 2 (.take 3 (.pure 4 (.pure 6 (.pure 7 (.go 5 (.go 8 .done))))))))) hmix (by kernel_rfl) ?_
  repeat (first | (refine plan_move rfl rfl rfl ?_; (try simp only [Act.put, zq1, zq2, zq3, zq4, zq5, zq6])) | (refine plan_pure (v := ?_) rfl rfl ?_ ?_; rotate_left; (intro w'; go_simp <;> with_reducible rfl); (try simp only [Act.put, zq1, zq2, zq3, zq4, zq5, zq6])) | (refine plan_take (v := ?_) rfl hS rfl ?_ ?_; rotate_left; (intro w' hSw; (try dsimp only at hSw); go_simp <;> with_reducible rfl); (try simp only [Act.put, zq1, zq2, zq3, zq4, zq5, zq6])))
  refine plan_goS rfl rfl (fun K hK => ?_)
  go_simp; refine (prefix_c h1.drew).mono ?_; rintro e w2 ⟨rfl, hF2⟩; refine hK _ _ (hF2.cell0 hS) ?_; clear hK K; (try simp only [Act.put, zq1, zq2, zq3, zq4, zq5, zq6])
  refine plan_go rfl (by kernel_rfl) rfl (fun K hK => ?_)
  go_simp; refine (writeStr_c (hF2.wr0 h1.wr.drew) hp.noEsc (by omega)).mono ?_; rintro e w3 ⟨rfl, hW3, hF3⟩; refine hK _ _ ?_; clear hK K; (try simp only [Act.put, zq1, zq2, zq3, zq4, zq5, zq6])
  refine plan_done ?_
  have h3 := (hF2.rn0 h1.drew).after hF3 hW3
  obtain ⟨pc, hpc, ⟨c0, c1, c2, c3, c5, c6, c7, f7, hlt⟩, hB, hbr⟩ := h3.ren
  go_wp2_with (fail)
  refine (setColor_c (f := 0) (b := 0) h3.wr (by omega) (by omega) (by omega)).mono ?_
  rintro e w4 ⟨rfl, hW4, hF4⟩
  go_wp2
  go_end0
  exact ⟨rfl, h3.after hF4 (hW4.le (by omega)), ((((Fr.refl _ _ _ _).drew.into hF1 (by simp) (by simp)).drew.ext hF2).into hF3 (by simp) (by simp)).into hF4 (by simp) (by simp)⟩

theorem lineWrap_c {base : Nat} {w : World} {r o n : Nat} {pre : ByteArray} {cols : Nat} (h : Rn base w r o pre cols n) (hc : 13 ≤ cols) (hc2 : cols ≤ 120) (cur : Nat) (hcur : cur ≤ 1400) (hn : n + 1 ≤ 1000000000) :
    Calls Tryz.prog 79 #[.pointer (some ⟨r, 0, none⟩), .int .i64 cur] w fun e w' => e = .returned (.tuple #[]) ∧ Rn base w' r o pre cols (n + 1) ∧ Fr base [5, 143] [] w w' := by
  have m1 := md_WriteRaw
  have m2 := na_WriteRaw
  obtain ⟨pc, hpc, ⟨c0, c1, c2, c3, c5, c6, c7, f7, hlt⟩, hB, hbr⟩ := h.ren
  obtain ⟨e1, e2⟩ := int_ne (a := (cols : Int)) (b := 0) (by omega)
  have e3 : ¬ cols = 0 := by omega
  have hw : IntKind.i64.wrap (cols : Int) = cols := wrap_in (by omega) (by omega)
  have hr : (cur : Int) % cols = (cur % cols : Nat) := (Int.natCast_emod _ _).symm
  by_cases h0 : 0 < cur
  · have d0 : decide (0 < (cur : Int)) = true := by simpa using h0
    by_cases hm : cur % cols = 0
    · have d1 : ((cur : Int) % cols == 0) = true := by rw [hr, hm]; rfl
      have HR := Lib.hid hr
      have HM := Lib.hid hm
      clear hr hm
      go_enter Tryz.func79, Tryz.ntmps79
      go_wp2_with (fail)
      refine (writeRaw_c (h.wr.alloc _) (Dat.of_blk [10] _ (Blk.new' rfl _ _)) (by simp; omega)).mono ?_
      rintro e w1 ⟨rfl, hW1, hF1⟩
      go_wp2
      go_end0
      have hF : Fr base [5, 143] [] w w1 := ((Fr.refl _ _ _ _).alloc _).into hF1 (by simp) (by simp)
      exact ⟨rfl, h.after hF hW1, hF⟩
    · have d1 : ((cur : Int) % cols == 0) = false := (int_ne (by rw [hr]; omega)).1
      have HR := Lib.hid hr
      have HM := Lib.hid hm
      clear hr hm
      go_enter Tryz.func79, Tryz.ntmps79
      go_wp2_with (fail)
      go_end0
      exact ⟨rfl, ⟨h.1, h.2.1, h.wr.le (by omega)⟩, Fr.refl _ _ _ _⟩
  · have d0 : decide (0 < (cur : Int)) = false := by simpa using h0
    clear hr
    go_enter Tryz.func79, Tryz.ntmps79
    go_wp2_with (fail)
    go_end0
    exact ⟨rfl, ⟨h.1, h.2.1, h.wr.le (by omega)⟩, Fr.refl _ _ _ _⟩

theorem prepareArea_c {base : Nat} {w : World} {r o n : Nat} {pre : ByteArray} {cols : Nat} (h : Rn base w r o pre cols n) (k : Nat) (hk : k ≤ 100) (hn : n + 2400 ≤ 1000000000) :
    Calls Tryz.prog 115 #[.pointer (some ⟨r, 0, none⟩), .int .i64 k] w fun e w' => e = .returned (.tuple #[]) ∧ Rn base w' r o pre cols (n + 2400) ∧ Fr base [5, 143] [] w w' := by
  have m1 := md_ScrollDown
  have m2 := na_ScrollDown
  have m3 := md_ScrollUp
  have m4 := na_ScrollUp
  go_enter Tryz.func115, Tryz.ntmps115
  go_wp2_with (fail)
  go_loopw [4] (fun v4 w' => ∃ i : Nat, i ≤ k ∧ v4 = .int .i64 i ∧ Rn base w' r o pre cols (n + 12 * i) ∧ Fr base [5, 143] [] w w') (fun v4 _ => k - (intOf v4).toNat)
  case atStart => exact ⟨0, by omega, rfl, h, Fr.refl _ _ _ _⟩
  case round =>
    obtain ⟨i, hi, rfl, h1, hF1⟩ := hrel
    by_cases hlt : i < k
    · have d1 : decide ((i : Int) < k) = true := by simpa using hlt
      obtain ⟨pc, hpc, ⟨c0, c1, c2, c3, c5, c6, c7, f7, hlt⟩, hB, hbr⟩ := h1.ren
      go_wp2_with (fail)
      refine (scrollDown_c h1.wr (by omega)).mono ?_
      rintro e w2 ⟨rfl, hW2, hF2⟩
      go_wp2
      go_roundw
      case rel => exact ⟨i + 1, by omega, by simp, h1.after hF2 (hW2.le (by omega)), hF1.into hF2 (by simp) (by simp)⟩
      case measure => simp [intOf]; omega
    · have d1 : decide ((i : Int) < k) = false := by simpa using hlt
      have e : i = k := by omega
      subst e
      go_wp2_with (fail)
      go_loopw [5] (fun v5 w' => ∃ j : Nat, j ≤ i ∧ v5 = .int .i64 j ∧ Rn base w' r o pre cols (n + 12 * i + 12 * j) ∧ Fr base [5, 143] [] w w') (fun v5 _ => i - (intOf v5).toNat)
      case atStart => exact ⟨0, by omega, rfl, h1, hF1⟩
      case round =>
        obtain ⟨j, hj, rfl, h2, hF2⟩ := hrel
        by_cases hlt : j < i
        · have d1 : decide ((j : Int) < i) = true := by simpa using hlt
          obtain ⟨pc, hpc, ⟨c0, c1, c2, c3, c5, c6, c7, f7, hlt⟩, hB, hbr⟩ := h2.ren
          go_wp2_with (fail)
          refine (scrollUp_c h2.wr (by omega)).mono ?_
          rintro e w3 ⟨rfl, hW3, hF3⟩
          go_wp2
          go_roundw
          case rel => exact ⟨j + 1, by omega, by simp, h2.after hF3 (hW3.le (by omega)), hF2.into hF3 (by simp) (by simp)⟩
          case measure => simp [intOf]; omega
        · have d1 : decide ((j : Int) < i) = false := by simpa using hlt
          go_wp2_with (fail)
          go_end0
          exact ⟨rfl, ⟨h2.1, h2.2.1, h2.wr.le (by omega)⟩, hF2⟩
end Go.Proofs.YtiepopbmbgfhkaaGreat
