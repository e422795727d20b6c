/-
  Texts of ASCII: to runes and back; laws for the operations that do that.
-/
import Derived.Test.YtiepopbmbgfhkaaGreatA0
import Derived.Laws.Cover4
import Derived.Deep.Cut
import Derived.StillTailTactics
namespace Go.Proofs.YtiepopbmbgfhkaaGreat
open Go.RowKit

/-- A text of ASCII. -/
def Asc (t : ByteArray) : Prop := ∀ i (h : i < t.size), t[i].toNat < 128

/-- The cells of '[]rune(t)', t of ASCII. -/
def runeRow (t : ByteArray) (cap : Nat) : Array Value := (t.data.map fun b => Value.int .i32 (b.toNat : Int)) ++ Array.replicate (cap - t.size) (.int .i32 0)

theorem size_eq_data (t : ByteArray) : t.data.size = t.size := rfl

theorem runeRow_at (t : ByteArray) (cap j : Nat) (hj : j < t.size) : (runeRow t cap)[j]? = some (.int .i32 (t[j].toNat : Int)) := by
  unfold runeRow
  rw [Array.getElem?_append_left (by simpa using hj)]
  simp only [Array.getElem?_map]
  rw [Array.getElem?_eq_getElem (by simpa using hj)]
  rfl

theorem decode_asc (t : ByteArray) (i : Nat) (h : i < t.size) (ha : t[i].toNat < 128) : Utf8.decode t i = (t[i].toNat, 1) := by
  have hg : t.get! i = t[i] := by
    exact getElem!_pos t.data i h
  unfold Utf8.decode
  simp only [Nat.add_zero, hg]
  rw [if_pos ha]

theorem runesFrom_asc (t : ByteArray) (ha : Asc t) : ∀ (bound i : Nat) (acc : Array Value), t.size = i + bound →
    Conv.runesFrom t bound i acc = acc ++ ((t.data.toList.drop i).map fun b => Value.int .i32 (b.toNat : Int)).toArray
  | 0, i, acc, h => by
    have : t.data.toList.drop i = [] := List.drop_eq_nil_of_le (by simp; omega)
    simp [Conv.runesFrom, this]
  | bound + 1, i, acc, h => by
    have hi : i < t.size := by omega
    unfold Conv.runesFrom
    rw [if_pos hi, decode_asc t i hi (ha i hi)]
    simp only
    rw [runesFrom_asc t ha bound (i + 1) _ (by omega)]
    have hd : t.data.toList.drop i = t[i] :: t.data.toList.drop (i + 1) := by
      rw [List.drop_eq_getElem_cons (by simpa using hi)]
      simp
      rfl
    rw [hd]
    simp

theorem runesFrom_all (t : ByteArray) (ha : Asc t) : Conv.runesFrom t t.size 0 #[] = t.data.map fun b => Value.int .i32 (b.toNat : Int) := by
  rw [runesFrom_asc t ha t.size 0 #[] (by omega)]
  simp
  apply Array.ext'
  simp

theorem conv_runes (w : World) (t : ByteArray) (ha : Asc t) (hs : t.size ≤ 70368744177664) :
    (convert 9 145 (.string t)).run Tryz.prog w = .ok (.slice (some ⟨w.heap.size, 0, none⟩) t.size (grownCap w t.size 0 21)) (w.drew.alloc (.cells (runeRow t (grownCap w t.size 0 21)) 21)) := by
  have hsz : (Conv.runesFrom t t.size 0 #[]).size = t.size := by rw [runesFrom_all t ha]; simp
  have h := run_runes_of_string (P := Tryz.prog) w 9 145 21 t Tryz.underlying9 Tryz.underlying145 Tryz.underlying21 (by rw [hsz]; exact hs)
  rw [hsz] at h
  rw [h, runesFrom_all t ha]
  rfl

theorem encode_asc (b : UInt8) (h : b.toNat < 128) : Utf8.encode (b.toNat : Int) = ⟨#[b]⟩ := by
  unfold Utf8.encode
  have hv : Utf8.valid (b.toNat : Int) = true := by
    rw [validRune_eq]; unfold validRune; simp; omega
  simp only [hv, if_true]
  rw [if_pos (by simpa using h)]
  simp

theorem runesBytes_asc : ∀ (l : List UInt8), (∀ b ∈ l, b.toNat < 128) → ∀ s : ByteArray, (l.map fun b => (b.toNat : Int)).foldl (fun r n => r ++ Utf8.encode n) s = s ++ ⟨l.toArray⟩
  | [], _, s => by
    apply ByteArray.ext; simp
  | b :: l, h, s => by
    simp only [List.map_cons, List.foldl_cons]
    rw [encode_asc b (h b (by simp)), runesBytes_asc l (fun c hc => h c (by simp [hc]))]
    apply ByteArray.ext
    simp [ByteArray.data_append]

theorem extract_list (t : ByteArray) (i j : Nat) : (⟨((t.data.toList.drop i).take (j - i)).toArray⟩ : ByteArray) = t.extract i j := by
  apply ByteArray.ext
  rw [ByteArray.data_extract]
  apply Array.ext'
  simp [Array.toList_extract, List.extract_eq_take_drop]

theorem conv_text {w : World} {h cap : Nat} {t : ByteArray} (hB : Blk w h (runeRow t cap) 21) (ha : Asc t) (i m c : Nat) (him : i + m ≤ t.size) :
    (convert 145 9 (.slice (some ⟨h, i, none⟩) m c)).run Tryz.prog w = .ok (.string (t.extract i (i + m))) w := by
  have hl : m ≤ (((t.data.toList.drop i).take m).map fun b => (b.toNat : Int)).length := by simp; omega
  have key := run_convert_runes (P := Tryz.prog) w 145 9 21 ⟨h, i, none⟩ m c (((t.data.toList.drop i).take m).map fun b => (b.toNat : Int)) hl Tryz.underlying145 Tryz.underlying21 Tryz.underlying9
    (fun j hj => by
      have hjm : j < m := by simp at hj; omega
      have hadd : (⟨h, i, none⟩ : Addr).add j = ⟨h, i + j, none⟩ := by unfold Addr.add; split <;> simp_all
      have hsz : i + j < t.size := by omega
      have hsz' : i + j < t.data.size := hsz
      rw [hadd, hB.cell, runeRow_at t cap (i + j) hsz]
      simp only [List.getD_eq_getElem?_getD, List.getElem?_map, List.getElem?_take, if_pos hjm, List.getElem?_drop]
      simp only [Array.getElem?_toList, Array.getElem?_eq_getElem hsz', Option.map_some, Option.getD_some]
      rfl)
  rw [key]
  have hlen : (((t.data.toList.drop i).take m).map fun b => (b.toNat : Int)).length = m := by simp; omega
  rw [List.take_of_length_le (by omega)]
  unfold runesBytes
  rw [runesBytes_asc _ (fun b hb => by
    have hb' := List.mem_of_mem_drop (List.mem_of_mem_take hb)
    obtain ⟨k, hk, rfl⟩ := List.getElem_of_mem hb'
    have hk' : k < t.size := by simpa using hk
    have := ha k hk'
    rw [Array.getElem_toList]
    exact this)]
  rw [← extract_list, show i + m - i = m by omega]
  simp

theorem conv_text_nil (w : World) (a : Option Addr) (c : Nat) : (convert 145 9 (.slice a 0 c)).run Tryz.prog w = .ok (.string .empty) w := by
  cases a with
  | none => exact run_convert_runes_nil w 145 9 21 0 c Tryz.underlying145 Tryz.underlying21 Tryz.underlying9
  | some a =>
    have := run_convert_runes (P := Tryz.prog) w 145 9 21 a 0 c [] (by simp) Tryz.underlying145 Tryz.underlying21 Tryz.underlying9 (by simp)
    simpa [runesBytes] using this

/-- What 'r[i:j]' is, r the runes of a text. -/
def runeSl (b i j cap : Nat) : Value := .slice (some (if cap = i then ⟨b, 0, none⟩ else ⟨b, i, none⟩)) (j - i) (cap - i)

theorem extract_empty (t : ByteArray) (i j : Nat) (h : j ≤ i) : t.extract i j = .empty := by
  apply ByteArray.ext
  rw [ByteArray.data_extract]
  apply Array.ext'
  simp [Array.toList_extract, List.extract_eq_take_drop]
  left; omega

theorem conv_sl {w : World} {b cap : Nat} {t : ByteArray} (hB : Blk w b (runeRow t cap) 21) (ha : Asc t) (i j : Nat) (hij : i ≤ j) (hj : j ≤ t.size) (hc : t.size ≤ cap) :
    (convert 145 9 (runeSl b i j cap)).run Tryz.prog w = .ok (.string (t.extract i j)) w := by
  unfold runeSl
  split
  · have e : j - i = 0 := by omega
    rw [e, conv_text_nil, extract_empty t i j (by omega)]
  · rw [conv_text hB ha i (j - i) _ (by omega), show i + (j - i) = j by omega]

theorem sliced_sl (b i j cap : Nat) : sliced (some ⟨b, 0, none⟩) i j cap 1 = runeSl b i j cap := by
  unfold sliced runeSl
  congr 1
  split
  · rfl
  · simp [Addr.add]
    intro h; simp [h]

theorem under145 : Tryz.prog.underlying 145 = some (.slice (Tryz.prog.elem 145)) := by kernel_rfl
theorem elem145 : Tryz.prog.elem 145 = 21 := by kernel_rfl
theorem size21 (w : World) : (sizeOf 21).run Tryz.prog w = .ok 1 w := by kernel_rfl

section
variable {o : Oper} {a : Act} {w : World} {K : Act → World → Prop} {Q : Exit → Act → World → Prop}
/-- '[]rune(t)' at one operation. -/
theorem wp_runes (x : Operand) (t : ByteArray) (ho : o.op = .convert 9 145 x) (hx : a.eval x = .string t) (ha : Asc t) (hs : t.size ≤ 70368744177664)
    (h : ∀ b cap w1, t.size ≤ cap → Blk w1 b (runeRow t cap) 21 → Fr 0 [] [] w w1 → K (a.put o.dst (.slice (some ⟨b, 0, none⟩) t.size cap)) w1) : o.wp Tryz.prog a w K Q := by
  have hr := conv_runes w t ha hs
  unfold Oper.wp execOp
  simp only [ho, hx, Sem.run_bind, hr, Result.andThen_ok, Sem.run_pure]
  exact h _ _ _ (grownCap_ge _ _ _ _) (Blk.new' rfl _ _) ((Fr.refl _ _ _ _).drew.alloc _)
/-- 'r[i:]' -/
theorem wp_runesFrom (b n cap : Nat) (i : Int) (x y : Operand) (ho : o.op = .slice 145 x (some y) none none) (hx : a.eval x = .slice (some ⟨b, 0, none⟩) n cap) (hy : a.eval y = .int .i64 i) (h0 : 0 ≤ i) (hi : i ≤ n)
    (h : K (a.put o.dst (runeSl b i.toNat n cap)) w) : o.wp Tryz.prog a w K Q := by
  have hr : (Instr.sliceAt 145 (.slice (some ⟨b, 0, none⟩) n cap) (some (.int .i64 i)) none none).run Tryz.prog w = .ok (runeSl b i.toNat n cap) w := by
    rw [run_sliceAt_slice (P := Tryz.prog) (t := 145) (h := under145), run_slice_l (P := Tryz.prog) (t := 145) (ht := under145) (h0 := h0) (h1 := hi)]
    rw [elem145, size21]
    simp only [Result.andThen_ok, sliced_sl]
  unfold Oper.wp execOp
  simp only [ho, hx, hy, Sem.run_bind, Option.map_some, Option.map_none, hr, Result.andThen_ok, Sem.run_pure]
  exact h
/-- 'r[:j]' -/
theorem wp_runesTo (b n cap : Nat) (j : Int) (x y : Operand) (ho : o.op = .slice 145 x none (some y) none) (hx : a.eval x = .slice (some ⟨b, 0, none⟩) n cap) (hy : a.eval y = .int .i64 j) (h0 : 0 ≤ j) (hj : j ≤ cap)
    (h : K (a.put o.dst (runeSl b 0 j.toNat cap)) w) : o.wp Tryz.prog a w K Q := by
  have hr : (Instr.sliceAt 145 (.slice (some ⟨b, 0, none⟩) n cap) none (some (.int .i64 j)) none).run Tryz.prog w = .ok (runeSl b 0 j.toNat cap) w := by
    rw [run_sliceAt_slice (P := Tryz.prog) (t := 145) (h := under145), run_slice_h (P := Tryz.prog) (t := 145) (ht := under145) (h0 := h0) (h2 := hj)]
    rw [elem145, size21]
    simp only [Result.andThen_ok, sliced_sl]
  unfold Oper.wp execOp
  simp only [ho, hx, hy, Sem.run_bind, Option.map_some, Option.map_none, hr, Result.andThen_ok, Sem.run_pure]
  exact h
/-- 'r[i:j]' -/
theorem wp_runesMid (b n cap : Nat) (i j : Int) (x y z : Operand) (ho : o.op = .slice 145 x (some y) (some z) none) (hx : a.eval x = .slice (some ⟨b, 0, none⟩) n cap) (hy : a.eval y = .int .i64 i) (hz : a.eval z = .int .i64 j) (h0 : 0 ≤ i) (hij : i ≤ j) (hj : j ≤ cap)
    (h : K (a.put o.dst (runeSl b i.toNat j.toNat cap)) w) : o.wp Tryz.prog a w K Q := by
  have hr : (Instr.sliceAt 145 (.slice (some ⟨b, 0, none⟩) n cap) (some (.int .i64 i)) (some (.int .i64 j)) none).run Tryz.prog w = .ok (runeSl b i.toNat j.toNat cap) w := by
    rw [run_sliceAt_slice (P := Tryz.prog) (t := 145) (h := under145), run_slice_lh (P := Tryz.prog) (t := 145) (ht := under145) (h0 := h0) (h1 := hij) (h2 := hj)]
    rw [elem145, size21]
    simp only [Result.andThen_ok, sliced_sl]
  unfold Oper.wp execOp
  simp only [ho, hx, hy, hz, Sem.run_bind, Option.map_some, Option.map_none, hr, Result.andThen_ok, Sem.run_pure]
  exact h
/-- 'string(r[i:j])' -/
theorem wp_textOf (b i j cap : Nat) (x : Operand) (t : ByteArray) (ho : o.op = .convert 145 9 x) (hx : a.eval x = runeSl b i j cap) (hB : Blk w b (runeRow t cap) 21) (ha : Asc t) (hij : i ≤ j) (hj : j ≤ t.size) (hc : t.size ≤ cap)
    (h : K (a.put o.dst (.string (t.extract i j))) w) : o.wp Tryz.prog a w K Q := by
  have hr := conv_sl hB ha i j hij hj hc
  unfold Oper.wp execOp
  simp only [ho, hx, Sem.run_bind, hr, Result.andThen_ok, Sem.run_pure]
  exact h
end

/-- One operation that only reads, from its run. -/
theorem still_of_exec {P : Program} {o : Oper} {a : Act} {w : World} {K : Act → Prop} {v : Value} (h : (execOp a.eval o).run P w = .ok (.value v) w) (hk : K (a.put o.dst v)) : o.still P a w K := by
  unfold Oper.still
  rw [h]
  exact ⟨rfl, hk⟩
theorem wpStill_ex {P : Program} {ops : Array Oper} {o : Oper} {rest : List Oper} {a : Act} {w : World} {K : Act → Prop} {v : Value} (hg : o.guard = none) (h : (execOp a.eval o).run P w = .ok (.value v) w) (hk : wpStill P ops w K rest (a.put o.dst v)) : wpStill P ops w K (o :: rest) a :=
  wpStill_step fun K' hK => by
    rw [if_pos (by simp [Region.wanted, hg])]
    exact still_of_exec h (hK _ hk)
section
variable {o : Oper} {a : Act} {w : World}
theorem ex_runesFrom {b n cap : Nat} {i : Int} {x y : Operand} (ho : o.op = .slice 145 x (some y) none none) (hx : a.eval x = .slice (some ⟨b, 0, none⟩) n cap) (hy : a.eval y = .int .i64 i) (h0 : 0 ≤ i) (hi : i ≤ n) :
    (execOp a.eval o).run Tryz.prog w = .ok (.value (runeSl b i.toNat n cap)) w := by
  have hr : (Instr.sliceAt 145 (.slice (some ⟨b, 0, none⟩) n cap) (some (.int .i64 i)) none none).run Tryz.prog w = .ok (runeSl b i.toNat n cap) w := by
    rw [run_sliceAt_slice (P := Tryz.prog) (t := 145) (h := under145), run_slice_l (P := Tryz.prog) (t := 145) (ht := under145) (h0 := h0) (h1 := hi)]
    rw [elem145, size21]
    simp only [Result.andThen_ok, sliced_sl]
  unfold execOp
  simp only [ho, hx, hy, Sem.run_bind, Option.map_some, Option.map_none, hr, Result.andThen_ok, Sem.run_pure]
theorem ex_runesTo {b n cap : Nat} {j : Int} {x y : Operand} (ho : o.op = .slice 145 x none (some y) none) (hx : a.eval x = .slice (some ⟨b, 0, none⟩) n cap) (hy : a.eval y = .int .i64 j) (h0 : 0 ≤ j) (hj : j ≤ cap) :
    (execOp a.eval o).run Tryz.prog w = .ok (.value (runeSl b 0 j.toNat cap)) w := by
  have hr : (Instr.sliceAt 145 (.slice (some ⟨b, 0, none⟩) n cap) none (some (.int .i64 j)) none).run Tryz.prog w = .ok (runeSl b 0 j.toNat cap) w := by
    rw [run_sliceAt_slice (P := Tryz.prog) (t := 145) (h := under145), run_slice_h (P := Tryz.prog) (t := 145) (ht := under145) (h0 := h0) (h2 := hj)]
    rw [elem145, size21]
    simp only [Result.andThen_ok, sliced_sl]
  unfold execOp
  simp only [ho, hx, hy, Sem.run_bind, Option.map_some, Option.map_none, hr, Result.andThen_ok, Sem.run_pure]
theorem ex_textOf {b i j cap : Nat} {x : Operand} {t : ByteArray} (ho : o.op = .convert 145 9 x) (hx : a.eval x = runeSl b i j cap) (hB : Blk w b (runeRow t cap) 21) (ha : Asc t) (hij : i ≤ j) (hj : j ≤ t.size) (hc : t.size ≤ cap) :
    (execOp a.eval o).run Tryz.prog w = .ok (.value (.string (t.extract i j))) w := by
  have hr := conv_sl hB ha i j hij hj hc
  unfold execOp
  simp only [ho, hx, Sem.run_bind, hr, Result.andThen_ok, Sem.run_pure]
theorem ex_add {x y : Operand} {ty : TypeId} {u v : ByteArray} (ho : o.op = .binOp .add 9 x y ty) (hx : a.eval x = .string u) (hy : a.eval y = .string v) (hs : u.size + v.size ≤ 9223372036854775807) :
    (execOp a.eval o).run Tryz.prog w = .ok (.value (.string (u ++ v))) w := by
  have hr := run_string_add_sum (P := Tryz.prog) (w := w) u v hs
  unfold execOp
  simp only [ho, hx, hy, binOp]
  simp [go_sem, hr]
end
theorem wp_of_exec {P : Program} {o : Oper} {a : Act} {w : World} {K : Act → World → Prop} {Q : Exit → Act → World → Prop} {v : Value} (h : (execOp a.eval o).run P w = .ok (.value v) w) (hk : K (a.put o.dst v) w) : o.wp P a w K Q := by
  unfold Oper.wp
  rw [h]
  exact hk

theorem Fr.any {ts bs : List Nat} {w w1 : World} {base base' : Nat} (h : Fr base [] [] w w1) : Fr base' ts bs w w1 :=
  ⟨h.os, h.tape, h.output, h.size, fun k hk _ => h.keep k hk (.inr ⟨by simp, by simp⟩)⟩
end Go.Proofs.YtiepopbmbgfhkaaGreat
