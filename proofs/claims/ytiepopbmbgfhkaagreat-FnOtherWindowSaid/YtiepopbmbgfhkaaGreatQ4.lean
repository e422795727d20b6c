/-
  The writer: bytes that are appended. Only how many is followed.
  The writer's functions.
-/
import Derived.Test.YtiepopbmbgfhkaaGreatQ3
import Derived.Maps.AppendAt
import Derived.Laws.IdiomStrings
namespace Go.Proofs.YtiepopbmbgfhkaaGreat
open Go.RowKit
set_option maxHeartbeats 1000000
set_option maxRecDepth 20000
set_option linter.unusedVariables false
set_option linter.unusedSimpArgs false

/-- The cells of bytes. -/
def bv (l : List UInt8) : List Value := l.map fun b => .int .u8 (b.toNat : Int)
theorem bv_length (l : List UInt8) : (bv l).length = l.length := by simp [bv]
theorem bv_append (l m : List UInt8) : bv (l ++ m) = bv l ++ bv m := by simp [bv]

/-- A slice of bytes that can be read. -/
def Dat (w : World) (u : Value) (l : List UInt8) : Prop := ∃ a c, u = .slice (some a) l.length c ∧ ∀ j b, l[j]? = some b → w.cell? (a.add j) = some (.int .u8 (b.toNat : Int))
/-- A slice of bytes that the call owns. -/
def Bys (base : Nat) (w : World) (v : Value) (l : List UInt8) : Prop := w.ownsRow base 5 1 v l.length (bv l)

theorem Dat.ext {w w1 : World} {u : Value} {l : List UInt8} {base : Nat} (h : Dat w u l) (hF : Fr base [] [] w w1) : Dat w1 u l := by
  obtain ⟨a, c, h1, h2⟩ := h
  exact ⟨a, c, h1, fun j b hj => hF.cell0 (h2 j b hj)⟩
theorem Dat.drew {w : World} {u : Value} {l : List UInt8} (h : Dat w u l) : Dat w.drew u l := h
/-- New bytes, out of a block. -/
theorem add_at (b j : Nat) : (⟨b, 0, none⟩ : Addr).add j = ⟨b, j, none⟩ := by unfold Addr.add; split <;> simp_all
theorem Dat.of_blk {w : World} {b : Nat} (l : List UInt8) (c : Nat) (hb : Blk w b (bv l).toArray 5) : Dat w (.slice (some ⟨b, 0, none⟩) l.length c) l := by
  refine ⟨_, c, rfl, fun j x hj => ?_⟩
  rw [add_at, hb.cell]
  simp [bv, hj]

theorem info_of {t : TypeId} {z : Option Value} {s b : Nat} (h : (Tryz.prog.info? t).map (fun i => (i.zero, i.size, i.bytes)) = some (z, s, b)) : ∃ i, Tryz.prog.info? t = some i ∧ i.zero = z ∧ i.size = s ∧ i.bytes = b := by
  cases hi : Tryz.prog.info? t with
  | none => rw [hi] at h; cases h
  | some i => rw [hi] at h; simp only [Option.map_some, Option.some.injEq, Prod.mk.injEq] at h; exact ⟨i, rfl, h.1, h.2.1, h.2.2⟩
theorem info5 : ∃ i, Tryz.prog.info? 5 = some i ∧ i.zero = some (.int .u8 0) ∧ i.size = 1 ∧ i.bytes = 1 := info_of (by kernel_rfl)

/-- What an append leaves alone, and where the new slice lies. -/
def Grew (w w' : World) (v v' : Value) : Prop := (∀ k, k < w.heap.size → v.ownBlock ≠ some k → w'.heap[k]? = w.heap[k]?) ∧ (v'.ownBlock = v.ownBlock ∨ v'.ownBlock = some w.heap.size)

theorem run_app {base : Nat} {w : World} {v u : Value} {l m : List UInt8} (hr : Bys base w v l) (hd : Dat w u m) (hlen : l.length + m.length ≤ 100000000000) (hb : base ≤ w.heap.size) (ty : TypeId) :
    ∃ v' w', (Builtin.append_ #[53, 53] ty #[v, u]).run Tryz.prog w = .ok v' w' ∧ Bys base w' v' (l ++ m) ∧ Fr base [5] [] w w' ∧ Grew w w' v v' := by
  obtain ⟨a, c, rfl, hc⟩ := hd
  obtain ⟨i, h1, h2, h3, h4⟩ := info5
  obtain ⟨v', w', hrun, hown, hg, -, hat⟩ := run_append_own_at (P := Tryz.prog) w base 53 ty 5 i (.int .u8 0) 1 1 (by kernel_rfl) h1 h2 h3 h4 rfl (by decide) v l.length (bv l) hr
    a m.length c (bv m) (by simp [bv]) (fun j x hj => by
      simp only [bv, List.getElem?_map] at hj
      cases hm : m[j]? with
      | none => rw [hm] at hj; cases hj
      | some b => rw [hm] at hj; simp only [Option.map_some, Option.some.injEq] at hj; subst hj; exact hc j b hm)
    (fun x hx => by simp only [bv, List.mem_map] at hx; obtain ⟨b, -, rfl⟩ := hx; rfl) (by simp only [maxLen]; omega) (by omega) hb
  refine ⟨v', w', hrun, ?_, ?_, fun k hk hne => hg.block k hk (fun e => hne e.symm), hat⟩
  · unfold Bys; rw [bv_append, List.length_append]; exact hown
  · exact (Fr.refl base [5] [] w).grown hg fun k hk => by
      obtain ⟨h5, cs, h6⟩ := row_blk hr k hk
      exact ⟨h5, .inr (.inr ⟨cs, 5, h6, by simp⟩)⟩

theorem Bys.form {base : Nat} {w : World} {v : Value} {l : List UInt8} (h : Bys base w v l) : ∃ p k c, v = .slice p k c := by
  obtain ⟨h1, ⟨rfl, h2⟩ | ⟨g, cap, cur, rfl, hb, hg, hn, hcap, hsz, ht⟩⟩ := h
  · exact ⟨_, _, _, rfl⟩
  · exact ⟨_, _, _, rfl⟩
section
variable {o : Oper} {a : Act} {w : World} {K : Act → World → Prop} {Q : Exit → Act → World → Prop}
theorem wp_app {base : Nat} {v u : Value} {l m : List UInt8} (s x : Operand) (ho : o.op = .call { callee := .builtin .append, args := #[s, x], argTypes := #[53, 53] })
    (hs : a.eval s = v) (hx : a.eval x = u) (hr : Bys base w v l) (hd : Dat w u m) (hlen : l.length + m.length ≤ 100000000000) (hb : base ≤ w.heap.size)
    (h : ∀ p k c w', Bys base w' (.slice p k c) (l ++ m) → Fr base [5] [] w w' → Grew w w' v (.slice p k c) → K (a.put o.dst (.slice p k c)) w') : o.wp Tryz.prog a w K Q := by
  obtain ⟨v', w', hrun, h2, h3, h4⟩ := run_app hr hd hlen hb o.type
  obtain ⟨p, k, c, rfl⟩ := h2.form
  unfold Oper.wp execOp
  simp only [ho, resolve, invoke, builtin, Sem.run_bind, Sem.run_pure, Result.andThen_ok, List.map_toArray, List.map_cons, List.map_nil, hs, hx, hrun]
  exact h p k c w' h2 h3 h4

/-- '[]byte(s)' -/
theorem wp_bytes (x : Operand) (t : ByteArray) (ho : o.op = .convert 9 53 x) (hx : a.eval x = .string t)
    (h : ∀ u w1, Dat w1 u t.data.toList → Fr 0 [] [] w w1 → K (a.put o.dst u) w1) : o.wp Tryz.prog a w K Q := by
  have hr := run_bytes_of_string (P := Tryz.prog) w 9 53 5 t (by kernel_rfl) (by kernel_rfl) (by kernel_rfl)
  unfold Oper.wp execOp
  simp only [ho, hx, Sem.run_bind, hr, Result.andThen_ok, Sem.run_pure]
  refine h _ _ ⟨_, _, rfl, fun j b hj => ?_⟩ ((Fr.refl _ _ _ _).drew.alloc _)
  have hj' : j < t.data.size := by have := (List.getElem?_eq_some_iff.1 hj).1; simpa using this
  rw [add_at]
  show (w.drew.alloc _).cell? ⟨w.drew.heap.size, j, none⟩ = _
  rw [World.cell?_alloc_mark]
  unfold bytesRow
  rw [Array.getElem?_append_left (by simpa using hj')]
  simp only [Array.getElem?_map]
  simp only [Array.getElem?_toList] at hj
  rw [hj]; rfl

/-- 'string(b)' -/
theorem run_string {w : World} {u : Value} {l : List UInt8} (h : Dat w u l) : (convert 53 9 u).run Tryz.prog w = .ok (.string ⟨l.toArray⟩) w := by
  obtain ⟨ad, c, rfl, h2⟩ := h
  exact run_convert_bytes_back (P := Tryz.prog) w 53 9 5 ad c l (by kernel_rfl) (by kernel_rfl) (by kernel_rfl) fun j hj => h2 j _ (List.getElem?_eq_getElem hj)
theorem ex_string {x : Operand} {u : Value} {l : List UInt8} (ho : o.op = .convert 53 9 x) (hx : a.eval x = u) (hd : Dat w u l) :
    (execOp a.eval o).run Tryz.prog w = .ok (.value (.string ⟨l.toArray⟩)) w := by
  have hr := run_string hd
  unfold execOp
  simp only [ho, hx, Sem.run_bind, hr, Result.andThen_ok, Sem.run_pure]
end

/-- A row that the call owns can be read. -/
theorem Bys.dat {base : Nat} {w : World} {v : Value} {l : List UInt8} (h : Bys base w v l) (h0 : l ≠ []) : Dat w v l := by
  obtain ⟨h1, ⟨rfl, h2⟩ | ⟨g, cap, cur, rfl, hb, hg, hn, hcap, hsz, ht⟩⟩ := h
  · exact absurd (List.length_eq_zero_iff.1 h2) h0
  · refine ⟨_, cap, rfl, fun j b hj => ?_⟩
    have hB : Blk w g cur 5 := hg
    rw [add_at, hB.cell]
    have hj' : j < l.length := (List.getElem?_eq_some_iff.1 hj).1
    have : (bv l)[j]? = some (.int .u8 (b.toNat : Int)) := by simp [bv, hj]
    rw [← ht, List.getElem?_take, if_pos (by omega)] at this
    simpa using this
theorem Bys.nil (base : Nat) (w : World) : Bys base w (.slice none 0 0) [] := ⟨rfl, .inl ⟨rfl, rfl⟩⟩
theorem run_string_row {base : Nat} {w : World} {v : Value} {l : List UInt8} (h : Bys base w v l) : (convert 53 9 v).run Tryz.prog w = .ok (.string ⟨l.toArray⟩) w := by
  by_cases h0 : l = []
  · subst h0
    obtain ⟨h1, ⟨rfl, h2⟩ | ⟨g, cap, cur, rfl, hb, hg, hn, hcap, hsz, ht⟩⟩ := h
    · exact run_convert_bytes_nil (P := Tryz.prog) w 53 5 (by kernel_rfl) (by kernel_rfl) 0 0 9 (by kernel_rfl)
    · exact run_convert_bytes_back (P := Tryz.prog) w 53 9 5 ⟨g, 0, none⟩ cap [] (by kernel_rfl) (by kernel_rfl) (by kernel_rfl) fun j hj => absurd hj (by simp)
  · exact run_string (h.dat h0)

/-- The third cell of the table of powers is some number. -/
def Tab (w : World) : Prop := ∃ c : Int, w.cell? ⟨1, 2, none⟩ = some (.int .u64 c)
theorem Fr.tab {base : Nat} {ts bs : List Nat} {w w1 : World} (hF : Fr base ts bs w w1) (h1 : 1 < base ∨ ts = [] ∧ bs = []) (h : Tab w) : Tab w1 := by
  obtain ⟨c, h⟩ := h
  have hlt := World.block_lt_of_cell? w _ h
  refine ⟨c, ?_⟩
  rw [World.cell?_of_block (w := w) (hF.keep 1 hlt (by rcases h1 with h1 | ⟨rfl, rfl⟩; exact .inl h1; exact .inr ⟨by simp, by simp⟩))]
  exact h

/-- The writer at o has written at most n bytes. -/
def Wr (base : Nat) (w : World) (o n : Nat) : Prop := 1 < base ∧ base ≤ o ∧ Tab w ∧ ∃ v l, Blk w o #[v] 143 ∧ Bys base w v l ∧ l.length ≤ n

theorem Wr.le {base : Nat} {w : World} {o n m : Nat} (h : Wr base w o n) (hm : n ≤ m) : Wr base w o m := by
  obtain ⟨h0, h1, ht, v, l, h2, h3, h4⟩ := h
  exact ⟨h0, h1, ht, v, l, h2, h3, by omega⟩
theorem Wr.lt {base : Nat} {w : World} {o n : Nat} (h : Wr base w o n) : o < w.heap.size ∧ base ≤ o ∧ 1 < base := by
  obtain ⟨h0, h1, ht, v, l, h2, h3, h4⟩ := h
  exact ⟨h2.lt, h1, h0⟩
theorem Fr.bys {base base' : Nat} {ts bs : List Nat} {w w1 : World} {v : Value} {l : List UInt8} (hF : Fr base' ts bs w w1) (h : Bys base w v l) (h5 : 5 ∉ ts) (hb : ∀ b ∈ bs, ∃ cs t, Blk w b cs t ∧ t ≠ 5) : Bys base w1 v l := by
  refine hF.row h fun g hg => .inr ⟨fun hm => ?_, h5⟩
  obtain ⟨cs, t, h1, h2⟩ := hb g hm
  obtain ⟨-, cs', h3⟩ := row_blk h g hg
  exact h2 (h1.inj h3).2
theorem Fr.wr {base : Nat} {ts bs : List Nat} {w w1 : World} {o n : Nat} (hF : Fr base ts bs w w1) (h : Wr base w o n) (h5 : 5 ∉ ts) (h143 : 143 ∉ ts) (hb : ∀ b ∈ bs, ∃ cs t, Blk w b cs t ∧ t ≠ 5 ∧ t ≠ 143) : Wr base w1 o n := by
  obtain ⟨h0, h1, ht, v, l, h2, h3, h4⟩ := h
  refine ⟨h0, h1, hF.tab (.inl h0) ht, v, l, hF.blk h2 (.inr ⟨fun hm => ?_, h143⟩), hF.bys h3 h5 fun b hm => ?_, h4⟩
  · obtain ⟨cs, t, h6, h7, h8⟩ := hb o hm
    exact h8 (h6.inj h2).2
  · obtain ⟨cs, t, h6, h7, h8⟩ := hb b hm
    exact ⟨cs, t, h6, h7⟩
theorem Fr.wr0 {base base' : Nat} {w w1 : World} {o n : Nat} (hF : Fr base' [] [] w w1) (h : Wr base w o n) : Wr base w1 o n := by
  obtain ⟨h0, h1, ht, v, l, h2, h3, h4⟩ := h
  exact ⟨h0, h1, hF.tab (.inr ⟨rfl, rfl⟩) ht, v, l, hF.blk0 h2, hF.bys h3 (by simp) (by simp), h4⟩

/-- What a function that writes leaves. -/
def Wrote (base o n : Nat) (w : World) (e : Ending) (w' : World) : Prop := e = .returned (.tuple #[]) ∧ Wr base w' o n ∧ Fr base [5, 143] [] w w'

/-- The row of bytes of the writer at o lies in block k. -/
def RowOf (w : World) (o k : Nat) : Prop := ∃ v, w.cell? ⟨o, 0, none⟩ = some v ∧ v.ownBlock = some k
/-- Blocks other than the writer's own are as they were. -/
def Keeps (o : Nat) (w w' : World) : Prop := w.heap.size ≤ w'.heap.size ∧ ∀ k, k < w.heap.size → k ≠ o → ¬ RowOf w o k → w'.heap[k]? = w.heap[k]? ∧ ¬ RowOf w' o k
theorem Keeps.trans {o : Nat} {w w1 w2 : World} (h : Keeps o w w1) (k : Keeps o w1 w2) : Keeps o w w2 :=
  ⟨Nat.le_trans h.1 k.1, fun i hi hne hr => by
    obtain ⟨h1, h2⟩ := h.2 i hi hne hr
    obtain ⟨h3, h4⟩ := k.2 i (Nat.lt_of_lt_of_le hi h.1) hne h2
    exact ⟨h3.trans h1, h4⟩⟩
theorem Keeps.fr {o base : Nat} {w w1 : World} (hF : Fr base [] [] w w1) (ho : o < w.heap.size) : Keeps o w w1 :=
  ⟨hF.size, fun k hk _ hr => ⟨hF.keep k hk (.inr ⟨by simp, by simp⟩), fun ⟨v, h1, h2⟩ => hr ⟨v, by rw [← World.cell?_of_block (w := w) (hF.keep o ho (.inr ⟨by simp, by simp⟩))]; exact h1, h2⟩⟩⟩

theorem writeRaw_k {base : Nat} {w : World} {o n : Nat} {u : Value} {m : List UInt8} (h : Wr base w o n) (hd : Dat w u m) (hn : n + m.length ≤ 10000000000) :
    Calls Tryz.prog 254 #[.pointer (some ⟨o, 0, none⟩), u] w fun e w' => Wrote base o (n + m.length) w e w' ∧ Keeps o w w' := by
  obtain ⟨h0, h1, ht, v, l, h2, h3, h4⟩ := h
  obtain ⟨c0, -⟩ := h2.c1
  have hlt := h2.lt
  go_enter Tryz.func254, Tryz.ntmps254
  go_wp2_with (first | (refine wpList_plain rfl (fun K hK => ?_); refine wp_app _ _ rfl rfl rfl h3 hd (by omega) (by omega) ?_; intro pp pk pc w1 hB hF hG; refine hK _ _ ?_; clear hK K; have g2 := hF.blk h2 (.inr ⟨by simp, by simp⟩); obtain ⟨d0, df⟩ := g2.c1; have glt := g2.lt))
  go_end0
  have hF' : Fr base [5, 143] [] w w1 := hF.mono (by simp) (by simp)
  have hF2 := hF'.setCell (a := ⟨o, 0, none⟩) h1 (.inr (.inr ⟨_, _, g2, by simp⟩)) (.slice pp pk pc)
  refine ⟨⟨rfl, ⟨h0, h1, hF2.tab (.inl h0) ht, _, l ++ m, g2.set 0 _, ?_, by simp; omega⟩, hF2⟩, hF2.size, fun k hk hne hr => ?_⟩
  · exact ((Fr.refl 0 [] [o] w1).setCell (a := ⟨o, 0, none⟩) (Nat.zero_le _) (.inl (by simp)) _).bys hB (by simp) fun b hb => by
      simp only [List.mem_singleton] at hb; subst hb; exact ⟨_, _, g2, by decide⟩
  · have hvk : v.ownBlock ≠ some k := fun e => hr ⟨v, c0, e⟩
    refine ⟨?_, fun ⟨x, hx, hxk⟩ => ?_⟩
    · rw [← hG.1 k hk hvk]
      exact Below.heap_setCell _ _ _ _ hne
    · have := (g2.set 0 (.slice pp pk pc)).cell 0
      rw [this] at hx
      simp at hx
      rw [← hx] at hxk
      rcases hG.2 with e | e
      · rw [e] at hxk; exact hvk hxk
      · rw [e] at hxk; simp at hxk; omega

theorem writeRaw_c {base : Nat} {w : World} {o n : Nat} {u : Value} {m : List UInt8} (h : Wr base w o n) (hd : Dat w u m) (hn : n + m.length ≤ 10000000000) :
    Calls Tryz.prog 254 #[.pointer (some ⟨o, 0, none⟩), u] w (Wrote base o (n + m.length) w) :=
  (writeRaw_k h hd hn).mono fun _ _ h => h.1
end Go.Proofs.YtiepopbmbgfhkaaGreat

namespace Go.Proofs.YtiepopbmbgfhkaaGreat
open Go.RowKit
set_option maxHeartbeats 1000000
set_option maxRecDepth 20000
set_option linter.unusedVariables false
set_option linter.unusedSimpArgs false

theorem Fr.fresh {ts bs : List Nat} {w w1 : World} {base : Nat} (h : Fr w.heap.size ts bs w w1) : Fr base [] [] w w1 :=
  ⟨h.os, h.tape, h.output, h.size, fun k hk _ => h.keep k hk (.inl hk)⟩
theorem Fr.dn {base base' : Nat} {ts bs : List Nat} {w w1 : World} (h : Fr base ts bs w w1) (hb : base' ≤ base) : Fr base' ts bs w w1 := h.base_mono hb

theorem Bys.alloc {base : Nat} {w : World} {v : Value} {l : List UInt8} (h : Bys base w v l) (o : Obj) : Bys base (w.alloc o) v l := ((Fr.refl 0 [] [] w).alloc o).bys h (by simp) (by simp)
theorem Bys.drew {base : Nat} {w : World} {v : Value} {l : List UInt8} (h : Bys base w v l) : Bys base w.drew v l := h
theorem getD_take {l : List UInt8} {i : Nat} (h : i < l.length) : l.take i ++ [l[i]] = l.take (i + 1) := by
  rw [List.take_succ_eq_append_getElem h]

theorem replace_c (s : ByteArray) (c : UInt8) (new : ByteArray) (hs : s.size ≤ 1000000000) (hno : ∀ i (h : i < s.size), s[i] ≠ c) (w : World) :
    Calls Tryz.prog 183 #[.string s, .string ⟨#[c]⟩, .string new] w fun e w' => e = .returned (.string s) ∧ Fr 0 [] [] w w' := by
  go_enter Tryz.func183, Tryz.ntmps183
  go_wp2
  go_loopw [7, 8] (fun v7 v8 w' => ∃ i : Nat, i ≤ s.size ∧ v8 = .int .i64 i ∧ Bys w.heap.size w' v7 (s.data.toList.take i) ∧ Fr w.heap.size [5] [] w w') (fun _ v8 _ => s.size - (intOf v8).toNat)
  case atStart => exact ⟨0, by omega, rfl, Bys.nil _ _, Fr.refl _ _ _ _⟩
  case round =>
    obtain ⟨i, hi, rfl, hB, hF⟩ := hrel
    obtain ⟨p, k, cc, rfl⟩ := hB.form
    have hsz := hF.size
    by_cases hlt : i < s.size
    · have hne : ((s.extract i (i + 1)).toList == [c]) = false := by
        have : (⟨#[c]⟩ : ByteArray).toList = [c] := by rw [ByteArray.toList_eq]
        rw [← this]
        refine str_ne fun e => hno i hlt ?_
        have e2 := congrArg (fun b : ByteArray => b.data.getD 0 0) e
        simp only [ByteArray.data_extract] at e2
        have h' : i < s.data.size := hlt
        have e3 : (s.data.extract i (i + 1)).getD 0 0 = s.data[i] := by
          rw [Array.getD_eq_getD_getElem?, Array.getElem?_extract]
          simp [h', show i < s.size from hlt]
          split
          · rfl
          · omega
        rw [e3] at e2
        exact e2
      go_wp2_with (first | (refine wpList_plain rfl (fun K hK => ?_); refine wp_app _ _ rfl rfl rfl (hB.alloc _) (Dat.of_blk [s[i]] 1 (Blk.new' rfl _ _)) (by simp; omega) (by simp; omega) ?_; intro pp pk pc w1 hB1 hF1 hG1; refine hK _ _ ?_; clear hK K))
      go_roundw
      case rel =>
        refine ⟨i + 1, by omega, by simp, ?_, (hF.alloc _).into hF1 (by simp) (by simp)⟩
        have e : s.data.toList.take (i + 1) = s.data.toList.take i ++ [s[i]] := by
          rw [← getD_take (by simpa using hlt)]
          simp
          rfl
        rw [e]; exact hB1
      case measure => simp [intOf]; omega
    · have e : i = s.size := by omega
      subst e
      have hr := run_string_row hB
      rw [List.take_of_length_le (by simp)] at hr
      have hl : (s.data.toList.take s.size) = s.data.toList := List.take_of_length_le (by simp)
      go_wp2_with (fail)
      go_ret
      exact ⟨rfl, hF.fresh⟩

theorem Wr.alloc {base : Nat} {w : World} {o n : Nat} (h : Wr base w o n) (x : Obj) : Wr base (w.alloc x) o n := ((Fr.refl 0 [] [] w).alloc x).wr0 h
theorem Wr.drew {base : Nat} {w : World} {o n : Nat} (h : Wr base w o n) : Wr base w.drew o n := h
theorem Wr.drewN {base : Nat} {w : World} {o n : Nat} (h : Wr base w o n) (k : Nat) : Wr base (w.drewN k) o n := h

/-- No escape sign is in a text. -/
def NoEsc (t : ByteArray) : Prop := ∀ i (h : i < t.size), t[i] ≠ 27
theorem Prn.noEsc {t : ByteArray} (h : Prn t) : NoEsc t := fun i hi e => by
  have := (h i hi).1
  rw [e] at this
  simp at this

theorem dat_string (t : ByteArray) : (⟨t.data.toList.toArray⟩ : ByteArray) = t := by
  apply ByteArray.ext; simp

theorem write_c {base : Nat} {w : World} {o n : Nat} {u : Value} {t : ByteArray} (h : Wr base w o n) (hd : Dat w u t.data.toList) (hno : NoEsc t) (hn : n + t.size ≤ 1000000000) :
    Calls Tryz.prog 253 #[.pointer (some ⟨o, 0, none⟩), u] w (Wrote base o (n + t.size) w) := by
  have hr := run_string hd
  rw [dat_string] at hr
  obtain ⟨a, c, rfl, -⟩ := hd
  rw [show t.data.toList.length = t.size by simp] at hr ⊢
  have hlt := h.lt
  go_enter Tryz.func253, Tryz.ntmps253
  go_wp2_with (fail)
  refine (replace_c t 27 ⟨#[63]⟩ (by omega) hno w).mono ?_
  rintro e w1 ⟨rfl, hF⟩
  have h1 := hF.wr0 h
  go_wp2_with (first | (refine wpList_plain rfl (fun K hK => ?_); refine wp_bytes _ t rfl rfl ?_; intro u2 w2 hD2 hF2; refine hK _ _ ?_; clear hK K))
  have h2 := hF2.wr0 h1
  refine (writeRaw_c h2 hD2 (by simp; omega)).mono ?_
  rintro e w3 ⟨rfl, h3, hF3⟩
  go_wp2
  go_end0
  rw [show t.data.toList.length = t.size by simp] at h3
  exact ⟨rfl, h3, (((Fr.refl _ _ _ _).ext hF).ext hF2).into hF3 (by simp) (by simp)⟩

theorem writeStr_c {base : Nat} {w : World} {o n : Nat} {t : ByteArray} (h : Wr base w o n) (hno : NoEsc t) (hn : n + t.size ≤ 1000000000) :
    Calls Tryz.prog 256 #[.pointer (some ⟨o, 0, none⟩), .string t] w (Wrote base o (n + t.size) w) := by
  go_enter Tryz.func256, Tryz.ntmps256
  go_wp2_with (first | (refine wpList_plain rfl (fun K hK => ?_); refine wp_bytes _ t rfl rfl ?_; intro u2 w2 hD2 hF2; refine hK _ _ ?_; clear hK K))
  have h2 := hF2.wr0 h
  refine (write_c h2 hD2 hno hn).mono ?_
  rintro e w3 ⟨rfl, h3, hF3⟩
  go_wp2
  go_end0
  exact ⟨rfl, h3, ((Fr.refl _ _ _ _).ext hF2).into hF3 (by simp) (by simp)⟩

theorem eraseDown_c {base : Nat} {w : World} {o n : Nat} (h : Wr base w o n) (hn : n + 12 ≤ 1000000000) :
    Calls Tryz.prog 239 #[.pointer (some ⟨o, 0, none⟩)] w (Wrote base o (n + 12) w) := by
  go_enter Tryz.func239, Tryz.ntmps239
  go_wp2_with (fail)
  refine (writeRaw_c (h.alloc _) (Dat.of_blk [27, 91, 74] _ (Blk.new' rfl _ _)) (by simp; omega)).mono ?_
  rintro e w1 ⟨rfl, hW1, hF1⟩
  go_wp2
  go_end0
  exact ⟨rfl, hW1.le (by simp), ((Fr.refl _ _ _ _).alloc _).into hF1 (by simp) (by simp)⟩

theorem hideCursor_c {base : Nat} {w : World} {o n : Nat} (h : Wr base w o n) (hn : n + 12 ≤ 1000000000) :
    Calls Tryz.prog 245 #[.pointer (some ⟨o, 0, none⟩)] w (Wrote base o (n + 12) w) := by
  go_enter Tryz.func245, Tryz.ntmps245
  go_wp2_with (fail)
  refine (writeRaw_c (h.alloc _) (Dat.of_blk [27, 91, 63, 50, 53, 108] _ (Blk.new' rfl _ _)) (by simp; omega)).mono ?_
  rintro e w1 ⟨rfl, hW1, hF1⟩
  go_wp2
  go_end0
  exact ⟨rfl, hW1.le (by simp), ((Fr.refl _ _ _ _).alloc _).into hF1 (by simp) (by simp)⟩

theorem scrollDown_c {base : Nat} {w : World} {o n : Nat} (h : Wr base w o n) (hn : n + 12 ≤ 1000000000) :
    Calls Tryz.prog 247 #[.pointer (some ⟨o, 0, none⟩)] w (Wrote base o (n + 12) w) := by
  go_enter Tryz.func247, Tryz.ntmps247
  go_wp2_with (fail)
  refine (writeRaw_c (h.alloc _) (Dat.of_blk [27, 68] _ (Blk.new' rfl _ _)) (by simp; omega)).mono ?_
  rintro e w1 ⟨rfl, hW1, hF1⟩
  go_wp2
  go_end0
  exact ⟨rfl, hW1.le (by simp), ((Fr.refl _ _ _ _).alloc _).into hF1 (by simp) (by simp)⟩

theorem scrollUp_c {base : Nat} {w : World} {o n : Nat} (h : Wr base w o n) (hn : n + 12 ≤ 1000000000) :
    Calls Tryz.prog 248 #[.pointer (some ⟨o, 0, none⟩)] w (Wrote base o (n + 12) w) := by
  go_enter Tryz.func248, Tryz.ntmps248
  go_wp2_with (fail)
  refine (writeRaw_c (h.alloc _) (Dat.of_blk [27, 77] _ (Blk.new' rfl _ _)) (by simp; omega)).mono ?_
  rintro e w1 ⟨rfl, hW1, hF1⟩
  go_wp2
  go_end0
  exact ⟨rfl, hW1.le (by simp), ((Fr.refl _ _ _ _).alloc _).into hF1 (by simp) (by simp)⟩

theorem showCursor_c {base : Nat} {w : World} {o n : Nat} (h : Wr base w o n) (hn : n + 12 ≤ 1000000000) :
    Calls Tryz.prog 251 #[.pointer (some ⟨o, 0, none⟩)] w (Wrote base o (n + 12) w) := by
  go_enter Tryz.func251, Tryz.ntmps251
  go_wp2_with (fail)
  refine (writeRaw_c (h.alloc _) (Dat.of_blk [27, 91, 63, 49, 50, 108, 27, 91, 63, 50, 53, 104] _ (Blk.new' rfl _ _)) (by simp; omega)).mono ?_
  rintro e w1 ⟨rfl, hW1, hF1⟩
  go_wp2
  go_end0
  exact ⟨rfl, hW1.le (by simp), ((Fr.refl _ _ _ _).alloc _).into hF1 (by simp) (by simp)⟩
end Go.Proofs.YtiepopbmbgfhkaaGreat
