/-
  Blocks of memory that are known whole (Blk), and the frame of a call (Fr): which blocks a call may have changed.
-/
import Derived.Test.YtiepopbmbgfhkaaGreatProg
import Derived.Test.YtiepopbmbgfhkaaGreatA00
import Derived.WalkKit
import Derived.WalkSpells
import Derived.WalkLawsBesides
import Derived.Deep.QuietTactic
import Derived.BigQuiet
import Derived.Deep.RegionHeld3
import Derived.Deep.AppendLies
import Derived.OneCell
import Derived.Lib.Hide
import Derived.BigCall
import Derived.Deep.DrawnRows
namespace Go.Proofs.YtiepopbmbgfhkaaGreat
open Go.RowKit

@[go_sem] theorem alloc_drewN (w : World) (n : Nat) (o : Obj) : (w.drewN n).alloc o = (w.alloc o).drewN n := rfl
@[go_sem] theorem setCell_drewN (w : World) (n : Nat) (a : Addr) (v : Value) : (w.drewN n).setCell a v = (w.setCell a v).drewN n := rfl
@[go_sem] theorem shape_drewN (w : World) (n : Nat) (r : Nat) : (w.drewN n).shape? r = w.shape? r := rfl

theorem hmix : Tryz.prog.follows .mixedOrders = true := by kernel_rfl
theorem wrap_in {x : Int} (h0 : -9223372036854775808 ≤ x) (h1 : x ≤ 9223372036854775807) : IntKind.i64.wrap x = x := IntWalk.i64_in _ (by omega)
theorem str_inj {a b : ByteArray} (h : a.toList = b.toList) : a = b := by
  apply ByteArray.ext
  apply Array.ext'
  rw [← ByteArray.toList_eq, ← ByteArray.toList_eq]
  exact h
theorem str_ne {a b : ByteArray} (h : a ≠ b) : (a.toList == b.toList) = false := by
  rw [beq_eq_false_iff_ne]
  exact fun e => h (str_inj e)
theorem int_ne {a b : Int} (h : a ≠ b) : (a == b) = false ∧ (a != b) = true := by
  refine ⟨?_, ?_⟩ <;> simp [h]
theorem str_empty {a : ByteArray} : a.toList.isEmpty = decide (a.size = 0) := by
  rw [ByteArray.toList_eq]
  cases h : a.data.toList with
  | nil => have : a.size = 0 := by show a.data.size = 0; rw [← Array.length_toList, h]; rfl
           simp [this]
  | cons x l => have : a.size ≠ 0 := by show a.data.size ≠ 0; rw [← Array.length_toList, h]; simp
                simp [this]

/-- Block b is a row of these cells, of this type of elements, and may be written. -/
def Blk (w : World) (b : Nat) (cs : Array Value) (t : TypeId) : Prop := w.heap[b]? = some (.cells cs t (0, 0))

section
variable {w : World} {b : Nat} {cs : Array Value} {t : TypeId}
theorem Blk.cell (h : Blk w b cs t) (i : Nat) : w.cell? ⟨b, i, none⟩ = cs[i]? := by
  unfold Blk at h
  simp [World.cell?, h]
theorem Blk.frozen (h : Blk w b cs t) (i : Nat) : w.frozen? ⟨b, i, none⟩ = false := by
  unfold Blk at h
  simp [World.frozen?, h]
theorem Blk.lt (h : Blk w b cs t) : b < w.heap.size := lt_of_block h
theorem Blk.ne {a : Nat} {ds : Array Value} {s : TypeId} (h : Blk w a ds s) (k : Blk w b cs t) (hst : s ≠ t) : a ≠ b := by
  rintro rfl
  unfold Blk at h k
  rw [h] at k
  simp only [Option.some.injEq, Obj.cells.injEq] at k
  exact hst k.2.1
theorem Blk.set (h : Blk w b cs t) (i : Nat) (v : Value) : Blk (w.setCell ⟨b, i, none⟩ v) b (cs.setIfInBounds i v) t := by
  have hlt := h.lt
  unfold Blk at *
  have h' : w.heap[b] = .cells cs t (0, 0) := by simpa [Array.getElem?_eq_getElem hlt] using h
  show (w.heap.modify b _)[b]? = _
  rw [Array.getElem?_eq_getElem (by simpa using hlt), Array.getElem_modify_self, h']
  rfl
theorem Blk.other (h : Blk w b cs t) {a : Addr} (ha : b ≠ a.block) (v : Value) : Blk (w.setCell a v) b cs t := by
  unfold Blk at *
  rw [Below.heap_setCell _ _ _ _ ha]
  exact h
theorem Blk.alloc (h : Blk w b cs t) (o : Obj) : Blk (w.alloc o) b cs t := by
  have := h.lt
  unfold Blk at *
  rw [Below.heap_alloc _ _ _ this]
  exact h
theorem Blk.new (w : World) (cs : Array Value) (t : TypeId) : Blk (w.alloc (.cells cs t)) w.heap.size cs t := heap_alloc_new w _
theorem Blk.new' {w : World} {n : Nat} (hn : n = w.heap.size) (cs : Array Value) (t : TypeId) : Blk (w.alloc (.cells cs t)) n cs t := by
  subst hn; exact heap_alloc_new w _
theorem Blk.drew (h : Blk w b cs t) : Blk w.drew b cs t := h
theorem Blk.drewN (h : Blk w b cs t) (n : Nat) : Blk (w.drewN n) b cs t := h
theorem Blk.inj {ds : Array Value} {s : TypeId} (h : Blk w b cs t) (k : Blk w b ds s) : cs = ds ∧ t = s := by
  unfold Blk at h k
  rw [h] at k
  simp only [Option.some.injEq, Obj.cells.injEq] at k
  exact ⟨k.1, k.2.1⟩
theorem Blk.c1 {v0 : Value} (h : Blk w b #[v0] t) : w.cell? ⟨b, 0, none⟩ = some v0 ∧ w.frozen? ⟨b, 0, none⟩ = false := ⟨h.cell 0, h.frozen 0⟩
theorem Blk.c2 {v0 v1 : Value} (h : Blk w b #[v0, v1] t) : w.cell? ⟨b, 0, none⟩ = some v0 ∧ w.cell? ⟨b, 1, none⟩ = some v1 ∧ w.frozen? ⟨b, 0, none⟩ = false ∧ w.frozen? ⟨b, 1, none⟩ = false :=
  ⟨h.cell 0, h.cell 1, h.frozen 0, h.frozen 1⟩
theorem Blk.c3 {v0 v1 v2 : Value} (h : Blk w b #[v0, v1, v2] t) : w.cell? ⟨b, 0, none⟩ = some v0 ∧ w.cell? ⟨b, 1, none⟩ = some v1 ∧ w.cell? ⟨b, 2, none⟩ = some v2 ∧ w.frozen? ⟨b, 0, none⟩ = false ∧ w.frozen? ⟨b, 1, none⟩ = false ∧ w.frozen? ⟨b, 2, none⟩ = false :=
  ⟨h.cell 0, h.cell 1, h.cell 2, h.frozen 0, h.frozen 1, h.frozen 2⟩
theorem Blk.c5 {v0 v1 v2 v3 v4 : Value} (h : Blk w b #[v0, v1, v2, v3, v4] t) : w.cell? ⟨b, 0, none⟩ = some v0 ∧ w.cell? ⟨b, 1, none⟩ = some v1 ∧ w.cell? ⟨b, 2, none⟩ = some v2 ∧ w.cell? ⟨b, 3, none⟩ = some v3 ∧ w.cell? ⟨b, 4, none⟩ = some v4 ∧
    w.frozen? ⟨b, 0, none⟩ = false ∧ w.frozen? ⟨b, 1, none⟩ = false ∧ w.frozen? ⟨b, 2, none⟩ = false ∧ w.frozen? ⟨b, 3, none⟩ = false ∧ w.frozen? ⟨b, 4, none⟩ = false :=
  ⟨h.cell 0, h.cell 1, h.cell 2, h.cell 3, h.cell 4, h.frozen 0, h.frozen 1, h.frozen 2, h.frozen 3, h.frozen 4⟩
end

/-- What a call may have changed: of the blocks from 'base' on those in 'bs', and those whose elements are of a type in 'ts'; all others are as they were; there may be new ones. -/
structure Fr (base : Nat) (ts bs : List Nat) (w w' : World) : Prop where
  os : w'.os = w.os
  tape : w'.tape = w.tape
  output : w'.output = w.output
  size : w.heap.size ≤ w'.heap.size
  keep : ∀ k, k < w.heap.size → (k < base ∨ (k ∉ bs ∧ ∀ cs t fr, w.heap[k]? = some (.cells cs t fr) → t ∉ ts)) → w'.heap[k]? = w.heap[k]?

section
variable {base : Nat} {ts bs : List Nat} {w w1 w2 : World}
theorem Fr.refl (base : Nat) (ts bs : List Nat) (w : World) : Fr base ts bs w w := ⟨rfl, rfl, rfl, Nat.le_refl _, fun _ _ _ => rfl⟩
theorem Fr.trans (h : Fr base ts bs w w1) (k : Fr base ts bs w1 w2) : Fr base ts bs w w2 :=
  ⟨k.os.trans h.os, k.tape.trans h.tape, k.output.trans h.output, Nat.le_trans h.size k.size, fun i hi hc => by
    have e := h.keep i hi hc
    rw [← e]
    exact k.keep i (Nat.lt_of_lt_of_le hi h.size) (by rw [e]; exact hc)⟩
theorem Fr.mono {ts' bs' : List Nat} (h : Fr base ts bs w w1) (ht : ts ⊆ ts') (hb : bs ⊆ bs') : Fr base ts' bs' w w1 :=
  ⟨h.os, h.tape, h.output, h.size, fun i hi hc => h.keep i hi (hc.imp id fun ⟨h1, h2⟩ => ⟨fun hm => h1 (hb hm), fun cs t fr e hm => h2 cs t fr e (ht hm)⟩)⟩
theorem Fr.nil {ts' bs' : List Nat} (h : Fr base [] [] w w1) : Fr base ts' bs' w w1 := h.mono (by simp) (by simp)
/-- A block of which nothing was known to the callee's own base. -/
theorem Fr.base_mono {base' : Nat} (h : Fr base ts bs w w1) (hb : base' ≤ base) : Fr base' ts bs w w1 :=
  ⟨h.os, h.tape, h.output, h.size, fun i hi hc => h.keep i hi (hc.imp (fun h => Nat.lt_of_lt_of_le h hb) id)⟩
/-- A second call behind the first: what it may change is borne by the first's lists, or is new, or is of a type that may be changed. -/
theorem Fr.step {ts' bs' : List Nat} (h : Fr base ts bs w w1) (k : Fr base ts' bs' w1 w2) (ht : ts' ⊆ ts) (hb : ∀ b, b ∈ bs' → b ∈ bs ∨ w.heap.size ≤ b ∨ ∃ cs t, Blk w1 b cs t ∧ t ∈ ts) : Fr base ts bs w w2 :=
  ⟨k.os.trans h.os, k.tape.trans h.tape, k.output.trans h.output, Nat.le_trans h.size k.size, fun i hi hc => by
    have e := h.keep i hi hc
    rw [← e]
    refine k.keep i (Nat.lt_of_lt_of_le hi h.size) ?_
    rcases hc with hc | ⟨h1, h2⟩
    · exact .inl hc
    · refine .inr ⟨fun hm => ?_, fun cs t fr he hm => h2 cs t fr (e ▸ he) (ht hm)⟩
      rcases hb i hm with h3 | h3 | ⟨cs, t, hblk, h3⟩
      · exact h1 h3
      · omega
      · exact h2 cs t (0, 0) (e ▸ hblk) h3⟩
theorem Fr.step0 (h : Fr base ts bs w w1) (k : Fr base [] [] w1 w2) : Fr base ts bs w w2 := h.step k (by simp) (by simp)
theorem Fr.ext {base' : Nat} (h : Fr base ts bs w w1) (k : Fr base' [] [] w1 w2) : Fr base ts bs w w2 :=
  h.trans ⟨k.os, k.tape, k.output, k.size, fun i hi _ => k.keep i hi (.inr ⟨by simp, by simp⟩)⟩
theorem Fr.into {ts' bs' : List Nat} (h : Fr base ts bs w w1) (k : Fr base ts' bs' w1 w2) (ht : ts' ⊆ ts) (hb : bs' ⊆ bs) : Fr base ts bs w w2 := h.trans (k.mono ht hb)
theorem Fr.drew (h : Fr base ts bs w w1) : Fr base ts bs w w1.drew := ⟨h.os, h.tape, h.output, h.size, h.keep⟩
theorem Fr.drewN (h : Fr base ts bs w w1) (n : Nat) : Fr base ts bs w (w1.drewN n) := ⟨h.os, h.tape, h.output, h.size, h.keep⟩
theorem Fr.alloc (h : Fr base ts bs w w1) (o : Obj) : Fr base ts bs w (w1.alloc o) :=
  h.trans ⟨rfl, rfl, rfl, by simp, fun k hk _ => Below.heap_alloc _ _ _ hk⟩
theorem Fr.setCell (h : Fr base ts bs w w1) {a : Addr} (hb : base ≤ a.block) (ha : a.block ∈ bs ∨ w.heap.size ≤ a.block ∨ ∃ cs t, Blk w1 a.block cs t ∧ t ∈ ts) (v : Value) : Fr base ts bs w (w1.setCell a v) :=
  ⟨h.os, h.tape, h.output, by simp [World.setCell]; exact h.size, fun k hk hc => by
    have e := h.keep k hk hc
    rw [← e]
    refine Below.heap_setCell _ _ _ _ ?_
    rintro rfl
    rcases hc with hc | ⟨h1, h2⟩
    · omega
    · rcases ha with ha | ha | ⟨cs, t, hblk, ht⟩
      · exact h1 ha
      · omega
      · exact h2 cs t (0, 0) (e ▸ hblk) ht⟩
theorem Fr.grown (h : Fr base ts bs w w1) {row : Option Nat} (hg : w1.grownBy w2 row) (hr : ∀ k, row = some k → base ≤ k ∧ (k ∈ bs ∨ w.heap.size ≤ k ∨ ∃ cs t, Blk w1 k cs t ∧ t ∈ ts)) : Fr base ts bs w w2 :=
  ⟨hg.os.trans h.os, hg.tape.trans h.tape, hg.output.trans h.output, Nat.le_trans h.size hg.size, fun k hk hc => by
    have e := h.keep k hk hc
    rw [← e]
    refine hg.block k (Nat.lt_of_lt_of_le hk h.size) ?_
    intro he
    obtain ⟨h3, h4⟩ := hr k he.symm
    rcases hc with hc | ⟨h1, h2⟩
    · omega
    · rcases h4 with h4 | h4 | ⟨cs, t, hblk, ht⟩
      · exact h1 h4
      · omega
      · exact h2 cs t (0, 0) (e ▸ hblk) ht⟩
theorem Fr.blk {b : Nat} {cs : Array Value} {t : TypeId} (h : Fr base ts bs w w1) (hb : Blk w b cs t) (hn : b < base ∨ (b ∉ bs ∧ t ∉ ts)) : Blk w1 b cs t := by
  have hlt := hb.lt
  unfold Blk at *
  rw [h.keep b hlt (hn.imp id fun ⟨h1, h2⟩ => ⟨h1, fun cs' t' fr' he => by rw [hb] at he; simp only [Option.some.injEq, Obj.cells.injEq] at he; exact he.2.1 ▸ h2⟩)]
  exact hb
/-- Nothing that was there is changed: by allocations and draws alone. -/
theorem Fr.blk0 {b : Nat} {cs : Array Value} {t : TypeId} (h : Fr base [] [] w w1) (hb : Blk w b cs t) : Blk w1 b cs t := h.blk hb (.inr ⟨by simp, by simp⟩)
theorem Fr.cell0 (h : Fr base [] [] w w1) {a : Addr} {v : Value} (ha : w.cell? a = some v) : w1.cell? a = some v := by
  have hlt := World.block_lt_of_cell? w a ha
  rw [World.cell?_of_block (w := w) (h.keep a.block hlt (.inr ⟨by simp, by simp⟩))]
  exact ha
theorem Fr.row {B : Nat} {e : TypeId} {size n : Nat} {v : Value} {xs : List Value} (h : Fr base ts bs w w1) (hr : w.ownsRow B e size v n xs) (hn : ∀ g, v.ownBlock = some g → g < base ∨ (g ∉ bs ∧ e ∉ ts)) : w1.ownsRow B e size v n xs := by
  refine ⟨hr.1, ?_⟩
  rcases hr.2 with h2 | ⟨g, cap, cur, rfl, hB, hg, rest⟩
  · exact .inl h2
  · exact .inr ⟨g, cap, cur, rfl, hB, h.blk (cs := cur) (t := e) hg (hn g rfl), rest⟩
/-- A row that the call owns lies in a block of its type. -/
theorem row_blk {B : Nat} {e : TypeId} {size n : Nat} {v : Value} {xs : List Value} (hr : w.ownsRow B e size v n xs) : ∀ g, v.ownBlock = some g → B ≤ g ∧ ∃ cs, Blk w g cs e := by
  intro g hg
  rcases hr.2 with ⟨rfl, _⟩ | ⟨g', cap, cur, rfl, hB, hh, _⟩
  · simp [Value.ownBlock] at hg
  · simp [Value.ownBlock] at hg
    subst hg
    exact ⟨hB, cur, hh⟩
theorem Fr.below (h : Fr base ts bs w w1) (hb : base = w.heap.size) : Below w.heap.size w w1 :=
  ⟨h.os, h.tape, h.output, h.size, fun k hk => h.keep k (by omega) (.inl (by omega))⟩
theorem Fr.belowB (h : Fr base ts bs w w1) (hb : base ≤ w.heap.size) : Below base w w1 :=
  ⟨h.os, h.tape, h.output, h.size, fun k hk => h.keep k (by omega) (.inl (by omega))⟩
end
end Go.Proofs.YtiepopbmbgfhkaaGreat
