/-
  What comes in: a session, opened; the table of powers.
-/
import Derived.Test.YtiepopbmbgfhkaaGreatQ26
import Derived.ProofKit
import Derived.OpenShut
import Derived.ShutString
import Derived.ChangeOld
import Derived.HandedShaped
import Derived.Deep.Fields
import Derived.SliceStrings
import Derived.Lib.SmallJoins
import Derived.Shelf.Vars
namespace Go.Proofs.YtiepopbmbgfhkaaGreat
open Go.RowKit Go.ChangeShapes Go.WideShapes Go.ChangeAt Go.Deep
set_option maxHeartbeats 2000000
set_option maxRecDepth 100000
set_option linter.unusedVariables false
set_option linter.unusedSimpArgs false

theorem tab_of {W : World} (h : W.ShapedOpen Tryz.prog) : Tab W := by
  have h0 : (((begin Tryz.prog (fun _ _ => 0) default).world.heap[1]?).bind Obj.row?).map (fun x => (x.1.size, x.2)) = some (20, 255) := by kernel_rfl
  rw [Option.map_eq_some_iff] at h0
  obtain ⟨⟨zero, t⟩, hz, he⟩ := h0
  simp only [Prod.mk.injEq] at he
  obtain ⟨hs, rfl⟩ := he
  have hg : 1 < Tryz.prog.globals.size := by
    have : Tryz.prog.globals.size = 4 := by kernel_rfl
    omega
  obtain ⟨cs, hh, hcs, hr⟩ := h.1 1 zero 255 hg hz
  obtain ⟨ts, hts, _, hall⟩ := hr (by kernel_rfl)
  have hty : (Tryz.prog.cellTypes Tryz.prog.depth 255).bind (fun l => l[2]?) = some 217 := by kernel_rfl
  rw [hts] at hty
  simp only [Option.bind_some] at hty
  have h2 : 2 < cs.size := by omega
  obtain ⟨u, hu', hok⟩ := hall 2 cs[2] (by simp [h2])
  have hln : (Tryz.prog.cellTypes Tryz.prog.depth 255).map List.length = some 20 := by kernel_rfl
  rw [hts] at hln
  simp only [Option.map_some, Option.some.injEq] at hln
  have e : u = 217 := by
    have : ts[2 % ts.length]? = some u := hu'
    rw [hln, hty] at this
    simpa using this.symm
  subst e
  have hcell : W.cell? ⟨1, 2, none⟩ = some cs[2] := by simp [World.cell?, hh, h2]
  unfold Tab
  rw [hcell]
  unfold Cell.ok at hok
  rw [Tryz.underlying217] at hok
  cases hv : cs[2] <;> rw [hv] at hok <;> simp at hok
  case int k' n => exact ⟨n, by rw [hok.1]⟩

section
variable {H : Type} {enc : TypeId × Value → H} {w : World} {base : Nat} {spare : Nat → Bool} {held : Bool} {fuel : Nat}
theorem spot_none {a : Addr} {v : Value} (h : w.cell? a = some v) : a = ⟨a.block, a.off, none⟩ := by
  obtain ⟨b, o, s⟩ := a
  cases s with
  | none => rfl
  | some k =>
    exfalso
    unfold World.cell? at h
    split at h <;> simp at h
theorem add_mk (b o i : Nat) : (⟨b, o, none⟩ : Addr).add i = ⟨b, o + i, none⟩ := add_off b o i

/-- A slice of texts that came in. -/
theorem open_texts {cs : List Value} {x : DataW H × List MemPlace} (h : DataW.trod enc Tryz.prog w base spare held fuel 23 cs = some x) :
    ∃ v ys, cs = [v] ∧ TxIn w v ys ∧ (∀ y ∈ ys, y.size ≤ maxLen) ∧ ∀ A n c, v = .slice (some A) n c → A.block < w.heap.size ∨ ys = [] := by
  rcases open_strings Tryz.underlying23 Tryz.underlying9 (by kernel_rfl) h with ⟨rfl, -⟩ | ⟨a, len, cap, ss, rfl, hb, hl, hm, hss, -, hc, hz⟩
  · exact ⟨_, [], rfl, .inl ⟨rfl, .inl rfl⟩, (fun y hy => by cases hy), fun A n c e => .inr rfl⟩
  · have hls : len ≤ ss.length := by rw [hss]; split <;> omega
    have hlt : (ss.take len).length = len := by rw [List.length_take]; omega
    by_cases h0 : len = 0
    · subst h0
      exact ⟨_, [], rfl, .inl ⟨rfl, .inr ⟨a, cap, rfl⟩⟩, (fun y hy => by cases hy), fun A n c e => .inr rfl⟩
    · have c0 := hc 0 (by omega)
      have e0 : a.add 0 = a := by unfold Addr.add; simp
      rw [e0] at c0
      have ha := spot_none c0
      refine ⟨_, ss.take len, rfl, .inr ⟨a.block, a.off, cap, ?_, fun j hj => ?_⟩, fun y hy => hz y (List.mem_of_mem_take hy), fun A n c e => .inl ?_⟩
      · rw [hlt, ← ha]
      · have hj' : j < len := by omega
        have := hc j (by omega)
        rw [ha, add_mk] at this
        rw [this]
        simp [List.getD_eq_getElem?_getD, show j < ss.length by omega]
      · simp only [Value.slice.injEq, Option.some.injEq] at e
        rw [← e.1]
        exact World.block_lt_of_cell? w _ c0

/-- A slice of suggestions that came in. -/
theorem open_picks {cs : List Value} {x : DataW H × List MemPlace} (h : DataW.trod enc Tryz.prog w base spare held fuel 22 cs = some x) :
    ∃ v ys, cs = [v] ∧ PkIn w v ys ∧ (∀ y ∈ ys, y.1.size ≤ maxLen ∧ y.2.size ≤ maxLen) := by
  rcases DataW.trod_slice Tryz.underlying22 h with ⟨rfl, -⟩ | ⟨a, len, cap, elems, rest, n, -, rfl, -, hb, hl, hm, hlen, hel, -, -⟩
  · exact ⟨_, [], rfl, .inl ⟨rfl, .inl rfl⟩, fun y hy => by cases hy⟩
  · by_cases h0 : len = 0
    · subst h0
      exact ⟨_, [], rfl, .inl ⟨rfl, .inr ⟨a, cap, rfl⟩⟩, fun y hy => by cases hy⟩
    · have hC : Tryz.prog.cellsOf 29 = 2 := by kernel_rfl
      have each : ∀ i, i < len → ∃ p : Pk, w.cell? (a.add (i * 2)) = some (.string p.1) ∧ w.cell? ((a.add (i * 2)).add 1) = some (.string p.2) ∧ p.1.size ≤ maxLen ∧ p.2.size ≤ maxLen := by
        intro i hi
        have h1 := hel i hi
        have hy : ∃ y, elems[i]? = some y := ⟨_, List.getElem?_eq_getElem (by omega)⟩
        obtain ⟨y, hy⟩ := hy
        rw [hy, hC, Option.bind_eq_some_iff] at h1
        obtain ⟨cs', hcs, ht⟩ := h1
        obtain ⟨_, hcl, hat⟩ := World.cells?_some hcs
        obtain ⟨ys, n', _, _, _, hyl, hf⟩ := DataW.trod_struct Tryz.underlying29 ht
        have c9 : Tryz.prog.cellsOf 9 = 1 := by kernel_rfl
        have f0 : DataW.trod enc Tryz.prog w base spare held n' 9 ((cs'.drop 0).take (Tryz.prog.cellsOf 9)) = ys[0]? := hf 0 _ rfl
        have f1 : DataW.trod enc Tryz.prog w base spare held n' 9 ((cs'.drop 1).take (Tryz.prog.cellsOf 9)) = ys[1]? := hf 1 _ rfl
        have l2 : ys.length = 2 := hyl
        rw [List.getElem?_eq_getElem (by omega)] at f0 f1
        rw [c9] at f0 f1
        rw [List.drop_zero] at f0
        obtain ⟨s, e1, -, z1⟩ := DataW.trod_string Tryz.underlying9 f0
        obtain ⟨t, e2, -, z2⟩ := DataW.trod_string Tryz.underlying9 f1
        have g0 := hat 0 (by omega)
        have g1 := hat 1 (by omega)
        have k0 : cs'[0]? = some (.string s) := by
          have : (cs'.take 1)[0]? = some (.string s) := by rw [e1]; rfl
          rwa [List.getElem?_take, if_pos (by omega)] at this
        have k1 : cs'[1]? = some (.string t) := by
          have : ((cs'.drop 1).take 1)[0]? = some (.string t) := by rw [e2]; rfl
          rwa [List.getElem?_take, if_pos (by omega), List.getElem?_drop] at this
        rw [k0] at g0
        rw [k1] at g1
        have e0 : (a.add (i * 2)).add 0 = a.add (i * 2) := by unfold Addr.add; simp
        rw [e0] at g0
        exact ⟨(s, t), g0, g1, z1, z2⟩
      obtain ⟨p0, c0, -⟩ := each 0 (by omega)
      have e0 : a.add (0 * 2) = a := by unfold Addr.add; simp
      rw [e0] at c0
      have ha := spot_none c0
      have hall : ∀ i, ∃ p : Pk, i < len → w.cell? (a.add (i * 2)) = some (.string p.1) ∧ w.cell? ((a.add (i * 2)).add 1) = some (.string p.2) ∧ p.1.size ≤ maxLen ∧ p.2.size ≤ maxLen := fun i => by
        by_cases h : i < len
        · obtain ⟨p, hp⟩ := each i h
          exact ⟨p, fun _ => hp⟩
        · exact ⟨(.empty, .empty), fun h' => absurd h' h⟩
      obtain ⟨f, hf⟩ := Classical.axiomOfChoice hall
      refine ⟨_, (List.range len).map f, rfl, .inr ⟨a.block, a.off, cap, ?_, fun j hj => ?_⟩, fun y hy => ?_⟩
      · rw [List.length_map, List.length_range, ← ha]
      · have hj' : j < len := by simpa using hj
        obtain ⟨q1, q2, -, -⟩ := hf j hj'
        simp only [List.getElem_map, List.getElem_range]
        rw [ha, add_mk] at q1 q2
        rw [add_mk] at q2
        exact ⟨q1, q2⟩
      · simp only [List.mem_map, List.mem_range] at hy
        obtain ⟨i, hi, rfl⟩ := hy
        exact (hf i hi).2.2

theorem take_one {α : Type} {l : List α} {v : α} {i : Nat} (h : (l.drop i).take 1 = [v]) : l[i]? = some v := by
  have : ((l.drop i).take 1)[0]? = some v := by rw [h]; rfl
  rwa [List.getElem?_take, if_pos (by omega), List.getElem?_drop] at this

/-- A session that came in. -/
theorem open_sess {v : Value} {d : DataW H} {p : List MemPlace} {b0 : Nat} (hv : Value.okWide Tryz.prog w .any b0 25 v) (h : DataW.Trod enc Tryz.prog w base spare held 25 v d p) :
    ∃ (S : Raw) (ov hv : Value), v = .agg (S.cells ov hv) ∧ PkIn w ov S.offs ∧ TxIn w hv S.hist ∧ S.pre.size ≤ maxLen ∧ (∀ y ∈ S.offs, y.1.size ≤ maxLen ∧ y.2.size ≤ maxLen) ∧ (Lit.int .i64 S.most).wf = true ∧ (Lit.int .i64 S.cols).wf = true := by
  obtain ⟨cs, rfl, hsz⟩ := okWide_struct Tryz.underlying25 hv
  have hC : Tryz.prog.cellsOf 25 = 11 := by kernel_rfl
  rw [hC] at hsz
  obtain ⟨fuel, hf⟩ := h
  obtain ⟨xs, n, _, _, _, hlen, hg⟩ := DataW.trod_struct Tryz.underlying25 hf
  have hl : xs.length = 11 := hlen
  have c9 : Tryz.prog.cellsOf 9 = 1 := by kernel_rfl
  have c3 : Tryz.prog.cellsOf 3 = 1 := by kernel_rfl
  have c4 : Tryz.prog.cellsOf 4 = 1 := by kernel_rfl
  have c22 : Tryz.prog.cellsOf 22 = 1 := by kernel_rfl
  have c23 : Tryz.prog.cellsOf 23 = 1 := by kernel_rfl
  have g0 : DataW.trod enc Tryz.prog w base spare held n 9 ((cs.toList.drop 0).take (Tryz.prog.cellsOf 9)) = xs[0]? := hg 0 _ rfl
  have g1 : DataW.trod enc Tryz.prog w base spare held n 22 ((cs.toList.drop 1).take (Tryz.prog.cellsOf 22)) = xs[1]? := hg 1 _ rfl
  have g2 : DataW.trod enc Tryz.prog w base spare held n 3 ((cs.toList.drop 2).take (Tryz.prog.cellsOf 3)) = xs[2]? := hg 2 _ rfl
  have g3 : DataW.trod enc Tryz.prog w base spare held n 3 ((cs.toList.drop 3).take (Tryz.prog.cellsOf 3)) = xs[3]? := hg 3 _ rfl
  have g4 : DataW.trod enc Tryz.prog w base spare held n 4 ((cs.toList.drop 4).take (Tryz.prog.cellsOf 4)) = xs[4]? := hg 4 _ rfl
  have g5 : DataW.trod enc Tryz.prog w base spare held n 4 ((cs.toList.drop 5).take (Tryz.prog.cellsOf 4)) = xs[5]? := hg 5 _ rfl
  have g6 : DataW.trod enc Tryz.prog w base spare held n 9 ((cs.toList.drop 6).take (Tryz.prog.cellsOf 9)) = xs[6]? := hg 6 _ rfl
  have g7 : DataW.trod enc Tryz.prog w base spare held n 23 ((cs.toList.drop 7).take (Tryz.prog.cellsOf 23)) = xs[7]? := hg 7 _ rfl
  have g8 : DataW.trod enc Tryz.prog w base spare held n 9 ((cs.toList.drop 8).take (Tryz.prog.cellsOf 9)) = xs[8]? := hg 8 _ rfl
  have g9 : DataW.trod enc Tryz.prog w base spare held n 4 ((cs.toList.drop 9).take (Tryz.prog.cellsOf 4)) = xs[9]? := hg 9 _ rfl
  have g10 : DataW.trod enc Tryz.prog w base spare held n 9 ((cs.toList.drop 10).take (Tryz.prog.cellsOf 9)) = xs[10]? := hg 10 _ rfl
  rw [List.getElem?_eq_getElem (by omega)] at g0 g1 g2 g3 g4 g5 g6 g7 g8 g9 g10
  rw [c9] at g0 g6 g8 g10
  rw [c22] at g1
  rw [c3] at g2 g3
  rw [c4] at g4 g5 g9
  rw [c23] at g7
  obtain ⟨pre, e0, -, z0⟩ := DataW.trod_string Tryz.underlying9 g0
  obtain ⟨ov, offs, e1, hO, zO⟩ := open_picks g1
  obtain ⟨most, e2, -, z2⟩ := DataW.trod_int Tryz.underlying3 g2
  obtain ⟨cols, e3, -, z3⟩ := DataW.trod_int Tryz.underlying3 g3
  obtain ⟨down, e4, -⟩ := DataW.trod_bool Tryz.underlying4 g4
  obtain ⟨start, e5, -⟩ := DataW.trod_bool Tryz.underlying4 g5
  obtain ⟨sep, e6, -, z6⟩ := DataW.trod_string Tryz.underlying9 g6
  obtain ⟨hv', hist, e7, hH, zH, -⟩ := open_texts g7
  obtain ⟨begun, e8, -, z8⟩ := DataW.trod_string Tryz.underlying9 g8
  obtain ⟨plain, e9, -⟩ := DataW.trod_bool Tryz.underlying4 g9
  obtain ⟨exit, e10, -, z10⟩ := DataW.trod_string Tryz.underlying9 g10
  refine ⟨⟨pre, most, cols, down, start, sep, begun, plain, exit, offs, hist⟩, ov, hv', ?_, hO, hH, z0, zO, z2, z3⟩
  have k0 := take_one e0
  have k1 := take_one e1
  have k2 := take_one e2
  have k3 := take_one e3
  have k4 := take_one e4
  have k5 := take_one e5
  have k6 := take_one e6
  have k7 := take_one e7
  have k8 := take_one e8
  have k9 := take_one e9
  have k10 := take_one e10
  congr 1
  apply Array.ext'
  apply List.ext_getElem?
  intro i
  unfold Raw.cells
  match i with
  | 0 => exact k0
  | 1 => exact k1
  | 2 => exact k2
  | 3 => exact k3
  | 4 => exact k4
  | 5 => exact k5
  | 6 => exact k6
  | 7 => exact k7
  | 8 => exact k8
  | 9 => exact k9
  | 10 => exact k10
  | i + 11 =>
    rw [List.getElem?_eq_none (by simp; omega)]
    rfl
end
end Go.Proofs.YtiepopbmbgfhkaaGreat
