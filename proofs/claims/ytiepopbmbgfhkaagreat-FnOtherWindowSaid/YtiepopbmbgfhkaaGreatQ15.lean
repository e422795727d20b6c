/-
  Regions that only make constants: reckoned whole.
  The table of keys.
  GetKey: the key of bytes.
-/
import Derived.Test.YtiepopbmbgfhkaaGreatQ1
import Derived.Great.BuildSlice
import Derived.Test.YtiepopbmbgfhkaaGreatQ4
import Derived.Deep.DeepCutAuto
namespace Go.Proofs.YtiepopbmbgfhkaaGreat
open Go.RowKit
set_option maxHeartbeats 2000000
set_option maxRecDepth 20000
set_option linter.unusedVariables false
set_option linter.unusedSimpArgs false

def builtSlice (P : Program) (t : TypeId) (len : Nat) (parts : List (Nat × Value)) : Option (TypeId × Array Value) :=
  match P.underlying t with
  | some (.slice e) => match P.info? e with
    | some ie => match ie.zero with
      | some z => if len * ie.size > 2 ^ 24 then none else if len * ie.size = 0 then none else
          (Instr.fill (fun i => some (i * ie.size, ie.size)) ((Array.range (len * ie.size)).map (z.cells[· % z.cells.size]!)) parts).map fun cs => (e, cs)
      | none => none
    | none => none
  | _ => none

/-- Blocks made one behind the other, the last one first. -/
def allocs (w : World) : List Obj → World
  | [] => w
  | o :: l => (allocs w l).alloc o
theorem allocs_size (w : World) : ∀ l, (allocs w l).heap.size = w.heap.size + l.length
  | [] => rfl
  | o :: l => by simp [allocs, allocs_size w l]; omega
theorem allocs_fr (w : World) : ∀ l, Fr 0 [] [] w (allocs w l)
  | [] => Fr.refl _ _ _ _
  | o :: l => (allocs_fr w l).alloc o
theorem allocs_blk (w : World) (cs : Array Value) (t : TypeId) : ∀ (l : List Obj) (i : Nat), l[i]? = some (.cells cs t) → Blk (allocs w l) (w.heap.size + (l.length - 1 - i)) cs t
  | [], i, h => by cases h
  | o :: l, 0, h => by
    simp only [List.getElem?_cons_zero, Option.some.injEq] at h
    subst h
    exact Blk.new' (by rw [allocs_size]; simp) _ _
  | o :: l, i + 1, h => by
    simp only [List.getElem?_cons_succ] at h
    have h1 := (allocs_blk w cs t l i h).alloc o
    have hi : i < l.length := (List.getElem?_eq_some_iff.1 h).1
    have e : (o :: l).length - 1 - (i + 1) = l.length - 1 - i := by simp; omega
    rw [e]
    exact h1

/-- One operation that makes constants; M: how many blocks there were at first; os: those made since, the last one first. -/
def evalOp (P : Program) (M : Nat) (o : Oper) (a : Act) (os : List Obj) : Option (Act × List Obj) :=
  match o.guard with
  | some _ => none
  | none => match o.op with
    | .build t parts => (P.built t (parts.map fun (i, x) => (i, a.eval x)).toList).map fun cells => (a.put o.dst (.agg cells), os)
    | .buildSlice t len parts => (builtSlice P t len (parts.map fun (i, x) => (i, a.eval x)).toList).map fun (e, cells) => (a.put o.dst (.slice (some ⟨M + os.length, 0, none⟩) len len), .cells cells e :: os)
    | .assign x => some (a.put o.dst (a.eval x), os)
    | _ => none

def evalOps (P : Program) (M : Nat) : List Oper → Act → List Obj → Option (Act × List Obj)
  | [], a, os => some (a, os)
  | o :: l, a, os => match evalOp P M o a os with
    | some r => evalOps P M l r.1 r.2
    | none => none

theorem wpList_evalOps {P : Program} {ops : Array Oper} {Q : Exit → Act → World → Prop} {w : World} {M : Nat} (hM : w.heap.size = M) : ∀ (l : List Oper) (a : Act) (os : List Obj) (r : Act × List Obj), evalOps P M l a os = some r → Q .normal r.1 (allocs w r.2) → wpList P ops Q l a (allocs w os)
  | [], a, os, r, h, hQ => by
    simp only [evalOps, Option.some.injEq] at h
    subst h; exact hQ
  | o :: l, a, os, r, h, hQ => by
    simp only [evalOps] at h
    split at h
    · rename_i r1 h1
      obtain ⟨a1, os1⟩ := r1
      have ih := wpList_evalOps (ops := ops) (Q := Q) hM l a1 os1 r h hQ
      unfold evalOp at h1
      split at h1
      · cases h1
      · rename_i hg
        refine wpList_plain hg fun K hK => ?_
        split at h1
        · rename_i t parts ho
          rw [Option.map_eq_some_iff] at h1
          obtain ⟨cells, hc, e⟩ := h1
          simp only [Prod.mk.injEq] at e
          obtain ⟨rfl, rfl⟩ := e
          exact wp_build t parts ho (by rw [hc]; rfl) (by rw [hc]; exact hK _ _ ih)
        · rename_i t len parts ho
          rw [Option.map_eq_some_iff] at h1
          obtain ⟨⟨e, cells⟩, hc, e1⟩ := h1
          simp only [Prod.mk.injEq] at e1
          obtain ⟨rfl, rfl⟩ := e1
          unfold builtSlice at hc
          split at hc
          · rename_i e' hu
            split at hc
            · rename_i ie hie
              split at hc
              · rename_i z hz
                split at hc
                · cases hc
                · rename_i hsm
                  split at hc
                  · cases hc
                  · rename_i hpos
                    rw [Option.map_eq_some_iff] at hc
                    obtain ⟨cs, hf, e2⟩ := hc
                    simp only [Prod.mk.injEq] at e2
                    obtain ⟨rfl, rfl⟩ := e2
                    have hr := run_buildSlice (P := P) (allocs w os) t e' len (parts.map fun (i, x) => (i, a.eval x)) cs ie z hu hie hz hsm hpos hf
                    rw [allocs_size, hM] at hr
                    unfold Oper.wp execOp
                    simp only [ho, Sem.run_bind, hr, Result.andThen_ok]
                    exact hK _ _ ih
              · cases hc
            · cases hc
          · cases hc
        · rename_i x ho
          simp only [Option.some.injEq, Prod.mk.injEq] at h1
          obtain ⟨rfl, rfl⟩ := h1
          unfold Oper.wp execOp
          simp only [ho]
          exact hK _ _ ih
        · cases h1
    · cases h
end Go.Proofs.YtiepopbmbgfhkaaGreat

namespace Go.Proofs.YtiepopbmbgfhkaaGreat
open Go.RowKit
set_option maxHeartbeats 2000000
set_option maxRecDepth 100000
set_option linter.unusedVariables false
set_option linter.unusedSimpArgs false

/-- The keys: their numbers and bytes. -/
def seqs : List (Int × List UInt8) := [(0, [27]), (27, [0]), (1, [1]), (2, [2]), (3, [3]), (4, [4]), (5, [5]), (6, [6]), (7, [7]), (8, [8]), (11, [11]), (12, [12]), (13, [13]), (14, [14]), (15, [15]), (16, [16]), (17, [17]), (18, [18]), (19, [19]), (20, [20]), (21, [21]), (22, [22]), (23, [23]), (24, [24]), (25, [25]), (26, [26]), (28, [28]), (29, [29]), (30, [30]), (31, [31]), (53, [127]), (36, [27, 91, 65]), (37, [27, 91, 66]), (38, [27, 91, 67]), (39, [27, 91, 68]), (44, [27, 91, 72]), (44, [27, 48, 72]), (45, [27, 91, 70]), (45, [27, 48, 70]), (55, [10]), (46, [27, 91, 51, 126]), (47, [27, 91, 51, 59, 50, 126]), (48, [27, 91, 51, 59, 53, 126]), (44, [27, 91, 49, 126]), (45, [27, 91, 52, 126]), (49, [27, 91, 53, 126]), (50, [27, 91, 54, 126]), (44, [27, 91, 55, 126]), (45, [27, 91, 56, 126]), (54, [9]), (51, [27, 91, 90]), (52, [27, 91, 50, 126]), (56, [27, 79, 80]), (57, [27, 79, 81]), (58, [27, 79, 82]), (59, [27, 79, 83]), (56, [27, 79, 80, 65]), (57, [27, 91, 91, 66]), (58, [27, 91, 91, 67]), (59, [27, 91, 91, 68]), (60, [27, 91, 91, 69]), (56, [27, 91, 17, 126]), (57, [27, 91, 18, 126]), (58, [27, 91, 19, 126]), (59, [27, 91, 20, 126]), (60, [27, 91, 49, 53, 126]), (61, [27, 91, 49, 55, 126]), (62, [27, 91, 49, 56, 126]), (63, [27, 91, 49, 57, 126]), (64, [27, 91, 50, 48, 126]), (65, [27, 91, 50, 49, 126]), (66, [27, 91, 50, 50, 126]), (67, [27, 91, 50, 52, 126, 8]), (68, [27, 91, 37, 126]), (69, [27, 91, 38, 126]), (70, [27, 91, 40, 126]), (71, [27, 91, 41, 126]), (72, [27, 91, 49, 126]), (73, [27, 91, 50, 126]), (74, [27, 91, 51, 126]), (75, [27, 91, 52, 126]), (68, [27, 91, 49, 59, 50, 80]), (69, [27, 91, 49, 59, 50, 81]), (71, [27, 91, 49, 59, 50, 82]), (72, [27, 91, 21, 59, 50, 126]), (73, [27, 91, 23, 59, 50, 126]), (74, [27, 91, 24, 59, 50, 126]), (75, [27, 91, 25, 59, 50, 126]), (76, [27, 91, 32, 59, 50, 126]), (77, [27, 91, 33, 59, 50, 126]), (78, [27, 91, 35, 59, 50, 126]), (79, [27, 91, 36, 59, 50, 126]), (34, [27, 91, 49, 59, 53, 65]), (35, [27, 91, 49, 59, 53, 66]), (33, [27, 91, 49, 59, 53, 67]), (32, [27, 91, 49, 59, 53, 68]), (41, [27, 91, 49, 59, 50, 65]), (42, [27, 91, 49, 59, 50, 66]), (43, [27, 91, 49, 59, 50, 67]), (40, [27, 91, 49, 59, 50, 68]), (36, [27, 79, 65]), (37, [27, 79, 66]), (38, [27, 79, 67]), (39, [27, 79, 68]), (34, [27, 91, 53, 65]), (35, [27, 91, 53, 66]), (33, [27, 91, 53, 67]), (32, [27, 91, 53, 68]), (33, [27, 91, 79, 99]), (32, [27, 91, 79, 100]), (85, [27, 91, 69]), (85, [27, 91, 70])]

/-- The cells of the table, from entry i on. -/
def seqCells (M : Nat) : Nat → List (Int × List UInt8) → List Value
  | _, [] => []
  | i, x :: l => .int .i64 x.1 :: .slice (some ⟨M + i, 0, none⟩) x.2.length x.2.length :: seqCells M (i + 1) l
def seqObjs (M : Nat) : List Obj := .cells (seqCells M 0 seqs).toArray 175 :: (seqs.map fun x => Obj.cells (bv x.2).toArray 5).reverse

def seqAct : Act := { tmps := (Array.replicate 226 undef).set! 0 (.slice none 0 0), defers := [] }
noncomputable def seqOps : Array Oper := match Tryz.f118.body with
  | some (.seq _ (.seq (.region _ ops _) _)) => ops
  | _ => #[]
theorem seq_ev (M : Nat) : (evalOps Tryz.prog M seqOps.toList seqAct []).map (fun r => (r.2, r.1.tmps.getD 0 undef, r.1.defers.isEmpty)) = some (seqObjs M, .slice (some ⟨M + 112, 0, none⟩) 112 112, true) := by kernel_rfl

theorem seqs_c (w : World) : Calls Tryz.prog 118 #[] w fun e w' => e = .returned (.slice (some ⟨w.heap.size + 112, 0, none⟩) 112 112) ∧ w' = allocs w (seqObjs w.heap.size) := by
  have hev := seq_ev w.heap.size
  rw [Option.map_eq_some_iff] at hev
  obtain ⟨r, hr, he⟩ := hev
  simp only [Prod.mk.injEq] at he
  obtain ⟨e1, e2, e3⟩ := he
  refine calls_of_wp Tryz.func118 rfl ?_
  apply wp_seq_k; intro K hK
  apply wp_region_lit
  refine wpList_evalOps (w := w) rfl _ _ [] (seqAct, []) (by kernel_rfl) ?_
  simp only [Exit.then, Exit.inBlock, ↓reduceIte]
  refine hK _ _ ?_
  clear hK K
  apply wp_seq_k; intro K hK
  refine wp_region_list (ops := seqOps) ?_
  refine wpList_evalOps (w := w) rfl _ _ [] r hr ?_
  simp only [Exit.then, Exit.inBlock, ↓reduceIte]
  refine hK _ _ ?_
  clear hK K
  apply wp_ret
  have e4 : r.1.defers = [] := by simpa using e3
  have hres : (results Tryz.f118 r.1.tmps).run Tryz.prog (allocs w r.2) = .ok (.slice (some ⟨w.heap.size + 112, 0, none⟩) 112 112) (allocs w r.2) := by
    rw [← e2]
    exact results_tmp rfl _ _ _
  refine bodyPost_ret hres e4 ?_
  exact ⟨rfl, by rw [e1]⟩
end Go.Proofs.YtiepopbmbgfhkaaGreat

namespace Go.Proofs.YtiepopbmbgfhkaaGreat
open Go.RowKit
set_option maxHeartbeats 2000000
set_option maxRecDepth 20000
set_option linter.unusedVariables false
set_option linter.unusedSimpArgs false

/-- The key of bytes; 86: none. -/
def keyOf (b : List UInt8) : Int := match seqs.find? (fun x => x.2 == b) with
  | some x => x.1
  | none => 86

theorem seqCells_len (M : Nat) : ∀ (l : List (Int × List UInt8)) (i : Nat), (seqCells M i l).length = 2 * l.length
  | [], i => rfl
  | x :: l, i => by simp [seqCells, seqCells_len M l (i + 1)]; omega
theorem seqCells_get (M : Nat) : ∀ (l : List (Int × List UInt8)) (i j : Nat) (h : j < l.length), (seqCells M i l)[j * 2]? = some (.int .i64 l[j].1) ∧ (seqCells M i l)[j * 2 + 1]? = some (.slice (some ⟨M + (i + j), 0, none⟩) l[j].2.length l[j].2.length)
  | x :: l, i, 0, h => ⟨rfl, rfl⟩
  | x :: l, i, j + 1, h => by
    have := seqCells_get M l (i + 1) j (by simpa using h)
    refine ⟨?_, ?_⟩
    · rw [show (j + 1) * 2 = j * 2 + 1 + 1 by omega]
      simpa [seqCells] using this.1
    · rw [show (j + 1) * 2 + 1 = j * 2 + 1 + 1 + 1 by omega, show i + (j + 1) = i + 1 + j by omega]
      simpa [seqCells] using this.2
theorem seqs_len : seqs.length = 112 := rfl

/-- Entry i of the table. -/
def SeqAt (w : World) (T i : Nat) (key : Int) (bs : List UInt8) : Prop :=
  ∃ u, w.cell? ⟨T, i * 2, none⟩ = some (.int .i64 key) ∧ w.cell? ⟨T, i * 2 + 1, none⟩ = some u ∧ Dat w u bs ∧ T < w.heap.size
theorem SeqAt.ext {w w1 : World} {T i base : Nat} {key : Int} {bs : List UInt8} (h : SeqAt w T i key bs) (hF : Fr base [] [] w w1) : SeqAt w1 T i key bs := by
  obtain ⟨u, h1, h2, h3, h4⟩ := h
  exact ⟨u, hF.cell0 h1, hF.cell0 h2, h3.ext hF, Nat.lt_of_lt_of_le h4 hF.size⟩
theorem seq_at (w : World) (i : Nat) (hi : i < seqs.length) : SeqAt (allocs w (seqObjs w.heap.size)) (w.heap.size + 112) i seqs[i].1 seqs[i].2 := by
  have hT : Blk (allocs w (seqObjs w.heap.size)) (w.heap.size + 112) (seqCells w.heap.size 0 seqs).toArray 175 :=
    allocs_blk w _ _ (seqObjs w.heap.size) 0 rfl
  have hg := seqCells_get w.heap.size seqs 0 i hi
  have hi' : i < 112 := hi
  have hB : Blk (allocs w (seqObjs w.heap.size)) (w.heap.size + i) (bv seqs[i].2).toArray 5 := by
    have := allocs_blk w (bv seqs[i].2).toArray 5 (seqObjs w.heap.size) (112 - i) (by
      unfold seqObjs
      rw [show 112 - i = (111 - i) + 1 by omega, List.getElem?_cons_succ, List.getElem?_reverse (by rw [List.length_map, seqs_len]; omega), List.length_map, seqs_len, show 112 - 1 - (111 - i) = i by omega, List.getElem?_map, List.getElem?_eq_getElem hi]
      rfl)
    have e : (seqObjs w.heap.size).length - 1 - (112 - i) = i := by
      have : (seqObjs w.heap.size).length = 113 := rfl
      omega
    rw [e] at this
    exact this
  refine ⟨.slice (some ⟨w.heap.size + i, 0, none⟩) seqs[i].2.length seqs[i].2.length, (hT.cell _).trans ?_, (hT.cell _).trans ?_, Dat.of_blk _ _ hB, hT.lt⟩
  · rw [List.getElem?_toArray]; exact hg.1
  · rw [List.getElem?_toArray, hg.2, Nat.zero_add]; rfl

theorem ex_stringO {o : Oper} {a : Act} {w : World} {x : Operand} {u : Value} {l : List UInt8} {s : ByteArray} (hs : Hid (s = ⟨l.toArray⟩)) (ho : o.op = .convert 53 9 x) (hx : a.eval x = u) (hd : Dat w u l) :
    (execOp a.eval o).run Tryz.prog w = .ok (.value (.string s)) w := by rw [hs.out]; exact ex_string ho hx hd
theorem getKey_c {w : World} {u : Value} {l : List UInt8} (hd : Dat w u l) :
    Calls Tryz.prog 85 #[u] w fun e w' => e = .returned (.int .i64 (keyOf l)) ∧ Fr 0 [] [] w w' := by
  obtain ⟨M, hM⟩ : ∃ M, w.heap.size = M := ⟨_, rfl⟩
  have hat := seq_at w
  have hsq := seqs_c w
  rw [hM] at hsq hat
  have hF1 := allocs_fr w (seqObjs M)
  obtain ⟨w1, hw1⟩ : ∃ w1, allocs w (seqObjs M) = w1 := ⟨_, rfl⟩
  rw [hw1] at hat hsq hF1
  obtain ⟨a, c, rfl, hc⟩ := id hd
  have hd1 := hd.ext hF1
  go_enter Tryz.func85, Tryz.ntmps85
  go_wp2_with (fail)
  refine hsq.mono ?_
  rintro e w2 ⟨rfl, rfl⟩
  clear hsq hw1
  go_wp2_with (fail)
  go_loopw [7] (fun v7 w' => ∃ i : Nat, i ≤ 112 ∧ v7 = .int .i64 i ∧ Fr 0 [] [] w2 w' ∧ (∀ j (hj : j < seqs.length), j < i → seqs[j].2 ≠ l)) (fun v7 _ => 112 - (intOf v7).toNat)
  case atStart => exact ⟨0, by omega, rfl, Fr.refl _ _ _ _, fun j hj h0 => absurd h0 (by omega)⟩
  case round =>
    obtain ⟨i, hi, rfl, hFi, hno⟩ := hrel
    have HNO := Lib.hid hno
    clear hno
    by_cases hlt : i < 112
    · have d1 : decide ((i : Int) < 112) = true := by simp; omega
      have d2 : (i : Int) < 112 := by omega
      have hsi := (hat i hlt).ext hFi
      have hx : ∃ key bs, seqs[i]'hlt = (key, bs) := ⟨_, _, rfl⟩
      obtain ⟨key, bs, hkb⟩ := hx
      rw [hkb] at hsi
      have HKB := Lib.hid hkb
      clear hkb
      obtain ⟨u, k1, k2, k3, k4⟩ := hsi
      obtain ⟨ua, uc, rfl, -⟩ := id k3
      have hdi := (hd1.ext hFi).ext ((Fr.refl 0 [] [] wr).alloc (.cells #[.int .i64 key, .slice (some ua) bs.length uc] 175))
      have k3i := k3.ext ((Fr.refl 0 [] [] wr).alloc (.cells #[.int .i64 key, .slice (some ua) bs.length uc] 175))
      obtain ⟨sb, hsb⟩ : ∃ s : ByteArray, s = ⟨bs.toArray⟩ := ⟨_, rfl⟩
      obtain ⟨sl, hsl⟩ : ∃ s : ByteArray, s = ⟨l.toArray⟩ := ⟨_, rfl⟩
      have HSB := Lib.hid hsb
      have HSL := Lib.hid hsl
      clear hsb hsl
      by_cases hm : bs = l
      · have hm1 : (sb.toList == sl.toList) = true := by rw [HSB.out, HSL.out, hm]; simp
        have HM := Lib.hid hm
        clear hm
        go_wp2_with (first | (refine wpList_plain rfl (fun K hK => ?_); refine wp_of_exec (ex_stringO HSB rfl rfl k3i) ?_; refine hK _ _ ?_; clear hK K) | (refine wpList_plain rfl (fun K hK => ?_); refine wp_of_exec (ex_stringO HSL rfl rfl hdi) ?_; refine hK _ _ ?_; clear hK K))
        go_ret
        refine ⟨?_, (hF1.ext hFi).alloc _⟩
        have e0 : seqs.find? (fun x => x.2 == l) = some (key, bs) := by
          rw [List.find?_eq_some_iff_getElem]
          refine ⟨by simp [HM.out], i, hlt, HKB.out, fun j hj => ?_⟩
          have := HNO.out j (by rw [seqs_len]; omega) hj
          simpa using this
        unfold keyOf
        rw [e0]
        rfl
      · have hm1 : (sb.toList == sl.toList) = false := by
          refine str_ne fun e => hm ?_
          rw [HSB.out, HSL.out] at e
          have := congrArg (fun x => x.data.toList) e
          simpa using this
        have HM := Lib.hid hm
        clear hm
        go_wp2_with (first | (refine wpList_plain rfl (fun K hK => ?_); refine wp_of_exec (ex_stringO HSB rfl rfl k3i) ?_; refine hK _ _ ?_; clear hK K) | (refine wpList_plain rfl (fun K hK => ?_); refine wp_of_exec (ex_stringO HSL rfl rfl hdi) ?_; refine hK _ _ ?_; clear hK K))
        go_roundw
        case rel =>
          refine ⟨i + 1, by omega, by simp, hFi.alloc _, fun j hj hji => ?_⟩
          by_cases e : j = i
          · subst e
            have e1 : (seqs[j]'hlt).2 = bs := congrArg Prod.snd HKB.out
            exact fun e2 => HM.out (e1.symm.trans e2)
          · exact HNO.out j hj (by omega)
        case measure => simp [intOf]; omega
    · have d1 : decide ((i : Int) < 112) = false := by simp; omega
      have d2 : ¬ (i : Int) < 112 := by omega
      have e : i = 112 := by omega
      have E := Lib.hid e
      clear e
      go_wp2_with (fail)
      go_ret
      refine ⟨?_, hF1.ext hFi⟩
      have e0 : seqs.find? (fun x => x.2 == l) = none := by
        rw [List.find?_eq_none]
        intro x hx
        obtain ⟨j, hj, rfl⟩ := List.getElem_of_mem hx
        have := HNO.out j hj (by rw [E.out]; rw [seqs_len] at hj; omega)
        simpa using this
      unfold keyOf
      rw [e0]
      rfl
end Go.Proofs.YtiepopbmbgfhkaaGreat
