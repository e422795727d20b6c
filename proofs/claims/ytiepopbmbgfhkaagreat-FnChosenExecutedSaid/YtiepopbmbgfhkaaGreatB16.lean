/-
  The table of keys.
-/
import Derived.Test.YtiepopbmbgfhkaaGreatB15
import Derived.Test.YtiepopbmbgfhkaaGreatA6
import Derived.Deep.DeepCutAuto
namespace Go.Proofs.YtiepopbmbgfhkaaGreat
open Go.RowKit
set_option maxHeartbeats 2000000
set_option maxRecDepth 100000
set_option linter.unusedVariables false
set_option linter.unusedSimpArgs false

/-- The keys: their numbers and bytes. -/
def seqs : List (Int × List UInt8) := [(0, [27]), (27, [0]), (1, [1]), (2, [2]), (3, [3]), (4, [4]), (5, [5]), (6, [6]), (7, [7]), (8, [8]), (11, [11]), (12, [12]), (13, [13]), (14, [14]), (15, [15]), (16, [16]), (17, [17]), (18, [18]), (19, [19]), (20, [20]), (21, [21]), (22, [22]), (23, [23]), (24, [24]), (25, [25]), (26, [26]), (28, [28]), (29, [29]), (30, [30]), (31, [31]), (53, [127]), (36, [27, 91, 65]), (37, [27, 91, 66]), (38, [27, 91, 67]), (39, [27, 91, 68]), (44, [27, 91, 72]), (44, [27, 48, 72]), (45, [27, 91, 70]), (45, [27, 48, 70]), (55, [10]), (46, [27, 91, 51, 126]), (47, [27, 91, 51, 59, 50, 126]), (48, [27, 91, 51, 59, 53, 126]), (44, [27, 91, 49, 126]), (45, [27, 91, 52, 126]), (49, [27, 91, 53, 126]), (50, [27, 91, 54, 126]), (44, [27, 91, 55, 126]), (45, [27, 91, 56, 126]), (54, [9]), (51, [27, 91, 90]), (52, [27, 91, 50, 126]), (56, [27, 79, 80]), (57, [27, 79, 81]), (58, [27, 79, 82]), (59, [27, 79, 83]), (56, [27, 79, 80, 65]), (57, [27, 91, 91, 66]), (58, [27, 91, 91, 67]), (59, [27, 91, 91, 68]), (60, [27, 91, 91, 69]), (56, [27, 91, 17, 126]), (57, [27, 91, 18, 126]), (58, [27, 91, 19, 126]), (59, [27, 91, 20, 126]), (60, [27, 91, 49, 53, 126]), (61, [27, 91, 49, 55, 126]), (62, [27, 91, 49, 56, 126]), (63, [27, 91, 49, 57, 126]), (64, [27, 91, 50, 48, 126]), (65, [27, 91, 50, 49, 126]), (66, [27, 91, 50, 50, 126]), (67, [27, 91, 50, 52, 126, 8]), (68, [27, 91, 37, 126]), (69, [27, 91, 38, 126]), (70, [27, 91, 40, 126]), (71, [27, 91, 41, 126]), (72, [27, 91, 49, 126]), (73, [27, 91, 50, 126]), (74, [27, 91, 51, 126]), (75, [27, 91, 52, 126]), (68, [27, 91, 49, 59, 50, 80]), (69, [27, 91, 49, 59, 50, 81]), (71, [27, 91, 49, 59, 50, 82]), (72, [27, 91, 21, 59, 50, 126]), (73, [27, 91, 23, 59, 50, 126]), (74, [27, 91, 24, 59, 50, 126]), (75, [27, 91, 25, 59, 50, 126]), (76, [27, 91, 32, 59, 50, 126]), (77, [27, 91, 33, 59, 50, 126]), (78, [27, 91, 35, 59, 50, 126]), (79, [27, 91, 36, 59, 50, 126]), (34, [27, 91, 49, 59, 53, 65]), (35, [27, 91, 49, 59, 53, 66]), (33, [27, 91, 49, 59, 53, 67]), (32, [27, 91, 49, 59, 53, 68]), (41, [27, 91, 49, 59, 50, 65]), (42, [27, 91, 49, 59, 50, 66]), (43, [27, 91, 49, 59, 50, 67]), (40, [27, 91, 49, 59, 50, 68]), (36, [27, 79, 65]), (37, [27, 79, 66]), (38, [27, 79, 67]), (39, [27, 79, 68]), (34, [27, 91, 53, 65]), (35, [27, 91, 53, 66]), (33, [27, 91, 53, 67]), (32, [27, 91, 53, 68]), (33, [27, 91, 79, 99]), (32, [27, 91, 79, 100]), (85, [27, 91, 69]), (85, [27, 91, 70])]

/-- The cells of the table, from entry i on. -/
def seqCells (M : Nat) : Nat → List (Int × List UInt8) → List Value
  | _, [] => []
  | i, x :: l => .int .i64 x.1 :: .slice (some ⟨M + i, 0, none⟩) x.2.length x.2.length :: seqCells M (i + 1) l
def seqObjs (M : Nat) : List Obj := .cells (seqCells M 0 seqs).toArray 175 :: (seqs.map fun x => Obj.cells (bv x.2).toArray 5).reverse

def seqAct : Act := { tmps := (Array.replicate 226 undef).set! 0 (.slice none 0 0), defers := [] }
noncomputable def seqOps : Array Oper := match Tryz.f118.body with
  | some (.seq _ (.seq (.region _ ops _) _)) => ops
  | _ => #[]
theorem seq_ev (M : Nat) : (evalOps Tryz.prog M seqOps.toList seqAct []).map (fun r => (r.2, r.1.tmps.getD 0 undef, r.1.defers.isEmpty)) = some (seqObjs M, .slice (some ⟨M + 112, 0, none⟩) 112 112, true) := by kernel_rfl

theorem seqs_c (w : World) : Calls Tryz.prog 118 #[] w fun e w' => e = .returned (.slice (some ⟨w.heap.size + 112, 0, none⟩) 112 112) ∧ w' = allocs w (seqObjs w.heap.size) := by
  have hev := seq_ev w.heap.size
  rw [Option.map_eq_some_iff] at hev
  obtain ⟨r, hr, he⟩ := hev
  simp only [Prod.mk.injEq] at he
  obtain ⟨e1, e2, e3⟩ := he
  refine calls_of_wp Tryz.func118 rfl ?_
  apply wp_seq_k; intro K hK
  apply wp_region_lit
  refine wpList_evalOps (w := w) rfl _ _ [] (seqAct, []) (by kernel_rfl) ?_
  simp only [Exit.then, Exit.inBlock, ↓reduceIte]
  refine hK _ _ ?_
  clear hK K
  apply wp_seq_k; intro K hK
  refine wp_region_list (ops := seqOps) ?_
  refine wpList_evalOps (w := w) rfl _ _ [] r hr ?_
  simp only [Exit.then, Exit.inBlock, ↓reduceIte]
  refine hK _ _ ?_
  clear hK K
  apply wp_ret
  have e4 : r.1.defers = [] := by simpa using e3
  have hres : (results Tryz.f118 r.1.tmps).run Tryz.prog (allocs w r.2) = .ok (.slice (some ⟨w.heap.size + 112, 0, none⟩) 112 112) (allocs w r.2) := by
    rw [← e2]
    exact results_tmp rfl _ _ _
  refine bodyPost_ret hres e4 ?_
  exact ⟨rfl, by rw [e1]⟩
end Go.Proofs.YtiepopbmbgfhkaaGreat
