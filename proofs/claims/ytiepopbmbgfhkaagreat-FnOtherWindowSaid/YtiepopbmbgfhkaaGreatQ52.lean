/-
  FnOtherWindow returns true for every input, and leaves its arguments as they were.
-/
import Derived.Test.YtiepopbmbgfhkaaGreatRows
import Derived.Test.YtiepopbmbgfhkaaGreatQ50
import Derived.Test.YtiepopbmbgfhkaaGreatQ51
import Derived.WalkKit
import Derived.ProofKit
import Derived.OpenShut
import Derived.ShutString
import Derived.ChangeOld
import Derived.Below
import Derived.HandedShaped
namespace Go.Proofs.YtiepopbmbgfhkaaGreat.fnOtherWindow
open Go.ChangeShapes Go.WideShapes Go.ChangeAt Go.RowKit
open Go.ChangeMaps (open_string shut_string)
set_option linter.unusedVariables false
theorem own : ownKnob Tryz.prog.godebug = none := by kernel_rfl
theorem laidOut : laidOutB Tryz.prog = true := by kernel_rfl
set_option maxRecDepth 100000 in
theorem lifted (os : Os) (started : os.Started) (H : Type) (enc : TypeId × Value → H) :
    ReturnsInHanded {} Tryz.checked os 6 .any (Rows.fnOtherWindowSpec.pre6 enc Tryz.prog Tryz.f6 Rows.fnOtherWindowRow.domain false) (Rows.fnOtherWindowSpec.post enc Tryz.prog Tryz.f6 false true false false) := by
  refine returnsInHanded_of_change_shaped (C := Tryz.checked) own started (by kernel_rfl) Tryz.func6
    (ChangeSpec.witness6 (enc := enc) (C := Tryz.checked) false ⟨#[], #[.agg #[.string ByteArray.empty, .slice none 0 0, .int .i64 0, .int .i64 0, .bool false, .bool false, .string ByteArray.empty, .slice none 0 0, .string ByteArray.empty, .bool false, .string ByteArray.empty], .slice none 0 0, .string ByteArray.empty, .int .u8 0, .int .u8 0], []⟩ 8 (by kernel_rfl) (by kernel_rfl) (by kernel_rfl) (by kernel_rfl)) ?_
  intro W base args ds gs before hval0 hW hcnd hsz0 hshape _
  have hval : ∀ (j : Nat) t v, Tryz.f6.params[j]? = some t → args[j]? = some v → Value.okWide Tryz.prog W .any base t v := hval0
  have hW' := hW
  obtain ⟨p, q, hA0, hV, rfl, hfz, hnd⟩ := hW
  have hA : DataW.TrodAll enc Tryz.prog W 0 (fun _ => true) true Tryz.f6.params.toList args.toList ds p := hA0
  rw [Tryz.params6] at hA hval
  obtain ⟨v0, vs0, d0, ds0, p0, q0, hargs, rfl, rfl, h0, r0⟩ := trodAll_cons hA
  obtain ⟨v1, vs1, d1, ds1, p1, q1, rfl, rfl, rfl, h1, r1⟩ := trodAll_cons r0
  obtain ⟨v2, vs2, d2, ds2, p2, q2, rfl, rfl, rfl, h2, r2⟩ := trodAll_cons r1
  obtain ⟨v3, vs3, d3, ds3, p3, q3, rfl, rfl, rfl, h3, r3⟩ := trodAll_cons r2
  obtain ⟨v4, vs4, d4, ds4, p4, q4, rfl, rfl, rfl, h4, r4⟩ := trodAll_cons r3
  obtain ⟨rfl, rfl, rfl⟩ := trodAll_nil r4
  obtain rfl : args = #[v0, v1, v2, v3, v4] := by cases args; simp_all
  obtain ⟨rfl, rfl⟩ := trodVars_none hV
  have lt0 : ∀ x ∈ p0, x.block < W.heap.size := by obtain ⟨m, hm⟩ := h0; exact DataW.trod_lt m _ _ _ hm
  have lt1 : ∀ x ∈ p1, x.block < W.heap.size := by obtain ⟨m, hm⟩ := h1; exact DataW.trod_lt m _ _ _ hm
  have k0 := h0
  have k1 := h1
  obtain ⟨S, ov, hv, rfl, hO, hH, hps, hos, z2, z3⟩ := open_sess (hval 0 25 v0 rfl rfl) h0
  obtain ⟨ta, tn, tc, rfl⟩ := okWide_slice Tryz.underlying23 (hval 1 23 v1 rfl rfl)
  have hTN : ∀ A n c, (Value.slice ta tn tc) = .slice (some A) n c → A.block < W.heap.size := by
    intro A n c e
    have h9 : Value.okWide Tryz.prog W .any base 23 (.slice ta tn tc) := hval 1 23 _ rfl rfl
    rw [e] at h9
    simp only [Value.okWide, Tryz.underlying23, Cell.okWide, Cell.ok, World.has] at h9
    obtain ⟨-, -, -, -, row, cells, hsh, -⟩ := h9
    rcases Nat.lt_or_ge A.block W.heap.size with hlt | hge
    · exact hlt
    · have hn : W.heap[A.block]? = none := Array.getElem?_eq_none hge
      simp [World.shape?, hn] at hsh
  obtain ⟨fuel1, hf1⟩ := h1
  obtain ⟨tv, texts, etv, hT, htz, -⟩ := open_texts hf1
  obtain rfl : Value.slice ta tn tc = tv := by simpa [Value.cells] using etv
  obtain ⟨a2, rfl, rfl, rfl, y2⟩ := open_string Tryz.underlying9 (hval 2 9 v2 rfl rfl) h2
  obtain ⟨up, rfl, rfl, rfl, y3⟩ := open_int Tryz.underlying5 (hval 3 5 v3 rfl rfl) h3
  obtain ⟨un, rfl, hun⟩ : ∃ un : Nat, up = (un : Int) ∧ un ≤ 255 := by
    have h9 := y3
    simp [Lit.wf] at h9
    have e1 : IntKind.u8.min = 0 := by decide
    have e2 : IntKind.u8.max = 255 := by decide
    rw [e1, e2] at h9
    exact ⟨up.toNat, by omega, by omega⟩
  obtain ⟨uc, rfl, rfl, rfl, y4⟩ := open_int Tryz.underlying5 (hval 4 5 v4 rfl rfl) h4
  obtain ⟨cn, rfl, hcn⟩ : ∃ cn : Nat, uc = (cn : Int) ∧ cn ≤ 255 := by
    have h9 := y4
    simp [Lit.wf] at h9
    have e1 : IntKind.u8.min = 0 := by decide
    have e2 : IntKind.u8.max = 255 := by decide
    rw [e1, e2] at h9
    exact ⟨uc.toNat, by omega, by omega⟩
  have htab : Tab W := tab_of hshape
  have hw : 1 ≤ W.heap.size := by
    obtain ⟨c, hc⟩ := htab
    have := World.block_lt_of_cell? W _ hc
    omega
  refine (other_c (S := S) (ov := ov) (hv := hv) (tv := .slice ta tn tc) (chunks := texts) (prefx := a2) (most := un) (cols := cn) hw htab hO hH hT hTN hps hos htz y2 hun hcn).mono fun e W' ⟨he, hF⟩ => ?_
  subst he
  have bel : Below W.heap.size W W' := ⟨hF.os, hF.tape, hF.output, hF.size, fun k hk => hF.keep k hk (.inr ⟨by simp, by simp⟩)⟩
  exact ⟨_, rfl, _, _, _, [], _, [], hW', trodAll_mk1 (shut_bool Tryz.underlying4 _), (trodAll_cons_mk (Below.trod laidOut (by kernel_rfl) (of_decide_eq_true (by kernel_rfl)) k0 bel lt0) (trodAll_cons_mk (Below.trod laidOut (by kernel_rfl) (of_decide_eq_true (by kernel_rfl)) k1 bel lt1) (trodAll_cons_mk (shut_string Tryz.underlying9 y2) (trodAll_cons_mk (shut_int Tryz.underlying5 y3) (trodAll_cons_mk (shut_int Tryz.underlying5 y4) trodAll_mk0))))), rfl, bel.frame _, fun h => by cases h⟩
theorem over : Rows.fnOtherWindowRow.holds Tryz.pinned (OpenSpec.ofChange Rows.fnOtherWindowSpec) :=
  OpenClaim.holds_of_wide 6 Tryz.f6 rfl rfl rfl rfl rfl rfl rfl ⟨rfl, rfl, rfl, rfl, rfl⟩ rfl rfl rfl rfl rfl (by kernel_rfl) Tryz.func6 (by kernel_rfl)
    (of_decide_eq_true (by kernel_rfl)) (by unfold Func.isWrapper; first | (rw [if_pos (by decide +kernel)]; kernel_rfl) | (rw [if_neg (by decide +kernel)]; exact ⟨rfl, rfl⟩))
    (fun os started H enc _ => lifted os started H enc)
theorem proved : Rows.FnOtherWindowSaid := over
#print axioms proved
end Go.Proofs.YtiepopbmbgfhkaaGreat.fnOtherWindow
namespace Go.Proofs.YtiepopbmbgfhkaaGreat
/-- The row, under a short name, for the claim. -/
theorem fnOtherWindow_holds : Rows.FnOtherWindowSaid := fnOtherWindow.proved
end Go.Proofs.YtiepopbmbgfhkaaGreat
