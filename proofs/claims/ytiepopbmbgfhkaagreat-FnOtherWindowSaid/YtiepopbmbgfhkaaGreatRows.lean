/-
  No cell of these rows narrows 'for every input' (looked for: loops, veiled, ifaces, maps, wideKeys, modest, calm, conditions, laid).
  DERIVED. THE GIVEN ROWS OF THIS SEAT. 6 by the template 'for every input the law returns true; each argument reads behind the call as it read before'; 0 by the template 'total and deterministic' (their statements: YtiepopbmbgfhkaaGreatTotals.lean).
  GIVEN WITH THE SEED: the statements are not yours to turn. If you find one false, say at which input.
  Laid BY PROGRAM, IN A SANDBOX (cutbox-rows.mjs): the forced cells as the released guide's own fill.sh prints them over the translation 58e1da465995e1c5… (all of the seat's roots in one cut). By AI agents, Wed Nov 11 2026. No macro, syntax, notation, axiom, sorry.
-/
import Derived.Test.YtiepopbmbgfhkaaGreatChecked
import GoSem.Claim
import GoSem.ClaimJoined
import GoSem.ClaimMapViews
import Derived.JoinedTies
import Derived.KernelRfl
namespace Go.Proofs.YtiepopbmbgfhkaaGreat
/- THE CELL 'sum', in the pinned program and in every row, IS THE sha256 OF THE DUMP (.gsa) THAT YtiepopbmbgfhkaaGreatProg.lean LOADS. Nothing in Lean hashes anything: it is a label: what it is worth is what the hold of that sum in a sandbox is worth. -/
noncomputable def Tryz.pinned : Pinned := { name := "ytiepopbmbgfhkaagreat", sum := "58e1da465995e1c5c07286ee163c2fca558b2aba337f4c9c1635c5d8d3a36ee4", checked := Tryz.checked }
namespace Rows
def none {H : Type} : Left H := { results := [], args := [] }

/-- 'laws.FnChosenExecuted': WHATEVER THE INPUT: true; the input reads as it did. -/
def fnChosenExecutedSpec : ChangeSpec := { name := "fnChosenExecuted", fn := fun _ => fun
  | [d1, d2, d3, d4] => { results := [.lit (.bool true)], args := [d1, d2, d3, d4] }
  | _ => none }
def fnChosenExecutedRow : OpenClaim := { program := "ytiepopbmbgfhkaagreat", sum := "58e1da465995e1c5c07286ee163c2fca558b2aba337f4c9c1635c5d8d3a36ee4", func := "given.example/pub-keyboardist/laws.FnChosenExecuted", spec := "fnChosenExecuted", inPlace := ["internal/abi.NoEscape", "internal/bytealg.MakeNoZero"], unfollowed := true, recurses := true, apart := false }
def FnChosenExecutedSaid : Prop := fnChosenExecutedRow.holds Tryz.pinned (OpenSpec.ofChange fnChosenExecutedSpec)

/-- ITS FALSE NEIGHBOUR: 'it returns false'. Refute it at one input. -/
def fnChosenExecutedWrong : ChangeSpec := { name := "fnChosenExecuted", fn := fun _ => fun
  | [d1, d2, d3, d4] => { results := [.lit (.bool false)], args := [d1, d2, d3, d4] }
  | _ => none }
def FnChosenExecutedWrongFalsely : Prop := fnChosenExecutedRow.holds Tryz.pinned (OpenSpec.ofChange fnChosenExecutedWrong)

/-- 'laws.FnExecutedAgain': WHATEVER THE INPUT: true; the input reads as it did. -/
def fnExecutedAgainSpec : ChangeSpec := { name := "fnExecutedAgain", fn := fun _ => fun
  | [d1, d2] => { results := [.lit (.bool true)], args := [d1, d2] }
  | _ => none }
def fnExecutedAgainRow : OpenClaim := { program := "ytiepopbmbgfhkaagreat", sum := "58e1da465995e1c5c07286ee163c2fca558b2aba337f4c9c1635c5d8d3a36ee4", func := "given.example/pub-keyboardist/laws.FnExecutedAgain", spec := "fnExecutedAgain", inPlace := ["internal/abi.NoEscape", "internal/bytealg.MakeNoZero"], unfollowed := true, recurses := true, apart := false }
def FnExecutedAgainSaid : Prop := fnExecutedAgainRow.holds Tryz.pinned (OpenSpec.ofChange fnExecutedAgainSpec)

/-- ITS FALSE NEIGHBOUR: 'it returns false'. Refute it at one input. -/
def fnExecutedAgainWrong : ChangeSpec := { name := "fnExecutedAgain", fn := fun _ => fun
  | [d1, d2] => { results := [.lit (.bool false)], args := [d1, d2] }
  | _ => none }
def FnExecutedAgainWrongFalsely : Prop := fnExecutedAgainRow.holds Tryz.pinned (OpenSpec.ofChange fnExecutedAgainWrong)

/-- 'laws.FnHistoryWalk': WHATEVER THE INPUT: true; the input reads as it did. -/
def fnHistoryWalkSpec : ChangeSpec := { name := "fnHistoryWalk", fn := fun _ => fun
  | [d1, d2, d3, d4] => { results := [.lit (.bool true)], args := [d1, d2, d3, d4] }
  | _ => none }
def fnHistoryWalkRow : OpenClaim := { program := "ytiepopbmbgfhkaagreat", sum := "58e1da465995e1c5c07286ee163c2fca558b2aba337f4c9c1635c5d8d3a36ee4", func := "given.example/pub-keyboardist/laws.FnHistoryWalk", spec := "fnHistoryWalk", inPlace := ["internal/abi.NoEscape", "internal/bytealg.MakeNoZero"], unfollowed := true, recurses := true, apart := false }
def FnHistoryWalkSaid : Prop := fnHistoryWalkRow.holds Tryz.pinned (OpenSpec.ofChange fnHistoryWalkSpec)

/-- ITS FALSE NEIGHBOUR: 'it returns false'. Refute it at one input. -/
def fnHistoryWalkWrong : ChangeSpec := { name := "fnHistoryWalk", fn := fun _ => fun
  | [d1, d2, d3, d4] => { results := [.lit (.bool false)], args := [d1, d2, d3, d4] }
  | _ => none }
def FnHistoryWalkWrongFalsely : Prop := fnHistoryWalkRow.holds Tryz.pinned (OpenSpec.ofChange fnHistoryWalkWrong)

/-- 'laws.FnOtherWindow': WHATEVER THE INPUT: true; the input reads as it did. -/
def fnOtherWindowSpec : ChangeSpec := { name := "fnOtherWindow", fn := fun _ => fun
  | [d1, d2, d3, d4, d5] => { results := [.lit (.bool true)], args := [d1, d2, d3, d4, d5] }
  | _ => none }
def fnOtherWindowRow : OpenClaim := { program := "ytiepopbmbgfhkaagreat", sum := "58e1da465995e1c5c07286ee163c2fca558b2aba337f4c9c1635c5d8d3a36ee4", func := "given.example/pub-keyboardist/laws.FnOtherWindow", spec := "fnOtherWindow", inPlace := ["internal/abi.NoEscape", "internal/bytealg.MakeNoZero"], unfollowed := true, recurses := true, apart := false }
def FnOtherWindowSaid : Prop := fnOtherWindowRow.holds Tryz.pinned (OpenSpec.ofChange fnOtherWindowSpec)

/-- ITS FALSE NEIGHBOUR: 'it returns false'. Refute it at one input. -/
def fnOtherWindowWrong : ChangeSpec := { name := "fnOtherWindow", fn := fun _ => fun
  | [d1, d2, d3, d4, d5] => { results := [.lit (.bool false)], args := [d1, d2, d3, d4, d5] }
  | _ => none }
def FnOtherWindowWrongFalsely : Prop := fnOtherWindowRow.holds Tryz.pinned (OpenSpec.ofChange fnOtherWindowWrong)

/-- 'laws.FnPrompted': WHATEVER THE INPUT: true; the input reads as it did. -/
def fnPromptedSpec : ChangeSpec := { name := "fnPrompted", fn := fun _ => fun
  | [d1, d2] => { results := [.lit (.bool true)], args := [d1, d2] }
  | _ => none }
def fnPromptedRow : OpenClaim := { program := "ytiepopbmbgfhkaagreat", sum := "58e1da465995e1c5c07286ee163c2fca558b2aba337f4c9c1635c5d8d3a36ee4", func := "given.example/pub-keyboardist/laws.FnPrompted", spec := "fnPrompted", inPlace := ["internal/abi.NoEscape", "internal/bytealg.MakeNoZero"], unfollowed := true, recurses := true, apart := false }
def FnPromptedSaid : Prop := fnPromptedRow.holds Tryz.pinned (OpenSpec.ofChange fnPromptedSpec)

/-- ITS FALSE NEIGHBOUR: 'it returns false'. Refute it at one input. -/
def fnPromptedWrong : ChangeSpec := { name := "fnPrompted", fn := fun _ => fun
  | [d1, d2] => { results := [.lit (.bool false)], args := [d1, d2] }
  | _ => none }
def FnPromptedWrongFalsely : Prop := fnPromptedRow.holds Tryz.pinned (OpenSpec.ofChange fnPromptedWrong)

/-- 'laws.FnTyped': WHATEVER THE INPUT: true; the input reads as it did. -/
def fnTypedSpec : ChangeSpec := { name := "fnTyped", fn := fun _ => fun
  | [d1, d2, d3] => { results := [.lit (.bool true)], args := [d1, d2, d3] }
  | _ => none }
def fnTypedRow : OpenClaim := { program := "ytiepopbmbgfhkaagreat", sum := "58e1da465995e1c5c07286ee163c2fca558b2aba337f4c9c1635c5d8d3a36ee4", func := "given.example/pub-keyboardist/laws.FnTyped", spec := "fnTyped", inPlace := ["internal/abi.NoEscape", "internal/bytealg.MakeNoZero"], unfollowed := true, recurses := true, apart := false }
def FnTypedSaid : Prop := fnTypedRow.holds Tryz.pinned (OpenSpec.ofChange fnTypedSpec)

/-- ITS FALSE NEIGHBOUR: 'it returns false'. Refute it at one input. -/
def fnTypedWrong : ChangeSpec := { name := "fnTyped", fn := fun _ => fun
  | [d1, d2, d3] => { results := [.lit (.bool false)], args := [d1, d2, d3] }
  | _ => none }
def FnTypedWrongFalsely : Prop := fnTypedRow.holds Tryz.pinned (OpenSpec.ofChange fnTypedWrong)

/- THE SECOND FORM. 'bulk': how many values and letters a reading holds, each counted each time it is reached (what is shared counts as often as it is met; a slice's spare places count too). A statement '..UptoSaid' is the law's where the arguments, and the package variables that the reading takes, are together of bulk at most 1048576: NARROWER than '..Said'. Prove '..Said' where nothing that the law and all that it calls make is longer than what came in: it says more and counts as full. Else prove '..UptoSaid'. A law counts once. -/
mutual
def uptoBulk {H : Type} : DataW H → Nat
  | .lit (.string bytes) => bytes.length + 1
  | .lit _ => 1
  | .nil => 1
  | .ptr d => uptoBulk d + 1
  | .slice elems spare => uptoBulkAll elems + uptoBulkAll spare + 1
  | .agg parts => uptoBulkAll parts + 1
  | .iface _ d => uptoBulk d + 1
  | .map entries => uptoBulkEntries entries + 1
  | .held _ => 1
def uptoBulkAll {H : Type} : List (DataW H) → Nat
  | [] => 0
  | d :: r => uptoBulk d + uptoBulkAll r
def uptoBulkEntries {H : Type} : List (Lit × DataW H) → Nat
  | [] => 0
  | x :: r => uptoBulkEntry x + uptoBulkEntries r
def uptoBulkEntry {H : Type} : Lit × DataW H → Nat
  | (.string bytes, d) => bytes.length + uptoBulk d + 1
  | (_, d) => uptoBulk d + 1
 end
def uptoSmall : (H : Type) → List (DataW H) → Bool := fun _ ds => decide (uptoBulkAll ds ≤ 1048576)
def OpenSpec.upto (s : _root_.Go.ChangeSpec) : _root_.Go.OpenSpec := { _root_.Go.OpenSpec.ofChange s with cond := some uptoSmall }

/-- 'laws.FnChosenExecuted', WHERE WHAT IT READS IS OF BULK AT MOST 1048576: true; the input reads as it did. -/
def fnChosenExecutedUptoRow : OpenClaim := { program := "ytiepopbmbgfhkaagreat", sum := "58e1da465995e1c5c07286ee163c2fca558b2aba337f4c9c1635c5d8d3a36ee4", func := "given.example/pub-keyboardist/laws.FnChosenExecuted", spec := "fnChosenExecuted", inPlace := ["internal/abi.NoEscape", "internal/bytealg.MakeNoZero"], unfollowed := true, recurses := true, apart := false, narrowed := true }
def FnChosenExecutedUptoSaid : Prop := fnChosenExecutedUptoRow.holds Tryz.pinned (OpenSpec.upto fnChosenExecutedSpec)

/-- 'laws.FnExecutedAgain', WHERE WHAT IT READS IS OF BULK AT MOST 1048576: true; the input reads as it did. -/
def fnExecutedAgainUptoRow : OpenClaim := { program := "ytiepopbmbgfhkaagreat", sum := "58e1da465995e1c5c07286ee163c2fca558b2aba337f4c9c1635c5d8d3a36ee4", func := "given.example/pub-keyboardist/laws.FnExecutedAgain", spec := "fnExecutedAgain", inPlace := ["internal/abi.NoEscape", "internal/bytealg.MakeNoZero"], unfollowed := true, recurses := true, apart := false, narrowed := true }
def FnExecutedAgainUptoSaid : Prop := fnExecutedAgainUptoRow.holds Tryz.pinned (OpenSpec.upto fnExecutedAgainSpec)

/-- 'laws.FnHistoryWalk', WHERE WHAT IT READS IS OF BULK AT MOST 1048576: true; the input reads as it did. -/
def fnHistoryWalkUptoRow : OpenClaim := { program := "ytiepopbmbgfhkaagreat", sum := "58e1da465995e1c5c07286ee163c2fca558b2aba337f4c9c1635c5d8d3a36ee4", func := "given.example/pub-keyboardist/laws.FnHistoryWalk", spec := "fnHistoryWalk", inPlace := ["internal/abi.NoEscape", "internal/bytealg.MakeNoZero"], unfollowed := true, recurses := true, apart := false, narrowed := true }
def FnHistoryWalkUptoSaid : Prop := fnHistoryWalkUptoRow.holds Tryz.pinned (OpenSpec.upto fnHistoryWalkSpec)

/-- 'laws.FnOtherWindow', WHERE WHAT IT READS IS OF BULK AT MOST 1048576: true; the input reads as it did. -/
def fnOtherWindowUptoRow : OpenClaim := { program := "ytiepopbmbgfhkaagreat", sum := "58e1da465995e1c5c07286ee163c2fca558b2aba337f4c9c1635c5d8d3a36ee4", func := "given.example/pub-keyboardist/laws.FnOtherWindow", spec := "fnOtherWindow", inPlace := ["internal/abi.NoEscape", "internal/bytealg.MakeNoZero"], unfollowed := true, recurses := true, apart := false, narrowed := true }
def FnOtherWindowUptoSaid : Prop := fnOtherWindowUptoRow.holds Tryz.pinned (OpenSpec.upto fnOtherWindowSpec)

/-- 'laws.FnPrompted', WHERE WHAT IT READS IS OF BULK AT MOST 1048576: true; the input reads as it did. -/
def fnPromptedUptoRow : OpenClaim := { program := "ytiepopbmbgfhkaagreat", sum := "58e1da465995e1c5c07286ee163c2fca558b2aba337f4c9c1635c5d8d3a36ee4", func := "given.example/pub-keyboardist/laws.FnPrompted", spec := "fnPrompted", inPlace := ["internal/abi.NoEscape", "internal/bytealg.MakeNoZero"], unfollowed := true, recurses := true, apart := false, narrowed := true }
def FnPromptedUptoSaid : Prop := fnPromptedUptoRow.holds Tryz.pinned (OpenSpec.upto fnPromptedSpec)

/-- 'laws.FnTyped', WHERE WHAT IT READS IS OF BULK AT MOST 1048576: true; the input reads as it did. -/
def fnTypedUptoRow : OpenClaim := { program := "ytiepopbmbgfhkaagreat", sum := "58e1da465995e1c5c07286ee163c2fca558b2aba337f4c9c1635c5d8d3a36ee4", func := "given.example/pub-keyboardist/laws.FnTyped", spec := "fnTyped", inPlace := ["internal/abi.NoEscape", "internal/bytealg.MakeNoZero"], unfollowed := true, recurses := true, apart := false, narrowed := true }
def FnTypedUptoSaid : Prop := fnTypedUptoRow.holds Tryz.pinned (OpenSpec.upto fnTypedSpec)

end Rows
end Go.Proofs.YtiepopbmbgfhkaaGreat
