/-
  NARROWER THAN 'FOR EVERY INPUT', by the rows' own cells (each row's printed sentence says how): FnSortedKeysInsertOneKey: maps · FnSortedKeysOfUnionIsMerge: maps.
  DERIVED. THE GIVEN ROWS OF THIS SEAT. 3 by the template 'for every input the law returns true; each argument reads behind the call as it read before'; 0 by the template 'total and deterministic' (their statements: Qxb6615552aTotals.lean).
  GIVEN WITH THE SEED: the statements are not yours to turn. If you find one false, say at which input.
  Laid BY PROGRAM, IN A SANDBOX (cutbox-rows.mjs): the forced cells as the released guide's own fill.sh prints them over the translation 478b371780744842… (all of the seat's roots in one cut). By AI agents, Wed Nov 11 2026. No macro, syntax, notation, axiom, sorry.
-/
import Derived.Test.Qxb6615552aChecked
import GoSem.Claim
import GoSem.ClaimJoined
import GoSem.ClaimMapViews
import Derived.JoinedTies
import Derived.KernelRfl
namespace Go.Proofs.Qxb6615552a
/- THE CELL 'sum', in the pinned program and in every row, IS THE sha256 OF THE DUMP (.gsa) THAT Qxb6615552aProg.lean LOADS. Nothing in Lean hashes anything: it is a label: what it is worth is what the hold of that sum in a sandbox is worth. -/
noncomputable def Try.pinned : Pinned := { name := "qxb6615552a", sum := "478b3717807448427cc53c2e3962ff305774ba72418ac0ec3ed3224f73de27b4", checked := Try.checked }
namespace Rows
def none {H : Type} : Left H := { results := [], args := [] }

/-- 'zzlaws_root_b1.FnSortedKeysInsertOneKey': WHATEVER THE INPUT: true; the input reads as it did. -/
def fnSortedKeysInsertOneKeySpec : ChangeSpec := { name := "fnSortedKeysInsertOneKey", fn := fun _ => fun
  | [d1, d2, d3] => { results := [.lit (.bool true)], args := [d1, d2, d3] }
  | _ => none }
def fnSortedKeysInsertOneKeyRow : OpenClaim := { program := "qxb6615552a", sum := "478b3717807448427cc53c2e3962ff305774ba72418ac0ec3ed3224f73de27b4", func := "example.com/envlayer/envlayer/zzlaws_root_b1.FnSortedKeysInsertOneKey", spec := "fnSortedKeysInsertOneKey", recurses := true, maps := true, apart := false }
def FnSortedKeysInsertOneKeySaid : Prop := fnSortedKeysInsertOneKeyRow.holds Try.pinned (OpenSpec.ofChange fnSortedKeysInsertOneKeySpec)

/-- ITS FALSE NEIGHBOUR: 'it returns false'. Refute it at one input. -/
def fnSortedKeysInsertOneKeyWrong : ChangeSpec := { name := "fnSortedKeysInsertOneKey", fn := fun _ => fun
  | [d1, d2, d3] => { results := [.lit (.bool false)], args := [d1, d2, d3] }
  | _ => none }
def FnSortedKeysInsertOneKeyWrongFalsely : Prop := fnSortedKeysInsertOneKeyRow.holds Try.pinned (OpenSpec.ofChange fnSortedKeysInsertOneKeyWrong)

/-- 'zzlaws_root_b1.FnSortedKeysOfUnionIsMerge': WHATEVER THE INPUT: true; the input reads as it did. -/
def fnSortedKeysOfUnionIsMergeSpec : ChangeSpec := { name := "fnSortedKeysOfUnionIsMerge", fn := fun _ => fun
  | [d1, d2] => { results := [.lit (.bool true)], args := [d1, d2] }
  | _ => none }
def fnSortedKeysOfUnionIsMergeRow : OpenClaim := { program := "qxb6615552a", sum := "478b3717807448427cc53c2e3962ff305774ba72418ac0ec3ed3224f73de27b4", func := "example.com/envlayer/envlayer/zzlaws_root_b1.FnSortedKeysOfUnionIsMerge", spec := "fnSortedKeysOfUnionIsMerge", recurses := true, maps := true, apart := false }
def FnSortedKeysOfUnionIsMergeSaid : Prop := fnSortedKeysOfUnionIsMergeRow.holds Try.pinned (OpenSpec.ofChange fnSortedKeysOfUnionIsMergeSpec)

/-- ITS FALSE NEIGHBOUR: 'it returns false'. Refute it at one input. -/
def fnSortedKeysOfUnionIsMergeWrong : ChangeSpec := { name := "fnSortedKeysOfUnionIsMerge", fn := fun _ => fun
  | [d1, d2] => { results := [.lit (.bool false)], args := [d1, d2] }
  | _ => none }
def FnSortedKeysOfUnionIsMergeWrongFalsely : Prop := fnSortedKeysOfUnionIsMergeRow.holds Try.pinned (OpenSpec.ofChange fnSortedKeysOfUnionIsMergeWrong)

/-- 'zzlaws_root_b1.FnAtLineEndStopsAtEachLineFeedAndTheEnd': WHATEVER THE INPUT: true; the input reads as it did. -/
def fnAtLineEndStopsAtEachLineFeedAndTheEndSpec : ChangeSpec := { name := "fnAtLineEndStopsAtEachLineFeedAndTheEnd", fn := fun _ => fun
  | [d1, d2, d3, d4, d5] => { results := [.lit (.bool true)], args := [d1, d2, d3, d4, d5] }
  | _ => none }
def fnAtLineEndStopsAtEachLineFeedAndTheEndRow : OpenClaim := { program := "qxb6615552a", sum := "478b3717807448427cc53c2e3962ff305774ba72418ac0ec3ed3224f73de27b4", func := "example.com/envlayer/envlayer/zzlaws_root_b1.FnAtLineEndStopsAtEachLineFeedAndTheEnd", spec := "fnAtLineEndStopsAtEachLineFeedAndTheEnd", apart := false }
def FnAtLineEndStopsAtEachLineFeedAndTheEndSaid : Prop := fnAtLineEndStopsAtEachLineFeedAndTheEndRow.holds Try.pinned (OpenSpec.ofChange fnAtLineEndStopsAtEachLineFeedAndTheEndSpec)

/-- ITS FALSE NEIGHBOUR: 'it returns false'. Refute it at one input. -/
def fnAtLineEndStopsAtEachLineFeedAndTheEndWrong : ChangeSpec := { name := "fnAtLineEndStopsAtEachLineFeedAndTheEnd", fn := fun _ => fun
  | [d1, d2, d3, d4, d5] => { results := [.lit (.bool false)], args := [d1, d2, d3, d4, d5] }
  | _ => none }
def FnAtLineEndStopsAtEachLineFeedAndTheEndWrongFalsely : Prop := fnAtLineEndStopsAtEachLineFeedAndTheEndRow.holds Try.pinned (OpenSpec.ofChange fnAtLineEndStopsAtEachLineFeedAndTheEndWrong)

end Rows
end Go.Proofs.Qxb6615552a
