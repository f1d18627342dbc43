/-
  No cell of these rows narrows 'for every input' (looked for: loops, veiled, ifaces, maps, wideKeys, modest, calm, conditions, laid).
  DERIVED. THE GIVEN ROWS OF THIS SEAT. 8 by the template 'for every input the law returns true; each argument reads behind the call as it read before'; 0 by the template 'total and deterministic' (their statements: Qxb6000749aTotals.lean).
  GIVEN WITH THE SEED: the statements are not yours to turn. If you find one false, say at which input.
  Laid BY PROGRAM, IN A SANDBOX (cutbox-rows.mjs): the forced cells as the released guide's own fill.sh prints them over the translation b56dc959c72e5583… (all of the seat's roots in one cut). By AI agents, Wed Nov 11 2026. No macro, syntax, notation, axiom, sorry.
-/
import Derived.Test.Qxb6000749aChecked
import GoSem.Claim
import GoSem.ClaimJoined
import GoSem.ClaimMapViews
import Derived.JoinedTies
import Derived.KernelRfl
namespace Go.Proofs.Qxb6000749a
/- THE CELL 'sum', in the pinned program and in every row, IS THE sha256 OF THE DUMP (.gsa) THAT Qxb6000749aProg.lean LOADS. Nothing in Lean hashes anything: it is a label: what it is worth is what the hold of that sum in a sandbox is worth. -/
noncomputable def Try.pinned : Pinned := { name := "qxb6000749a", sum := "b56dc959c72e5583adea680c1d32bef293ef5e3b56d8dcee9fa1ff5333998be5", checked := Try.checked }
namespace Rows
def none {H : Type} : Left H := { results := [], args := [] }

/-- 'zzlaws_root_b1.FnLeavesBagMatchesElementModel': WHATEVER THE INPUT: true; the input reads as it did. -/
def fnLeavesBagMatchesElementModelSpec : ChangeSpec := { name := "fnLeavesBagMatchesElementModel", fn := fun _ => fun
  | [d] => { results := [.lit (.bool true)], args := [d] }
  | _ => none }
def fnLeavesBagMatchesElementModelRow : OpenClaim := { program := "qxb6000749a", sum := "b56dc959c72e5583adea680c1d32bef293ef5e3b56d8dcee9fa1ff5333998be5", func := "example.com/holdall/holdall/zzlaws_root_b1.FnLeavesBagMatchesElementModel", spec := "fnLeavesBagMatchesElementModel", inPlace := ["internal/bytealg.IndexByteString", "internal/bytealg.IndexString"], named := ["internal/bytealg.MaxLen"], apart := false }
def FnLeavesBagMatchesElementModelSaid : Prop := fnLeavesBagMatchesElementModelRow.holds Try.pinned (OpenSpec.ofChange fnLeavesBagMatchesElementModelSpec)

/-- ITS FALSE NEIGHBOUR: 'it returns false'. Refute it at one input. -/
def fnLeavesBagMatchesElementModelWrong : ChangeSpec := { name := "fnLeavesBagMatchesElementModel", fn := fun _ => fun
  | [d] => { results := [.lit (.bool false)], args := [d] }
  | _ => none }
def FnLeavesBagMatchesElementModelWrongFalsely : Prop := fnLeavesBagMatchesElementModelRow.holds Try.pinned (OpenSpec.ofChange fnLeavesBagMatchesElementModelWrong)

/-- 'zzlaws_root_b1.FnLeavesBagJoinKeepsInsideAndDotDotLeaves': WHATEVER THE INPUT: true; the input reads as it did. -/
def fnLeavesBagJoinKeepsInsideAndDotDotLeavesSpec : ChangeSpec := { name := "fnLeavesBagJoinKeepsInsideAndDotDotLeaves", fn := fun _ => fun
  | [d1, d2] => { results := [.lit (.bool true)], args := [d1, d2] }
  | _ => none }
def fnLeavesBagJoinKeepsInsideAndDotDotLeavesRow : OpenClaim := { program := "qxb6000749a", sum := "b56dc959c72e5583adea680c1d32bef293ef5e3b56d8dcee9fa1ff5333998be5", func := "example.com/holdall/holdall/zzlaws_root_b1.FnLeavesBagJoinKeepsInsideAndDotDotLeaves", spec := "fnLeavesBagJoinKeepsInsideAndDotDotLeaves", inPlace := ["internal/bytealg.IndexByteString", "internal/bytealg.IndexString"], named := ["internal/bytealg.MaxLen"], apart := false }
def FnLeavesBagJoinKeepsInsideAndDotDotLeavesSaid : Prop := fnLeavesBagJoinKeepsInsideAndDotDotLeavesRow.holds Try.pinned (OpenSpec.ofChange fnLeavesBagJoinKeepsInsideAndDotDotLeavesSpec)

/-- ITS FALSE NEIGHBOUR: 'it returns false'. Refute it at one input. -/
def fnLeavesBagJoinKeepsInsideAndDotDotLeavesWrong : ChangeSpec := { name := "fnLeavesBagJoinKeepsInsideAndDotDotLeaves", fn := fun _ => fun
  | [d1, d2] => { results := [.lit (.bool false)], args := [d1, d2] }
  | _ => none }
def FnLeavesBagJoinKeepsInsideAndDotDotLeavesWrongFalsely : Prop := fnLeavesBagJoinKeepsInsideAndDotDotLeavesRow.holds Try.pinned (OpenSpec.ofChange fnLeavesBagJoinKeepsInsideAndDotDotLeavesWrong)

/-- 'zzlaws_root_b1.FnDirLessMatchesSentinelOrder': WHATEVER THE INPUT: true; the input reads as it did. -/
def fnDirLessMatchesSentinelOrderSpec : ChangeSpec := { name := "fnDirLessMatchesSentinelOrder", fn := fun _ => fun
  | [d1, d2] => { results := [.lit (.bool true)], args := [d1, d2] }
  | _ => none }
def fnDirLessMatchesSentinelOrderRow : OpenClaim := { program := "qxb6000749a", sum := "b56dc959c72e5583adea680c1d32bef293ef5e3b56d8dcee9fa1ff5333998be5", func := "example.com/holdall/holdall/zzlaws_root_b1.FnDirLessMatchesSentinelOrder", spec := "fnDirLessMatchesSentinelOrder", apart := false }
def FnDirLessMatchesSentinelOrderSaid : Prop := fnDirLessMatchesSentinelOrderRow.holds Try.pinned (OpenSpec.ofChange fnDirLessMatchesSentinelOrderSpec)

/-- ITS FALSE NEIGHBOUR: 'it returns false'. Refute it at one input. -/
def fnDirLessMatchesSentinelOrderWrong : ChangeSpec := { name := "fnDirLessMatchesSentinelOrder", fn := fun _ => fun
  | [d1, d2] => { results := [.lit (.bool false)], args := [d1, d2] }
  | _ => none }
def FnDirLessMatchesSentinelOrderWrongFalsely : Prop := fnDirLessMatchesSentinelOrderRow.holds Try.pinned (OpenSpec.ofChange fnDirLessMatchesSentinelOrderWrong)

/-- 'zzlaws_root_b1.FnDirLessIsStrictTotalOrder': WHATEVER THE INPUT: true; the input reads as it did. -/
def fnDirLessIsStrictTotalOrderSpec : ChangeSpec := { name := "fnDirLessIsStrictTotalOrder", fn := fun _ => fun
  | [d1, d2, d3] => { results := [.lit (.bool true)], args := [d1, d2, d3] }
  | _ => none }
def fnDirLessIsStrictTotalOrderRow : OpenClaim := { program := "qxb6000749a", sum := "b56dc959c72e5583adea680c1d32bef293ef5e3b56d8dcee9fa1ff5333998be5", func := "example.com/holdall/holdall/zzlaws_root_b1.FnDirLessIsStrictTotalOrder", spec := "fnDirLessIsStrictTotalOrder", apart := false }
def FnDirLessIsStrictTotalOrderSaid : Prop := fnDirLessIsStrictTotalOrderRow.holds Try.pinned (OpenSpec.ofChange fnDirLessIsStrictTotalOrderSpec)

/-- ITS FALSE NEIGHBOUR: 'it returns false'. Refute it at one input. -/
def fnDirLessIsStrictTotalOrderWrong : ChangeSpec := { name := "fnDirLessIsStrictTotalOrder", fn := fun _ => fun
  | [d1, d2, d3] => { results := [.lit (.bool false)], args := [d1, d2, d3] }
  | _ => none }
def FnDirLessIsStrictTotalOrderWrongFalsely : Prop := fnDirLessIsStrictTotalOrderRow.holds Try.pinned (OpenSpec.ofChange fnDirLessIsStrictTotalOrderWrong)

/-- 'zzlaws_root_b1.FnDirLessKeepsSubtreesTogether': WHATEVER THE INPUT: true; the input reads as it did. -/
def fnDirLessKeepsSubtreesTogetherSpec : ChangeSpec := { name := "fnDirLessKeepsSubtreesTogether", fn := fun _ => fun
  | [d1, d2, d3, d4] => { results := [.lit (.bool true)], args := [d1, d2, d3, d4] }
  | _ => none }
def fnDirLessKeepsSubtreesTogetherRow : OpenClaim := { program := "qxb6000749a", sum := "b56dc959c72e5583adea680c1d32bef293ef5e3b56d8dcee9fa1ff5333998be5", func := "example.com/holdall/holdall/zzlaws_root_b1.FnDirLessKeepsSubtreesTogether", spec := "fnDirLessKeepsSubtreesTogether", apart := false }
def FnDirLessKeepsSubtreesTogetherSaid : Prop := fnDirLessKeepsSubtreesTogetherRow.holds Try.pinned (OpenSpec.ofChange fnDirLessKeepsSubtreesTogetherSpec)

/-- ITS FALSE NEIGHBOUR: 'it returns false'. Refute it at one input. -/
def fnDirLessKeepsSubtreesTogetherWrong : ChangeSpec := { name := "fnDirLessKeepsSubtreesTogether", fn := fun _ => fun
  | [d1, d2, d3, d4] => { results := [.lit (.bool false)], args := [d1, d2, d3, d4] }
  | _ => none }
def FnDirLessKeepsSubtreesTogetherWrongFalsely : Prop := fnDirLessKeepsSubtreesTogetherRow.holds Try.pinned (OpenSpec.ofChange fnDirLessKeepsSubtreesTogetherWrong)

/-- 'zzlaws_root_b1.FnTallyKeepsDistinctFormsInFirstOrder': WHATEVER THE INPUT: true; the input reads as it did. -/
def fnTallyKeepsDistinctFormsInFirstOrderSpec : ChangeSpec := { name := "fnTallyKeepsDistinctFormsInFirstOrder", fn := fun _ => fun
  | [d] => { results := [.lit (.bool true)], args := [d] }
  | _ => none }
def fnTallyKeepsDistinctFormsInFirstOrderRow : OpenClaim := { program := "qxb6000749a", sum := "b56dc959c72e5583adea680c1d32bef293ef5e3b56d8dcee9fa1ff5333998be5", func := "example.com/holdall/holdall/zzlaws_root_b1.FnTallyKeepsDistinctFormsInFirstOrder", spec := "fnTallyKeepsDistinctFormsInFirstOrder", apart := false }
def FnTallyKeepsDistinctFormsInFirstOrderSaid : Prop := fnTallyKeepsDistinctFormsInFirstOrderRow.holds Try.pinned (OpenSpec.ofChange fnTallyKeepsDistinctFormsInFirstOrderSpec)

/-- ITS FALSE NEIGHBOUR: 'it returns false'. Refute it at one input. -/
def fnTallyKeepsDistinctFormsInFirstOrderWrong : ChangeSpec := { name := "fnTallyKeepsDistinctFormsInFirstOrder", fn := fun _ => fun
  | [d] => { results := [.lit (.bool false)], args := [d] }
  | _ => none }
def FnTallyKeepsDistinctFormsInFirstOrderWrongFalsely : Prop := fnTallyKeepsDistinctFormsInFirstOrderRow.holds Try.pinned (OpenSpec.ofChange fnTallyKeepsDistinctFormsInFirstOrderWrong)

/-- 'zzlaws_root_b1.FnTallyCountsEachFormsLines': WHATEVER THE INPUT: true; the input reads as it did. -/
def fnTallyCountsEachFormsLinesSpec : ChangeSpec := { name := "fnTallyCountsEachFormsLines", fn := fun _ => fun
  | [d] => { results := [.lit (.bool true)], args := [d] }
  | _ => none }
def fnTallyCountsEachFormsLinesRow : OpenClaim := { program := "qxb6000749a", sum := "b56dc959c72e5583adea680c1d32bef293ef5e3b56d8dcee9fa1ff5333998be5", func := "example.com/holdall/holdall/zzlaws_root_b1.FnTallyCountsEachFormsLines", spec := "fnTallyCountsEachFormsLines", apart := false }
def FnTallyCountsEachFormsLinesSaid : Prop := fnTallyCountsEachFormsLinesRow.holds Try.pinned (OpenSpec.ofChange fnTallyCountsEachFormsLinesSpec)

/-- ITS FALSE NEIGHBOUR: 'it returns false'. Refute it at one input. -/
def fnTallyCountsEachFormsLinesWrong : ChangeSpec := { name := "fnTallyCountsEachFormsLines", fn := fun _ => fun
  | [d] => { results := [.lit (.bool false)], args := [d] }
  | _ => none }
def FnTallyCountsEachFormsLinesWrongFalsely : Prop := fnTallyCountsEachFormsLinesRow.holds Try.pinned (OpenSpec.ofChange fnTallyCountsEachFormsLinesWrong)

/-- 'zzlaws_root_b1.FnTallyOfIsIdempotent': WHATEVER THE INPUT: true; the input reads as it did. -/
def fnTallyOfIsIdempotentSpec : ChangeSpec := { name := "fnTallyOfIsIdempotent", fn := fun _ => fun
  | [d1, d2] => { results := [.lit (.bool true)], args := [d1, d2] }
  | _ => none }
def fnTallyOfIsIdempotentRow : OpenClaim := { program := "qxb6000749a", sum := "b56dc959c72e5583adea680c1d32bef293ef5e3b56d8dcee9fa1ff5333998be5", func := "example.com/holdall/holdall/zzlaws_root_b1.FnTallyOfIsIdempotent", spec := "fnTallyOfIsIdempotent", apart := false }
def FnTallyOfIsIdempotentSaid : Prop := fnTallyOfIsIdempotentRow.holds Try.pinned (OpenSpec.ofChange fnTallyOfIsIdempotentSpec)

/-- ITS FALSE NEIGHBOUR: 'it returns false'. Refute it at one input. -/
def fnTallyOfIsIdempotentWrong : ChangeSpec := { name := "fnTallyOfIsIdempotent", fn := fun _ => fun
  | [d1, d2] => { results := [.lit (.bool false)], args := [d1, d2] }
  | _ => none }
def FnTallyOfIsIdempotentWrongFalsely : Prop := fnTallyOfIsIdempotentRow.holds Try.pinned (OpenSpec.ofChange fnTallyOfIsIdempotentWrong)

end Rows
end Go.Proofs.Qxb6000749a
