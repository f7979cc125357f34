/-
  No cell of these rows narrows 'for every input' (looked for: loops, veiled, ifaces, maps, wideKeys, modest, calm, conditions, laid).
  DERIVED. THE GIVEN ROWS OF THIS SEAT. 7 by the template 'for every input the law returns true; each argument reads behind the call as it read before'; 0 by the template 'total and deterministic' (their statements: Qxb6600955aTotals.lean).
  GIVEN WITH THE SEED: the statements are not yours to turn. If you find one false, say at which input.
  Laid BY PROGRAM, IN A SANDBOX (cutbox-rows.mjs): the forced cells as the released guide's own fill.sh prints them over the translation 95111f1bfe4854ce… (all of the seat's roots in one cut). By AI agents, Wed Nov 11 2026. No macro, syntax, notation, axiom, sorry.
-/
import Derived.Test.Qxb6600955aChecked
import GoSem.Claim
import GoSem.ClaimJoined
import GoSem.ClaimMapViews
import Derived.JoinedTies
import Derived.KernelRfl
namespace Go.Proofs.Qxb6600955a
/- THE CELL 'sum', in the pinned program and in every row, IS THE sha256 OF THE DUMP (.gsa) THAT Qxb6600955aProg.lean LOADS. Nothing in Lean hashes anything: it is a label: what it is worth is what the hold of that sum in a sandbox is worth. -/
noncomputable def Try.pinned : Pinned := { name := "qxb6600955a", sum := "95111f1bfe4854cee1eb5d49a092866ae2713a0da67e3ef845ed717b09c21fa4", checked := Try.checked }
namespace Rows
def none {H : Type} : Left H := { results := [], args := [] }

/-- 'zzlaws_internal_xpathregexp_b1.FnCounterScriptAgreesWithModel': WHATEVER THE INPUT: true; the input reads as it did. -/
def fnCounterScriptAgreesWithModelSpec : ChangeSpec := { name := "fnCounterScriptAgreesWithModel", fn := fun _ => fun
  | [d1, d2, d3] => { results := [.lit (.bool true)], args := [d1, d2, d3] }
  | _ => none }
def fnCounterScriptAgreesWithModelRow : OpenClaim := { program := "qxb6600955a", sum := "95111f1bfe4854cee1eb5d49a092866ae2713a0da67e3ef845ed717b09c21fa4", func := "example.com/permit4/permit4/zzlaws_internal_xpathregexp_b1.FnCounterScriptAgreesWithModel", spec := "fnCounterScriptAgreesWithModel", apart := false }
def FnCounterScriptAgreesWithModelSaid : Prop := fnCounterScriptAgreesWithModelRow.holds Try.pinned (OpenSpec.ofChange fnCounterScriptAgreesWithModelSpec)

/-- ITS FALSE NEIGHBOUR: 'it returns false'. Refute it at one input. -/
def fnCounterScriptAgreesWithModelWrong : ChangeSpec := { name := "fnCounterScriptAgreesWithModel", fn := fun _ => fun
  | [d1, d2, d3] => { results := [.lit (.bool false)], args := [d1, d2, d3] }
  | _ => none }
def FnCounterScriptAgreesWithModelWrongFalsely : Prop := fnCounterScriptAgreesWithModelRow.holds Try.pinned (OpenSpec.ofChange fnCounterScriptAgreesWithModelWrong)

/-- 'zzlaws_internal_xpathregexp_b1.FnCounterKeepsFewRuns': WHATEVER THE INPUT: true; the input reads as it did. -/
def fnCounterKeepsFewRunsSpec : ChangeSpec := { name := "fnCounterKeepsFewRuns", fn := fun _ => fun
  | [d1, d2, d3] => { results := [.lit (.bool true)], args := [d1, d2, d3] }
  | _ => none }
def fnCounterKeepsFewRunsRow : OpenClaim := { program := "qxb6600955a", sum := "95111f1bfe4854cee1eb5d49a092866ae2713a0da67e3ef845ed717b09c21fa4", func := "example.com/permit4/permit4/zzlaws_internal_xpathregexp_b1.FnCounterKeepsFewRuns", spec := "fnCounterKeepsFewRuns", apart := false }
def FnCounterKeepsFewRunsSaid : Prop := fnCounterKeepsFewRunsRow.holds Try.pinned (OpenSpec.ofChange fnCounterKeepsFewRunsSpec)

/-- ITS FALSE NEIGHBOUR: 'it returns false'. Refute it at one input. -/
def fnCounterKeepsFewRunsWrong : ChangeSpec := { name := "fnCounterKeepsFewRuns", fn := fun _ => fun
  | [d1, d2, d3] => { results := [.lit (.bool false)], args := [d1, d2, d3] }
  | _ => none }
def FnCounterKeepsFewRunsWrongFalsely : Prop := fnCounterKeepsFewRunsRow.holds Try.pinned (OpenSpec.ofChange fnCounterKeepsFewRunsWrong)

/-- 'zzlaws_internal_xpathregexp_b1.FnCounterPassMismatchEndsAllRuns': WHATEVER THE INPUT: true; the input reads as it did. -/
def fnCounterPassMismatchEndsAllRunsSpec : ChangeSpec := { name := "fnCounterPassMismatchEndsAllRuns", fn := fun _ => fun
  | [d1, d2, d3, d4, d5, d6] => { results := [.lit (.bool true)], args := [d1, d2, d3, d4, d5, d6] }
  | _ => none }
def fnCounterPassMismatchEndsAllRunsRow : OpenClaim := { program := "qxb6600955a", sum := "95111f1bfe4854cee1eb5d49a092866ae2713a0da67e3ef845ed717b09c21fa4", func := "example.com/permit4/permit4/zzlaws_internal_xpathregexp_b1.FnCounterPassMismatchEndsAllRuns", spec := "fnCounterPassMismatchEndsAllRuns", apart := false }
def FnCounterPassMismatchEndsAllRunsSaid : Prop := fnCounterPassMismatchEndsAllRunsRow.holds Try.pinned (OpenSpec.ofChange fnCounterPassMismatchEndsAllRunsSpec)

/-- ITS FALSE NEIGHBOUR: 'it returns false'. Refute it at one input. -/
def fnCounterPassMismatchEndsAllRunsWrong : ChangeSpec := { name := "fnCounterPassMismatchEndsAllRuns", fn := fun _ => fun
  | [d1, d2, d3, d4, d5, d6] => { results := [.lit (.bool false)], args := [d1, d2, d3, d4, d5, d6] }
  | _ => none }
def FnCounterPassMismatchEndsAllRunsWrongFalsely : Prop := fnCounterPassMismatchEndsAllRunsRow.holds Try.pinned (OpenSpec.ofChange fnCounterPassMismatchEndsAllRunsWrong)

/-- 'zzlaws_internal_xpathregexp_b1.FnCounterStartIsIdempotentAtAClock': WHATEVER THE INPUT: true; the input reads as it did. -/
def fnCounterStartIsIdempotentAtAClockSpec : ChangeSpec := { name := "fnCounterStartIsIdempotentAtAClock", fn := fun _ => fun
  | [d1, d2, d3, d4, d5, d6] => { results := [.lit (.bool true)], args := [d1, d2, d3, d4, d5, d6] }
  | _ => none }
def fnCounterStartIsIdempotentAtAClockRow : OpenClaim := { program := "qxb6600955a", sum := "95111f1bfe4854cee1eb5d49a092866ae2713a0da67e3ef845ed717b09c21fa4", func := "example.com/permit4/permit4/zzlaws_internal_xpathregexp_b1.FnCounterStartIsIdempotentAtAClock", spec := "fnCounterStartIsIdempotentAtAClock", apart := false }
def FnCounterStartIsIdempotentAtAClockSaid : Prop := fnCounterStartIsIdempotentAtAClockRow.holds Try.pinned (OpenSpec.ofChange fnCounterStartIsIdempotentAtAClockSpec)

/-- ITS FALSE NEIGHBOUR: 'it returns false'. Refute it at one input. -/
def fnCounterStartIsIdempotentAtAClockWrong : ChangeSpec := { name := "fnCounterStartIsIdempotentAtAClock", fn := fun _ => fun
  | [d1, d2, d3, d4, d5, d6] => { results := [.lit (.bool false)], args := [d1, d2, d3, d4, d5, d6] }
  | _ => none }
def FnCounterStartIsIdempotentAtAClockWrongFalsely : Prop := fnCounterStartIsIdempotentAtAClockRow.holds Try.pinned (OpenSpec.ofChange fnCounterStartIsIdempotentAtAClockWrong)

/-- 'zzlaws_internal_xpathregexp_b1.FnCountSplitsLikeWrittenOut': WHATEVER THE INPUT: true; the input reads as it did. -/
def fnCountSplitsLikeWrittenOutSpec : ChangeSpec := { name := "fnCountSplitsLikeWrittenOut", fn := fun _ => fun
  | [d1, d2, d3, d4, d5, d6, d7] => { results := [.lit (.bool true)], args := [d1, d2, d3, d4, d5, d6, d7] }
  | _ => none }
def fnCountSplitsLikeWrittenOutRow : OpenClaim := { program := "qxb6600955a", sum := "95111f1bfe4854cee1eb5d49a092866ae2713a0da67e3ef845ed717b09c21fa4", func := "example.com/permit4/permit4/zzlaws_internal_xpathregexp_b1.FnCountSplitsLikeWrittenOut", spec := "fnCountSplitsLikeWrittenOut", apart := false }
def FnCountSplitsLikeWrittenOutSaid : Prop := fnCountSplitsLikeWrittenOutRow.holds Try.pinned (OpenSpec.ofChange fnCountSplitsLikeWrittenOutSpec)

/-- ITS FALSE NEIGHBOUR: 'it returns false'. Refute it at one input. -/
def fnCountSplitsLikeWrittenOutWrong : ChangeSpec := { name := "fnCountSplitsLikeWrittenOut", fn := fun _ => fun
  | [d1, d2, d3, d4, d5, d6, d7] => { results := [.lit (.bool false)], args := [d1, d2, d3, d4, d5, d6, d7] }
  | _ => none }
def FnCountSplitsLikeWrittenOutWrongFalsely : Prop := fnCountSplitsLikeWrittenOutRow.holds Try.pinned (OpenSpec.ofChange fnCountSplitsLikeWrittenOutWrong)

/-- 'zzlaws_internal_xpathregexp_b1.FnCountUnboundedIsOneMoreCopy': WHATEVER THE INPUT: true; the input reads as it did. -/
def fnCountUnboundedIsOneMoreCopySpec : ChangeSpec := { name := "fnCountUnboundedIsOneMoreCopy", fn := fun _ => fun
  | [d1, d2, d3, d4, d5, d6, d7] => { results := [.lit (.bool true)], args := [d1, d2, d3, d4, d5, d6, d7] }
  | _ => none }
def fnCountUnboundedIsOneMoreCopyRow : OpenClaim := { program := "qxb6600955a", sum := "95111f1bfe4854cee1eb5d49a092866ae2713a0da67e3ef845ed717b09c21fa4", func := "example.com/permit4/permit4/zzlaws_internal_xpathregexp_b1.FnCountUnboundedIsOneMoreCopy", spec := "fnCountUnboundedIsOneMoreCopy", apart := false }
def FnCountUnboundedIsOneMoreCopySaid : Prop := fnCountUnboundedIsOneMoreCopyRow.holds Try.pinned (OpenSpec.ofChange fnCountUnboundedIsOneMoreCopySpec)

/-- ITS FALSE NEIGHBOUR: 'it returns false'. Refute it at one input. -/
def fnCountUnboundedIsOneMoreCopyWrong : ChangeSpec := { name := "fnCountUnboundedIsOneMoreCopy", fn := fun _ => fun
  | [d1, d2, d3, d4, d5, d6, d7] => { results := [.lit (.bool false)], args := [d1, d2, d3, d4, d5, d6, d7] }
  | _ => none }
def FnCountUnboundedIsOneMoreCopyWrongFalsely : Prop := fnCountUnboundedIsOneMoreCopyRow.holds Try.pinned (OpenSpec.ofChange fnCountUnboundedIsOneMoreCopyWrong)

/-- 'zzlaws_internal_xpathregexp_b1.FnCountScriptLayout': WHATEVER THE INPUT: true; the input reads as it did. -/
def fnCountScriptLayoutSpec : ChangeSpec := { name := "fnCountScriptLayout", fn := fun _ => fun
  | [d1, d2, d3] => { results := [.lit (.bool true)], args := [d1, d2, d3] }
  | _ => none }
def fnCountScriptLayoutRow : OpenClaim := { program := "qxb6600955a", sum := "95111f1bfe4854cee1eb5d49a092866ae2713a0da67e3ef845ed717b09c21fa4", func := "example.com/permit4/permit4/zzlaws_internal_xpathregexp_b1.FnCountScriptLayout", spec := "fnCountScriptLayout", apart := false }
def FnCountScriptLayoutSaid : Prop := fnCountScriptLayoutRow.holds Try.pinned (OpenSpec.ofChange fnCountScriptLayoutSpec)

/-- ITS FALSE NEIGHBOUR: 'it returns false'. Refute it at one input. -/
def fnCountScriptLayoutWrong : ChangeSpec := { name := "fnCountScriptLayout", fn := fun _ => fun
  | [d1, d2, d3] => { results := [.lit (.bool false)], args := [d1, d2, d3] }
  | _ => none }
def FnCountScriptLayoutWrongFalsely : Prop := fnCountScriptLayoutRow.holds Try.pinned (OpenSpec.ofChange fnCountScriptLayoutWrong)

end Rows
end Go.Proofs.Qxb6600955a
