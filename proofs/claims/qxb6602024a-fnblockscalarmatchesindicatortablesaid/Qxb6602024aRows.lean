/-
  No cell of these rows narrows 'for every input' (looked for: loops, veiled, ifaces, maps, wideKeys, modest, calm, conditions, laid).
  DERIVED. THE GIVEN ROWS OF THIS SEAT. 7 by the template 'for every input the law returns true; each argument reads behind the call as it read before'; 0 by the template 'total and deterministic' (their statements: Qxb6602024aTotals.lean).
  GIVEN WITH THE SEED: the statements are not yours to turn. If you find one false, say at which input.
  Laid BY PROGRAM, IN A SANDBOX (cutbox-rows.mjs): the forced cells as the released guide's own fill.sh prints them over the translation 171bbcad00eba19a… (all of the seat's roots in one cut). By AI agents, Wed Nov 11 2026. No macro, syntax, notation, axiom, sorry.
-/
import Derived.Test.Qxb6602024aChecked
import GoSem.Claim
import GoSem.ClaimJoined
import GoSem.ClaimMapViews
import Derived.JoinedTies
import Derived.KernelRfl
namespace Go.Proofs.Qxb6602024a
/- THE CELL 'sum', in the pinned program and in every row, IS THE sha256 OF THE DUMP (.gsa) THAT Qxb6602024aProg.lean LOADS. Nothing in Lean hashes anything: it is a label: what it is worth is what the hold of that sum in a sandbox is worth. -/
noncomputable def Try.pinned : Pinned := { name := "qxb6602024a", sum := "171bbcad00eba19affbd6b5dd5c1f1d871f32c97123cfbd0521746c5de60d014", checked := Try.checked }
namespace Rows
def none {H : Type} : Left H := { results := [], args := [] }

/-- 'zzlaws_logtail_b1.FnBlockScalarMatchesIndicatorTable': WHATEVER THE INPUT: true; the input reads as it did. -/
def fnBlockScalarMatchesIndicatorTableSpec : ChangeSpec := { name := "fnBlockScalarMatchesIndicatorTable", fn := fun _ => fun
  | [d1, d2] => { results := [.lit (.bool true)], args := [d1, d2] }
  | _ => none }
def fnBlockScalarMatchesIndicatorTableRow : OpenClaim := { program := "qxb6602024a", sum := "171bbcad00eba19affbd6b5dd5c1f1d871f32c97123cfbd0521746c5de60d014", func := "example.com/buildgate/buildgate/zzlaws_logtail_b1.FnBlockScalarMatchesIndicatorTable", spec := "fnBlockScalarMatchesIndicatorTable", unfollowed := true, recurses := true, apart := false }
def FnBlockScalarMatchesIndicatorTableSaid : Prop := fnBlockScalarMatchesIndicatorTableRow.holds Try.pinned (OpenSpec.ofChange fnBlockScalarMatchesIndicatorTableSpec)

/-- ITS FALSE NEIGHBOUR: 'it returns false'. Refute it at one input. -/
def fnBlockScalarMatchesIndicatorTableWrong : ChangeSpec := { name := "fnBlockScalarMatchesIndicatorTable", fn := fun _ => fun
  | [d1, d2] => { results := [.lit (.bool false)], args := [d1, d2] }
  | _ => none }
def FnBlockScalarMatchesIndicatorTableWrongFalsely : Prop := fnBlockScalarMatchesIndicatorTableRow.holds Try.pinned (OpenSpec.ofChange fnBlockScalarMatchesIndicatorTableWrong)

/-- 'zzlaws_logtail_b1.FnBlockScalarKeepsAcceptingAfterComment': WHATEVER THE INPUT: true; the input reads as it did. -/
def fnBlockScalarKeepsAcceptingAfterCommentSpec : ChangeSpec := { name := "fnBlockScalarKeepsAcceptingAfterComment", fn := fun _ => fun
  | [d1, d2, d3] => { results := [.lit (.bool true)], args := [d1, d2, d3] }
  | _ => none }
def fnBlockScalarKeepsAcceptingAfterCommentRow : OpenClaim := { program := "qxb6602024a", sum := "171bbcad00eba19affbd6b5dd5c1f1d871f32c97123cfbd0521746c5de60d014", func := "example.com/buildgate/buildgate/zzlaws_logtail_b1.FnBlockScalarKeepsAcceptingAfterComment", spec := "fnBlockScalarKeepsAcceptingAfterComment", unfollowed := true, recurses := true, apart := false }
def FnBlockScalarKeepsAcceptingAfterCommentSaid : Prop := fnBlockScalarKeepsAcceptingAfterCommentRow.holds Try.pinned (OpenSpec.ofChange fnBlockScalarKeepsAcceptingAfterCommentSpec)

/-- ITS FALSE NEIGHBOUR: 'it returns false'. Refute it at one input. -/
def fnBlockScalarKeepsAcceptingAfterCommentWrong : ChangeSpec := { name := "fnBlockScalarKeepsAcceptingAfterComment", fn := fun _ => fun
  | [d1, d2, d3] => { results := [.lit (.bool false)], args := [d1, d2, d3] }
  | _ => none }
def FnBlockScalarKeepsAcceptingAfterCommentWrongFalsely : Prop := fnBlockScalarKeepsAcceptingAfterCommentRow.holds Try.pinned (OpenSpec.ofChange fnBlockScalarKeepsAcceptingAfterCommentWrong)

/-- 'zzlaws_logtail_b1.FnBlockScalarReadsNothingBeforeSep': WHATEVER THE INPUT: true; the input reads as it did. -/
def fnBlockScalarReadsNothingBeforeSepSpec : ChangeSpec := { name := "fnBlockScalarReadsNothingBeforeSep", fn := fun _ => fun
  | [d1, d2, d3] => { results := [.lit (.bool true)], args := [d1, d2, d3] }
  | _ => none }
def fnBlockScalarReadsNothingBeforeSepRow : OpenClaim := { program := "qxb6602024a", sum := "171bbcad00eba19affbd6b5dd5c1f1d871f32c97123cfbd0521746c5de60d014", func := "example.com/buildgate/buildgate/zzlaws_logtail_b1.FnBlockScalarReadsNothingBeforeSep", spec := "fnBlockScalarReadsNothingBeforeSep", unfollowed := true, recurses := true, apart := false }
def FnBlockScalarReadsNothingBeforeSepSaid : Prop := fnBlockScalarReadsNothingBeforeSepRow.holds Try.pinned (OpenSpec.ofChange fnBlockScalarReadsNothingBeforeSepSpec)

/-- ITS FALSE NEIGHBOUR: 'it returns false'. Refute it at one input. -/
def fnBlockScalarReadsNothingBeforeSepWrong : ChangeSpec := { name := "fnBlockScalarReadsNothingBeforeSep", fn := fun _ => fun
  | [d1, d2, d3] => { results := [.lit (.bool false)], args := [d1, d2, d3] }
  | _ => none }
def FnBlockScalarReadsNothingBeforeSepWrongFalsely : Prop := fnBlockScalarReadsNothingBeforeSepRow.holds Try.pinned (OpenSpec.ofChange fnBlockScalarReadsNothingBeforeSepWrong)

/-- 'zzlaws_logtail_b1.FnFieldStartMatchesFirstStop': WHATEVER THE INPUT: true; the input reads as it did. -/
def fnFieldStartMatchesFirstStopSpec : ChangeSpec := { name := "fnFieldStartMatchesFirstStop", fn := fun _ => fun
  | [d1, d2] => { results := [.lit (.bool true)], args := [d1, d2] }
  | _ => none }
def fnFieldStartMatchesFirstStopRow : OpenClaim := { program := "qxb6602024a", sum := "171bbcad00eba19affbd6b5dd5c1f1d871f32c97123cfbd0521746c5de60d014", func := "example.com/buildgate/buildgate/zzlaws_logtail_b1.FnFieldStartMatchesFirstStop", spec := "fnFieldStartMatchesFirstStop", unfollowed := true, recurses := true, apart := false }
def FnFieldStartMatchesFirstStopSaid : Prop := fnFieldStartMatchesFirstStopRow.holds Try.pinned (OpenSpec.ofChange fnFieldStartMatchesFirstStopSpec)

/-- ITS FALSE NEIGHBOUR: 'it returns false'. Refute it at one input. -/
def fnFieldStartMatchesFirstStopWrong : ChangeSpec := { name := "fnFieldStartMatchesFirstStop", fn := fun _ => fun
  | [d1, d2] => { results := [.lit (.bool false)], args := [d1, d2] }
  | _ => none }
def FnFieldStartMatchesFirstStopWrongFalsely : Prop := fnFieldStartMatchesFirstStopRow.holds Try.pinned (OpenSpec.ofChange fnFieldStartMatchesFirstStopWrong)

/-- 'zzlaws_logtail_b1.FnFieldStartIdempotentAndBounded': WHATEVER THE INPUT: true; the input reads as it did. -/
def fnFieldStartIdempotentAndBoundedSpec : ChangeSpec := { name := "fnFieldStartIdempotentAndBounded", fn := fun _ => fun
  | [d1, d2] => { results := [.lit (.bool true)], args := [d1, d2] }
  | _ => none }
def fnFieldStartIdempotentAndBoundedRow : OpenClaim := { program := "qxb6602024a", sum := "171bbcad00eba19affbd6b5dd5c1f1d871f32c97123cfbd0521746c5de60d014", func := "example.com/buildgate/buildgate/zzlaws_logtail_b1.FnFieldStartIdempotentAndBounded", spec := "fnFieldStartIdempotentAndBounded", unfollowed := true, recurses := true, apart := false }
def FnFieldStartIdempotentAndBoundedSaid : Prop := fnFieldStartIdempotentAndBoundedRow.holds Try.pinned (OpenSpec.ofChange fnFieldStartIdempotentAndBoundedSpec)

/-- ITS FALSE NEIGHBOUR: 'it returns false'. Refute it at one input. -/
def fnFieldStartIdempotentAndBoundedWrong : ChangeSpec := { name := "fnFieldStartIdempotentAndBounded", fn := fun _ => fun
  | [d1, d2] => { results := [.lit (.bool false)], args := [d1, d2] }
  | _ => none }
def FnFieldStartIdempotentAndBoundedWrongFalsely : Prop := fnFieldStartIdempotentAndBoundedRow.holds Try.pinned (OpenSpec.ofChange fnFieldStartIdempotentAndBoundedWrong)

/-- 'zzlaws_logtail_b1.FnRenderedMatchesIntervalUnionModel': WHATEVER THE INPUT: true; the input reads as it did. -/
def fnRenderedMatchesIntervalUnionModelSpec : ChangeSpec := { name := "fnRenderedMatchesIntervalUnionModel", fn := fun _ => fun
  | [d1, d2, d3] => { results := [.lit (.bool true)], args := [d1, d2, d3] }
  | _ => none }
def fnRenderedMatchesIntervalUnionModelRow : OpenClaim := { program := "qxb6602024a", sum := "171bbcad00eba19affbd6b5dd5c1f1d871f32c97123cfbd0521746c5de60d014", func := "example.com/buildgate/buildgate/zzlaws_logtail_b1.FnRenderedMatchesIntervalUnionModel", spec := "fnRenderedMatchesIntervalUnionModel", inPlace := ["internal/abi.NoEscape"], unfollowed := true, recurses := true, apart := false }
def FnRenderedMatchesIntervalUnionModelSaid : Prop := fnRenderedMatchesIntervalUnionModelRow.holds Try.pinned (OpenSpec.ofChange fnRenderedMatchesIntervalUnionModelSpec)

/-- ITS FALSE NEIGHBOUR: 'it returns false'. Refute it at one input. -/
def fnRenderedMatchesIntervalUnionModelWrong : ChangeSpec := { name := "fnRenderedMatchesIntervalUnionModel", fn := fun _ => fun
  | [d1, d2, d3] => { results := [.lit (.bool false)], args := [d1, d2, d3] }
  | _ => none }
def FnRenderedMatchesIntervalUnionModelWrongFalsely : Prop := fnRenderedMatchesIntervalUnionModelRow.holds Try.pinned (OpenSpec.ofChange fnRenderedMatchesIntervalUnionModelWrong)

/-- 'zzlaws_logtail_b1.FnRenderedIgnoresSpanOrder': WHATEVER THE INPUT: true; the input reads as it did. -/
def fnRenderedIgnoresSpanOrderSpec : ChangeSpec := { name := "fnRenderedIgnoresSpanOrder", fn := fun _ => fun
  | [d1, d2, d3] => { results := [.lit (.bool true)], args := [d1, d2, d3] }
  | _ => none }
def fnRenderedIgnoresSpanOrderRow : OpenClaim := { program := "qxb6602024a", sum := "171bbcad00eba19affbd6b5dd5c1f1d871f32c97123cfbd0521746c5de60d014", func := "example.com/buildgate/buildgate/zzlaws_logtail_b1.FnRenderedIgnoresSpanOrder", spec := "fnRenderedIgnoresSpanOrder", inPlace := ["internal/abi.NoEscape"], unfollowed := true, recurses := true, apart := false }
def FnRenderedIgnoresSpanOrderSaid : Prop := fnRenderedIgnoresSpanOrderRow.holds Try.pinned (OpenSpec.ofChange fnRenderedIgnoresSpanOrderSpec)

/-- ITS FALSE NEIGHBOUR: 'it returns false'. Refute it at one input. -/
def fnRenderedIgnoresSpanOrderWrong : ChangeSpec := { name := "fnRenderedIgnoresSpanOrder", fn := fun _ => fun
  | [d1, d2, d3] => { results := [.lit (.bool false)], args := [d1, d2, d3] }
  | _ => none }
def FnRenderedIgnoresSpanOrderWrongFalsely : Prop := fnRenderedIgnoresSpanOrderRow.holds Try.pinned (OpenSpec.ofChange fnRenderedIgnoresSpanOrderWrong)

end Rows
end Go.Proofs.Qxb6602024a
