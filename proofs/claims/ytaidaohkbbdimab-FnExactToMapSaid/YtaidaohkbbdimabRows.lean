/-
  No cell of these rows narrows 'for every input' (looked for: loops, veiled, ifaces, maps, wideKeys, modest, calm, conditions, laid).
  DERIVED. THE GIVEN ROWS OF THIS SEAT. 12 by the template 'for every input the law returns true; each argument reads behind the call as it read before'; 0 by the template 'total and deterministic' (their statements: YtaidaohkbbdimabTotals.lean).
  GIVEN WITH THE SEED: the statements are not yours to turn. If you find one false, say at which input.
  Laid BY PROGRAM, IN A SANDBOX (cutbox-rows.mjs): the forced cells as the released guide's own fill.sh prints them over the translation 45741ade5a6684c4… (all of the seat's roots in one cut). By AI agents, Wed Nov 11 2026. No macro, syntax, notation, axiom, sorry.
-/
import Derived.Test.YtaidaohkbbdimabChecked
import GoSem.Claim
import GoSem.ClaimJoined
import GoSem.ClaimMapViews
import Derived.JoinedTies
import Derived.KernelRfl
namespace Go.Proofs.Ytaidaohkbbdimab
/- THE CELL 'sum', in the pinned program and in every row, IS THE sha256 OF THE DUMP (.gsa) THAT YtaidaohkbbdimabProg.lean LOADS. Nothing in Lean hashes anything: it is a label: what it is worth is what the hold of that sum in a sandbox is worth. -/
noncomputable def Try.pinned : Pinned := { name := "ytaidaohkbbdimab", sum := "45741ade5a6684c475540ccc51c2a753fd372effd580e8732396eef248bc54cc", checked := Try.checked }
namespace Rows
def none {H : Type} : Left H := { results := [], args := [] }

/-- 'laws.FnExactWalk': WHATEVER THE INPUT: true; the input reads as it did. -/
def fnExactWalkSpec : ChangeSpec := { name := "fnExactWalk", fn := fun _ => fun
  | [d1, d2] => { results := [.lit (.bool true)], args := [d1, d2] }
  | _ => none }
def fnExactWalkRow : OpenClaim := { program := "ytaidaohkbbdimab", sum := "45741ade5a6684c475540ccc51c2a753fd372effd580e8732396eef248bc54cc", func := "loop.example/pub-radixtexts/laws.FnExactWalk", spec := "fnExactWalk", inPlace := ["slices.overlaps[loop.example/pub-radixtexts/impl.Row]"], unfollowed := true, recurses := true, apart := false }
def FnExactWalkSaid : Prop := fnExactWalkRow.holds Try.pinned (OpenSpec.ofChange fnExactWalkSpec)

/-- ITS FALSE NEIGHBOUR: 'it returns false'. Refute it at one input. -/
def fnExactWalkWrong : ChangeSpec := { name := "fnExactWalk", fn := fun _ => fun
  | [d1, d2] => { results := [.lit (.bool false)], args := [d1, d2] }
  | _ => none }
def FnExactWalkWrongFalsely : Prop := fnExactWalkRow.holds Try.pinned (OpenSpec.ofChange fnExactWalkWrong)

/-- 'laws.FnOrder': WHATEVER THE INPUT: true; the input reads as it did. -/
def fnOrderSpec : ChangeSpec := { name := "fnOrder", fn := fun _ => fun
  | [d] => { results := [.lit (.bool true)], args := [d] }
  | _ => none }
def fnOrderRow : OpenClaim := { program := "ytaidaohkbbdimab", sum := "45741ade5a6684c475540ccc51c2a753fd372effd580e8732396eef248bc54cc", func := "loop.example/pub-radixtexts/laws.FnOrder", spec := "fnOrder", inPlace := ["slices.overlaps[loop.example/pub-radixtexts/impl.Row]"], unfollowed := true, recurses := true, apart := false }
def FnOrderSaid : Prop := fnOrderRow.holds Try.pinned (OpenSpec.ofChange fnOrderSpec)

/-- ITS FALSE NEIGHBOUR: 'it returns false'. Refute it at one input. -/
def fnOrderWrong : ChangeSpec := { name := "fnOrder", fn := fun _ => fun
  | [d] => { results := [.lit (.bool false)], args := [d] }
  | _ => none }
def FnOrderWrongFalsely : Prop := fnOrderRow.holds Try.pinned (OpenSpec.ofChange fnOrderWrong)

/-- 'laws.FnTwice': WHATEVER THE INPUT: true; the input reads as it did. -/
def fnTwiceSpec : ChangeSpec := { name := "fnTwice", fn := fun _ => fun
  | [d] => { results := [.lit (.bool true)], args := [d] }
  | _ => none }
def fnTwiceRow : OpenClaim := { program := "ytaidaohkbbdimab", sum := "45741ade5a6684c475540ccc51c2a753fd372effd580e8732396eef248bc54cc", func := "loop.example/pub-radixtexts/laws.FnTwice", spec := "fnTwice", inPlace := ["slices.overlaps[loop.example/pub-radixtexts/impl.Row]"], unfollowed := true, recurses := true, apart := false }
def FnTwiceSaid : Prop := fnTwiceRow.holds Try.pinned (OpenSpec.ofChange fnTwiceSpec)

/-- ITS FALSE NEIGHBOUR: 'it returns false'. Refute it at one input. -/
def fnTwiceWrong : ChangeSpec := { name := "fnTwice", fn := fun _ => fun
  | [d] => { results := [.lit (.bool false)], args := [d] }
  | _ => none }
def FnTwiceWrongFalsely : Prop := fnTwiceRow.holds Try.pinned (OpenSpec.ofChange fnTwiceWrong)

/-- 'laws.FnExactMax': WHATEVER THE INPUT: true; the input reads as it did. -/
def fnExactMaxSpec : ChangeSpec := { name := "fnExactMax", fn := fun _ => fun
  | [d] => { results := [.lit (.bool true)], args := [d] }
  | _ => none }
def fnExactMaxRow : OpenClaim := { program := "ytaidaohkbbdimab", sum := "45741ade5a6684c475540ccc51c2a753fd372effd580e8732396eef248bc54cc", func := "loop.example/pub-radixtexts/laws.FnExactMax", spec := "fnExactMax", inPlace := ["slices.overlaps[loop.example/pub-radixtexts/impl.Row]"], unfollowed := true, recurses := true, apart := false }
def FnExactMaxSaid : Prop := fnExactMaxRow.holds Try.pinned (OpenSpec.ofChange fnExactMaxSpec)

/-- ITS FALSE NEIGHBOUR: 'it returns false'. Refute it at one input. -/
def fnExactMaxWrong : ChangeSpec := { name := "fnExactMax", fn := fun _ => fun
  | [d] => { results := [.lit (.bool false)], args := [d] }
  | _ => none }
def FnExactMaxWrongFalsely : Prop := fnExactMaxRow.holds Try.pinned (OpenSpec.ofChange fnExactMaxWrong)

/-- 'laws.FnExactMin': WHATEVER THE INPUT: true; the input reads as it did. -/
def fnExactMinSpec : ChangeSpec := { name := "fnExactMin", fn := fun _ => fun
  | [d] => { results := [.lit (.bool true)], args := [d] }
  | _ => none }
def fnExactMinRow : OpenClaim := { program := "ytaidaohkbbdimab", sum := "45741ade5a6684c475540ccc51c2a753fd372effd580e8732396eef248bc54cc", func := "loop.example/pub-radixtexts/laws.FnExactMin", spec := "fnExactMin", inPlace := ["slices.overlaps[loop.example/pub-radixtexts/impl.Row]"], unfollowed := true, recurses := true, apart := false }
def FnExactMinSaid : Prop := fnExactMinRow.holds Try.pinned (OpenSpec.ofChange fnExactMinSpec)

/-- ITS FALSE NEIGHBOUR: 'it returns false'. Refute it at one input. -/
def fnExactMinWrong : ChangeSpec := { name := "fnExactMin", fn := fun _ => fun
  | [d] => { results := [.lit (.bool false)], args := [d] }
  | _ => none }
def FnExactMinWrongFalsely : Prop := fnExactMinRow.holds Try.pinned (OpenSpec.ofChange fnExactMinWrong)

/-- 'laws.FnExactToMap': WHATEVER THE INPUT: true; the input reads as it did. -/
def fnExactToMapSpec : ChangeSpec := { name := "fnExactToMap", fn := fun _ => fun
  | [d] => { results := [.lit (.bool true)], args := [d] }
  | _ => none }
def fnExactToMapRow : OpenClaim := { program := "ytaidaohkbbdimab", sum := "45741ade5a6684c475540ccc51c2a753fd372effd580e8732396eef248bc54cc", func := "loop.example/pub-radixtexts/laws.FnExactToMap", spec := "fnExactToMap", inPlace := ["slices.overlaps[loop.example/pub-radixtexts/impl.Row]"], unfollowed := true, recurses := true, apart := false }
def FnExactToMapSaid : Prop := fnExactToMapRow.holds Try.pinned (OpenSpec.ofChange fnExactToMapSpec)

/-- ITS FALSE NEIGHBOUR: 'it returns false'. Refute it at one input. -/
def fnExactToMapWrong : ChangeSpec := { name := "fnExactToMap", fn := fun _ => fun
  | [d] => { results := [.lit (.bool false)], args := [d] }
  | _ => none }
def FnExactToMapWrongFalsely : Prop := fnExactToMapRow.holds Try.pinned (OpenSpec.ofChange fnExactToMapWrong)

/-- 'laws.FnExactGet': WHATEVER THE INPUT: true; the input reads as it did. -/
def fnExactGetSpec : ChangeSpec := { name := "fnExactGet", fn := fun _ => fun
  | [d1, d2] => { results := [.lit (.bool true)], args := [d1, d2] }
  | _ => none }
def fnExactGetRow : OpenClaim := { program := "ytaidaohkbbdimab", sum := "45741ade5a6684c475540ccc51c2a753fd372effd580e8732396eef248bc54cc", func := "loop.example/pub-radixtexts/laws.FnExactGet", spec := "fnExactGet", inPlace := ["slices.overlaps[loop.example/pub-radixtexts/impl.Row]"], unfollowed := true, recurses := true, apart := false }
def FnExactGetSaid : Prop := fnExactGetRow.holds Try.pinned (OpenSpec.ofChange fnExactGetSpec)

/-- ITS FALSE NEIGHBOUR: 'it returns false'. Refute it at one input. -/
def fnExactGetWrong : ChangeSpec := { name := "fnExactGet", fn := fun _ => fun
  | [d1, d2] => { results := [.lit (.bool false)], args := [d1, d2] }
  | _ => none }
def FnExactGetWrongFalsely : Prop := fnExactGetRow.holds Try.pinned (OpenSpec.ofChange fnExactGetWrong)

/-- 'laws.FnExactLongest': WHATEVER THE INPUT: true; the input reads as it did. -/
def fnExactLongestSpec : ChangeSpec := { name := "fnExactLongest", fn := fun _ => fun
  | [d1, d2] => { results := [.lit (.bool true)], args := [d1, d2] }
  | _ => none }
def fnExactLongestRow : OpenClaim := { program := "ytaidaohkbbdimab", sum := "45741ade5a6684c475540ccc51c2a753fd372effd580e8732396eef248bc54cc", func := "loop.example/pub-radixtexts/laws.FnExactLongest", spec := "fnExactLongest", inPlace := ["slices.overlaps[loop.example/pub-radixtexts/impl.Row]"], unfollowed := true, recurses := true, apart := false }
def FnExactLongestSaid : Prop := fnExactLongestRow.holds Try.pinned (OpenSpec.ofChange fnExactLongestSpec)

/-- ITS FALSE NEIGHBOUR: 'it returns false'. Refute it at one input. -/
def fnExactLongestWrong : ChangeSpec := { name := "fnExactLongest", fn := fun _ => fun
  | [d1, d2] => { results := [.lit (.bool false)], args := [d1, d2] }
  | _ => none }
def FnExactLongestWrongFalsely : Prop := fnExactLongestRow.holds Try.pinned (OpenSpec.ofChange fnExactLongestWrong)

/-- 'laws.FnExactAbove': WHATEVER THE INPUT: true; the input reads as it did. -/
def fnExactAboveSpec : ChangeSpec := { name := "fnExactAbove", fn := fun _ => fun
  | [d1, d2, d3] => { results := [.lit (.bool true)], args := [d1, d2, d3] }
  | _ => none }
def fnExactAboveRow : OpenClaim := { program := "ytaidaohkbbdimab", sum := "45741ade5a6684c475540ccc51c2a753fd372effd580e8732396eef248bc54cc", func := "loop.example/pub-radixtexts/laws.FnExactAbove", spec := "fnExactAbove", inPlace := ["slices.overlaps[loop.example/pub-radixtexts/impl.Row]"], unfollowed := true, recurses := true, apart := false }
def FnExactAboveSaid : Prop := fnExactAboveRow.holds Try.pinned (OpenSpec.ofChange fnExactAboveSpec)

/-- ITS FALSE NEIGHBOUR: 'it returns false'. Refute it at one input. -/
def fnExactAboveWrong : ChangeSpec := { name := "fnExactAbove", fn := fun _ => fun
  | [d1, d2, d3] => { results := [.lit (.bool false)], args := [d1, d2, d3] }
  | _ => none }
def FnExactAboveWrongFalsely : Prop := fnExactAboveRow.holds Try.pinned (OpenSpec.ofChange fnExactAboveWrong)

/-- 'laws.FnExactUnder': WHATEVER THE INPUT: true; the input reads as it did. -/
def fnExactUnderSpec : ChangeSpec := { name := "fnExactUnder", fn := fun _ => fun
  | [d1, d2, d3] => { results := [.lit (.bool true)], args := [d1, d2, d3] }
  | _ => none }
def fnExactUnderRow : OpenClaim := { program := "ytaidaohkbbdimab", sum := "45741ade5a6684c475540ccc51c2a753fd372effd580e8732396eef248bc54cc", func := "loop.example/pub-radixtexts/laws.FnExactUnder", spec := "fnExactUnder", inPlace := ["slices.overlaps[loop.example/pub-radixtexts/impl.Row]"], unfollowed := true, recurses := true, apart := false }
def FnExactUnderSaid : Prop := fnExactUnderRow.holds Try.pinned (OpenSpec.ofChange fnExactUnderSpec)

/-- ITS FALSE NEIGHBOUR: 'it returns false'. Refute it at one input. -/
def fnExactUnderWrong : ChangeSpec := { name := "fnExactUnder", fn := fun _ => fun
  | [d1, d2, d3] => { results := [.lit (.bool false)], args := [d1, d2, d3] }
  | _ => none }
def FnExactUnderWrongFalsely : Prop := fnExactUnderRow.holds Try.pinned (OpenSpec.ofChange fnExactUnderWrong)

/-- 'laws.FnMaps': WHATEVER THE INPUT: true; the input reads as it did. -/
def fnMapsSpec : ChangeSpec := { name := "fnMaps", fn := fun _ => fun
  | [d] => { results := [.lit (.bool true)], args := [d] }
  | _ => none }
def fnMapsRow : OpenClaim := { program := "ytaidaohkbbdimab", sum := "45741ade5a6684c475540ccc51c2a753fd372effd580e8732396eef248bc54cc", func := "loop.example/pub-radixtexts/laws.FnMaps", spec := "fnMaps", inPlace := ["slices.overlaps[loop.example/pub-radixtexts/impl.Row]"], unfollowed := true, recurses := true, apart := false }
def FnMapsSaid : Prop := fnMapsRow.holds Try.pinned (OpenSpec.ofChange fnMapsSpec)

/-- ITS FALSE NEIGHBOUR: 'it returns false'. Refute it at one input. -/
def fnMapsWrong : ChangeSpec := { name := "fnMaps", fn := fun _ => fun
  | [d] => { results := [.lit (.bool false)], args := [d] }
  | _ => none }
def FnMapsWrongFalsely : Prop := fnMapsRow.holds Try.pinned (OpenSpec.ofChange fnMapsWrong)

/-- 'laws.FnUndone': WHATEVER THE INPUT: true; the input reads as it did. -/
def fnUndoneSpec : ChangeSpec := { name := "fnUndone", fn := fun _ => fun
  | [d1, d2, d3] => { results := [.lit (.bool true)], args := [d1, d2, d3] }
  | _ => none }
def fnUndoneRow : OpenClaim := { program := "ytaidaohkbbdimab", sum := "45741ade5a6684c475540ccc51c2a753fd372effd580e8732396eef248bc54cc", func := "loop.example/pub-radixtexts/laws.FnUndone", spec := "fnUndone", inPlace := ["slices.overlaps[loop.example/pub-radixtexts/impl.Row]"], unfollowed := true, recurses := true, apart := false }
def FnUndoneSaid : Prop := fnUndoneRow.holds Try.pinned (OpenSpec.ofChange fnUndoneSpec)

/-- ITS FALSE NEIGHBOUR: 'it returns false'. Refute it at one input. -/
def fnUndoneWrong : ChangeSpec := { name := "fnUndone", fn := fun _ => fun
  | [d1, d2, d3] => { results := [.lit (.bool false)], args := [d1, d2, d3] }
  | _ => none }
def FnUndoneWrongFalsely : Prop := fnUndoneRow.holds Try.pinned (OpenSpec.ofChange fnUndoneWrong)

/- THE SECOND FORM. 'bulk': how many values and letters a reading holds, each counted each time it is reached (what is shared counts as often as it is met; a slice's spare places count too). A statement '..UptoSaid' is the law's where the arguments, and the package variables that the reading takes, are together of bulk at most 1048576: NARROWER than '..Said'. Prove '..Said' where nothing that the law and all that it calls make is longer than what came in: it says more and counts as full. Else prove '..UptoSaid'. A law counts once. -/
mutual
def uptoBulk {H : Type} : DataW H → Nat
  | .lit (.string bytes) => bytes.length + 1
  | .lit _ => 1
  | .nil => 1
  | .ptr d => uptoBulk d + 1
  | .slice elems spare => uptoBulkAll elems + uptoBulkAll spare + 1
  | .agg parts => uptoBulkAll parts + 1
  | .iface _ d => uptoBulk d + 1
  | .map entries => uptoBulkEntries entries + 1
  | .held _ => 1
def uptoBulkAll {H : Type} : List (DataW H) → Nat
  | [] => 0
  | d :: r => uptoBulk d + uptoBulkAll r
def uptoBulkEntries {H : Type} : List (Lit × DataW H) → Nat
  | [] => 0
  | x :: r => uptoBulkEntry x + uptoBulkEntries r
def uptoBulkEntry {H : Type} : Lit × DataW H → Nat
  | (.string bytes, d) => bytes.length + uptoBulk d + 1
  | (_, d) => uptoBulk d + 1
 end
def uptoSmall : (H : Type) → List (DataW H) → Bool := fun _ ds => decide (uptoBulkAll ds ≤ 1048576)
def OpenSpec.upto (s : _root_.Go.ChangeSpec) : _root_.Go.OpenSpec := { _root_.Go.OpenSpec.ofChange s with cond := some uptoSmall }

/-- 'laws.FnExactWalk', WHERE WHAT IT READS IS OF BULK AT MOST 1048576: true; the input reads as it did. -/
def fnExactWalkUptoRow : OpenClaim := { program := "ytaidaohkbbdimab", sum := "45741ade5a6684c475540ccc51c2a753fd372effd580e8732396eef248bc54cc", func := "loop.example/pub-radixtexts/laws.FnExactWalk", spec := "fnExactWalk", inPlace := ["slices.overlaps[loop.example/pub-radixtexts/impl.Row]"], unfollowed := true, recurses := true, apart := false, narrowed := true }
def FnExactWalkUptoSaid : Prop := fnExactWalkUptoRow.holds Try.pinned (OpenSpec.upto fnExactWalkSpec)

/-- 'laws.FnOrder', WHERE WHAT IT READS IS OF BULK AT MOST 1048576: true; the input reads as it did. -/
def fnOrderUptoRow : OpenClaim := { program := "ytaidaohkbbdimab", sum := "45741ade5a6684c475540ccc51c2a753fd372effd580e8732396eef248bc54cc", func := "loop.example/pub-radixtexts/laws.FnOrder", spec := "fnOrder", inPlace := ["slices.overlaps[loop.example/pub-radixtexts/impl.Row]"], unfollowed := true, recurses := true, apart := false, narrowed := true }
def FnOrderUptoSaid : Prop := fnOrderUptoRow.holds Try.pinned (OpenSpec.upto fnOrderSpec)

/-- 'laws.FnTwice', WHERE WHAT IT READS IS OF BULK AT MOST 1048576: true; the input reads as it did. -/
def fnTwiceUptoRow : OpenClaim := { program := "ytaidaohkbbdimab", sum := "45741ade5a6684c475540ccc51c2a753fd372effd580e8732396eef248bc54cc", func := "loop.example/pub-radixtexts/laws.FnTwice", spec := "fnTwice", inPlace := ["slices.overlaps[loop.example/pub-radixtexts/impl.Row]"], unfollowed := true, recurses := true, apart := false, narrowed := true }
def FnTwiceUptoSaid : Prop := fnTwiceUptoRow.holds Try.pinned (OpenSpec.upto fnTwiceSpec)

/-- 'laws.FnExactMax', WHERE WHAT IT READS IS OF BULK AT MOST 1048576: true; the input reads as it did. -/
def fnExactMaxUptoRow : OpenClaim := { program := "ytaidaohkbbdimab", sum := "45741ade5a6684c475540ccc51c2a753fd372effd580e8732396eef248bc54cc", func := "loop.example/pub-radixtexts/laws.FnExactMax", spec := "fnExactMax", inPlace := ["slices.overlaps[loop.example/pub-radixtexts/impl.Row]"], unfollowed := true, recurses := true, apart := false, narrowed := true }
def FnExactMaxUptoSaid : Prop := fnExactMaxUptoRow.holds Try.pinned (OpenSpec.upto fnExactMaxSpec)

/-- 'laws.FnExactMin', WHERE WHAT IT READS IS OF BULK AT MOST 1048576: true; the input reads as it did. -/
def fnExactMinUptoRow : OpenClaim := { program := "ytaidaohkbbdimab", sum := "45741ade5a6684c475540ccc51c2a753fd372effd580e8732396eef248bc54cc", func := "loop.example/pub-radixtexts/laws.FnExactMin", spec := "fnExactMin", inPlace := ["slices.overlaps[loop.example/pub-radixtexts/impl.Row]"], unfollowed := true, recurses := true, apart := false, narrowed := true }
def FnExactMinUptoSaid : Prop := fnExactMinUptoRow.holds Try.pinned (OpenSpec.upto fnExactMinSpec)

/-- 'laws.FnExactToMap', WHERE WHAT IT READS IS OF BULK AT MOST 1048576: true; the input reads as it did. -/
def fnExactToMapUptoRow : OpenClaim := { program := "ytaidaohkbbdimab", sum := "45741ade5a6684c475540ccc51c2a753fd372effd580e8732396eef248bc54cc", func := "loop.example/pub-radixtexts/laws.FnExactToMap", spec := "fnExactToMap", inPlace := ["slices.overlaps[loop.example/pub-radixtexts/impl.Row]"], unfollowed := true, recurses := true, apart := false, narrowed := true }
def FnExactToMapUptoSaid : Prop := fnExactToMapUptoRow.holds Try.pinned (OpenSpec.upto fnExactToMapSpec)

/-- 'laws.FnExactGet', WHERE WHAT IT READS IS OF BULK AT MOST 1048576: true; the input reads as it did. -/
def fnExactGetUptoRow : OpenClaim := { program := "ytaidaohkbbdimab", sum := "45741ade5a6684c475540ccc51c2a753fd372effd580e8732396eef248bc54cc", func := "loop.example/pub-radixtexts/laws.FnExactGet", spec := "fnExactGet", inPlace := ["slices.overlaps[loop.example/pub-radixtexts/impl.Row]"], unfollowed := true, recurses := true, apart := false, narrowed := true }
def FnExactGetUptoSaid : Prop := fnExactGetUptoRow.holds Try.pinned (OpenSpec.upto fnExactGetSpec)

/-- 'laws.FnExactLongest', WHERE WHAT IT READS IS OF BULK AT MOST 1048576: true; the input reads as it did. -/
def fnExactLongestUptoRow : OpenClaim := { program := "ytaidaohkbbdimab", sum := "45741ade5a6684c475540ccc51c2a753fd372effd580e8732396eef248bc54cc", func := "loop.example/pub-radixtexts/laws.FnExactLongest", spec := "fnExactLongest", inPlace := ["slices.overlaps[loop.example/pub-radixtexts/impl.Row]"], unfollowed := true, recurses := true, apart := false, narrowed := true }
def FnExactLongestUptoSaid : Prop := fnExactLongestUptoRow.holds Try.pinned (OpenSpec.upto fnExactLongestSpec)

/-- 'laws.FnExactAbove', WHERE WHAT IT READS IS OF BULK AT MOST 1048576: true; the input reads as it did. -/
def fnExactAboveUptoRow : OpenClaim := { program := "ytaidaohkbbdimab", sum := "45741ade5a6684c475540ccc51c2a753fd372effd580e8732396eef248bc54cc", func := "loop.example/pub-radixtexts/laws.FnExactAbove", spec := "fnExactAbove", inPlace := ["slices.overlaps[loop.example/pub-radixtexts/impl.Row]"], unfollowed := true, recurses := true, apart := false, narrowed := true }
def FnExactAboveUptoSaid : Prop := fnExactAboveUptoRow.holds Try.pinned (OpenSpec.upto fnExactAboveSpec)

/-- 'laws.FnExactUnder', WHERE WHAT IT READS IS OF BULK AT MOST 1048576: true; the input reads as it did. -/
def fnExactUnderUptoRow : OpenClaim := { program := "ytaidaohkbbdimab", sum := "45741ade5a6684c475540ccc51c2a753fd372effd580e8732396eef248bc54cc", func := "loop.example/pub-radixtexts/laws.FnExactUnder", spec := "fnExactUnder", inPlace := ["slices.overlaps[loop.example/pub-radixtexts/impl.Row]"], unfollowed := true, recurses := true, apart := false, narrowed := true }
def FnExactUnderUptoSaid : Prop := fnExactUnderUptoRow.holds Try.pinned (OpenSpec.upto fnExactUnderSpec)

/-- 'laws.FnMaps', WHERE WHAT IT READS IS OF BULK AT MOST 1048576: true; the input reads as it did. -/
def fnMapsUptoRow : OpenClaim := { program := "ytaidaohkbbdimab", sum := "45741ade5a6684c475540ccc51c2a753fd372effd580e8732396eef248bc54cc", func := "loop.example/pub-radixtexts/laws.FnMaps", spec := "fnMaps", inPlace := ["slices.overlaps[loop.example/pub-radixtexts/impl.Row]"], unfollowed := true, recurses := true, apart := false, narrowed := true }
def FnMapsUptoSaid : Prop := fnMapsUptoRow.holds Try.pinned (OpenSpec.upto fnMapsSpec)

/-- 'laws.FnUndone', WHERE WHAT IT READS IS OF BULK AT MOST 1048576: true; the input reads as it did. -/
def fnUndoneUptoRow : OpenClaim := { program := "ytaidaohkbbdimab", sum := "45741ade5a6684c475540ccc51c2a753fd372effd580e8732396eef248bc54cc", func := "loop.example/pub-radixtexts/laws.FnUndone", spec := "fnUndone", inPlace := ["slices.overlaps[loop.example/pub-radixtexts/impl.Row]"], unfollowed := true, recurses := true, apart := false, narrowed := true }
def FnUndoneUptoSaid : Prop := fnUndoneUptoRow.holds Try.pinned (OpenSpec.upto fnUndoneSpec)

end Rows
end Go.Proofs.Ytaidaohkbbdimab
