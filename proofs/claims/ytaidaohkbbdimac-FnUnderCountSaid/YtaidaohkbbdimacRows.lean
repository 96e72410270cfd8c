/-
  No cell of these rows narrows 'for every input' (looked for: loops, veiled, ifaces, maps, wideKeys, modest, calm, conditions, laid).
  DERIVED. THE GIVEN ROWS OF THIS SEAT. 6 by the template 'for every input the law returns true; each argument reads behind the call as it read before'; 0 by the template 'total and deterministic' (their statements: YtaidaohkbbdimacTotals.lean).
  GIVEN WITH THE SEED: the statements are not yours to turn. If you find one false, say at which input.
  Laid BY PROGRAM, IN A SANDBOX (cutbox-rows.mjs): the forced cells as the released guide's own fill.sh prints them over the translation 14f84565bd2bb4f4… (all of the seat's roots in one cut). By AI agents, Wed Nov 11 2026. No macro, syntax, notation, axiom, sorry.
-/
import Derived.Test.YtaidaohkbbdimacChecked
import GoSem.Claim
import GoSem.ClaimJoined
import GoSem.ClaimMapViews
import Derived.JoinedTies
import Derived.KernelRfl
namespace Go.Proofs.Ytaidaohkbbdimac
/- THE CELL 'sum', in the pinned program and in every row, IS THE sha256 OF THE DUMP (.gsa) THAT YtaidaohkbbdimacProg.lean LOADS. Nothing in Lean hashes anything: it is a label: what it is worth is what the hold of that sum in a sandbox is worth. -/
noncomputable def Try.pinned : Pinned := { name := "ytaidaohkbbdimac", sum := "14f84565bd2bb4f4edfd629507c1dbb37c85d5a17c8a73f9ffdbe9a447fceee8", checked := Try.checked }
namespace Rows
def none {H : Type} : Left H := { results := [], args := [] }

/-- 'laws.FnGone': WHATEVER THE INPUT: true; the input reads as it did. -/
def fnGoneSpec : ChangeSpec := { name := "fnGone", fn := fun _ => fun
  | [d1, d2] => { results := [.lit (.bool true)], args := [d1, d2] }
  | _ => none }
def fnGoneRow : OpenClaim := { program := "ytaidaohkbbdimac", sum := "14f84565bd2bb4f4edfd629507c1dbb37c85d5a17c8a73f9ffdbe9a447fceee8", func := "loop.example/pub-radixtexts/laws.FnGone", spec := "fnGone", inPlace := ["slices.overlaps[loop.example/pub-radixtexts/impl.Row]"], unfollowed := true, recurses := true, apart := false }
def FnGoneSaid : Prop := fnGoneRow.holds Try.pinned (OpenSpec.ofChange fnGoneSpec)

/-- ITS FALSE NEIGHBOUR: 'it returns false'. Refute it at one input. -/
def fnGoneWrong : ChangeSpec := { name := "fnGone", fn := fun _ => fun
  | [d1, d2] => { results := [.lit (.bool false)], args := [d1, d2] }
  | _ => none }
def FnGoneWrongFalsely : Prop := fnGoneRow.holds Try.pinned (OpenSpec.ofChange fnGoneWrong)

/-- 'laws.FnUnderCount': WHATEVER THE INPUT: true; the input reads as it did. -/
def fnUnderCountSpec : ChangeSpec := { name := "fnUnderCount", fn := fun _ => fun
  | [d1, d2] => { results := [.lit (.bool true)], args := [d1, d2] }
  | _ => none }
def fnUnderCountRow : OpenClaim := { program := "ytaidaohkbbdimac", sum := "14f84565bd2bb4f4edfd629507c1dbb37c85d5a17c8a73f9ffdbe9a447fceee8", func := "loop.example/pub-radixtexts/laws.FnUnderCount", spec := "fnUnderCount", inPlace := ["slices.overlaps[loop.example/pub-radixtexts/impl.Row]"], unfollowed := true, recurses := true, apart := false }
def FnUnderCountSaid : Prop := fnUnderCountRow.holds Try.pinned (OpenSpec.ofChange fnUnderCountSpec)

/-- ITS FALSE NEIGHBOUR: 'it returns false'. Refute it at one input. -/
def fnUnderCountWrong : ChangeSpec := { name := "fnUnderCount", fn := fun _ => fun
  | [d1, d2] => { results := [.lit (.bool false)], args := [d1, d2] }
  | _ => none }
def FnUnderCountWrongFalsely : Prop := fnUnderCountRow.holds Try.pinned (OpenSpec.ofChange fnUnderCountWrong)

/-- 'laws.FnMoved': WHATEVER THE INPUT: true; the input reads as it did. -/
def fnMovedSpec : ChangeSpec := { name := "fnMoved", fn := fun _ => fun
  | [d1, d2] => { results := [.lit (.bool true)], args := [d1, d2] }
  | _ => none }
def fnMovedRow : OpenClaim := { program := "ytaidaohkbbdimac", sum := "14f84565bd2bb4f4edfd629507c1dbb37c85d5a17c8a73f9ffdbe9a447fceee8", func := "loop.example/pub-radixtexts/laws.FnMoved", spec := "fnMoved", inPlace := ["slices.overlaps[loop.example/pub-radixtexts/impl.Row]"], unfollowed := true, recurses := true, apart := false }
def FnMovedSaid : Prop := fnMovedRow.holds Try.pinned (OpenSpec.ofChange fnMovedSpec)

/-- ITS FALSE NEIGHBOUR: 'it returns false'. Refute it at one input. -/
def fnMovedWrong : ChangeSpec := { name := "fnMoved", fn := fun _ => fun
  | [d1, d2] => { results := [.lit (.bool false)], args := [d1, d2] }
  | _ => none }
def FnMovedWrongFalsely : Prop := fnMovedRow.holds Try.pinned (OpenSpec.ofChange fnMovedWrong)

/-- 'laws.FnParts': WHATEVER THE INPUT: true; the input reads as it did. -/
def fnPartsSpec : ChangeSpec := { name := "fnParts", fn := fun _ => fun
  | [d1, d2] => { results := [.lit (.bool true)], args := [d1, d2] }
  | _ => none }
def fnPartsRow : OpenClaim := { program := "ytaidaohkbbdimac", sum := "14f84565bd2bb4f4edfd629507c1dbb37c85d5a17c8a73f9ffdbe9a447fceee8", func := "loop.example/pub-radixtexts/laws.FnParts", spec := "fnParts", inPlace := ["slices.overlaps[loop.example/pub-radixtexts/impl.Row]"], unfollowed := true, recurses := true, apart := false }
def FnPartsSaid : Prop := fnPartsRow.holds Try.pinned (OpenSpec.ofChange fnPartsSpec)

/-- ITS FALSE NEIGHBOUR: 'it returns false'. Refute it at one input. -/
def fnPartsWrong : ChangeSpec := { name := "fnParts", fn := fun _ => fun
  | [d1, d2] => { results := [.lit (.bool false)], args := [d1, d2] }
  | _ => none }
def FnPartsWrongFalsely : Prop := fnPartsRow.holds Try.pinned (OpenSpec.ofChange fnPartsWrong)

/-- 'laws.FnEnds': WHATEVER THE INPUT: true; the input reads as it did. -/
def fnEndsSpec : ChangeSpec := { name := "fnEnds", fn := fun _ => fun
  | [d] => { results := [.lit (.bool true)], args := [d] }
  | _ => none }
def fnEndsRow : OpenClaim := { program := "ytaidaohkbbdimac", sum := "14f84565bd2bb4f4edfd629507c1dbb37c85d5a17c8a73f9ffdbe9a447fceee8", func := "loop.example/pub-radixtexts/laws.FnEnds", spec := "fnEnds", inPlace := ["slices.overlaps[loop.example/pub-radixtexts/impl.Row]"], unfollowed := true, recurses := true, apart := false }
def FnEndsSaid : Prop := fnEndsRow.holds Try.pinned (OpenSpec.ofChange fnEndsSpec)

/-- ITS FALSE NEIGHBOUR: 'it returns false'. Refute it at one input. -/
def fnEndsWrong : ChangeSpec := { name := "fnEnds", fn := fun _ => fun
  | [d] => { results := [.lit (.bool false)], args := [d] }
  | _ => none }
def FnEndsWrongFalsely : Prop := fnEndsRow.holds Try.pinned (OpenSpec.ofChange fnEndsWrong)

/-- 'laws.FnEverything': WHATEVER THE INPUT: true; the input reads as it did. -/
def fnEverythingSpec : ChangeSpec := { name := "fnEverything", fn := fun _ => fun
  | [d] => { results := [.lit (.bool true)], args := [d] }
  | _ => none }
def fnEverythingRow : OpenClaim := { program := "ytaidaohkbbdimac", sum := "14f84565bd2bb4f4edfd629507c1dbb37c85d5a17c8a73f9ffdbe9a447fceee8", func := "loop.example/pub-radixtexts/laws.FnEverything", spec := "fnEverything", inPlace := ["slices.overlaps[loop.example/pub-radixtexts/impl.Row]"], unfollowed := true, recurses := true, apart := false }
def FnEverythingSaid : Prop := fnEverythingRow.holds Try.pinned (OpenSpec.ofChange fnEverythingSpec)

/-- ITS FALSE NEIGHBOUR: 'it returns false'. Refute it at one input. -/
def fnEverythingWrong : ChangeSpec := { name := "fnEverything", fn := fun _ => fun
  | [d] => { results := [.lit (.bool false)], args := [d] }
  | _ => none }
def FnEverythingWrongFalsely : Prop := fnEverythingRow.holds Try.pinned (OpenSpec.ofChange fnEverythingWrong)

/- THE SECOND FORM. 'bulk': how many values and letters a reading holds, each counted each time it is reached (what is shared counts as often as it is met; a slice's spare places count too). A statement '..UptoSaid' is the law's where the arguments, and the package variables that the reading takes, are together of bulk at most 1048576: NARROWER than '..Said'. Prove '..Said' where nothing that the law and all that it calls make is longer than what came in: it says more and counts as full. Else prove '..UptoSaid'. A law counts once. -/
mutual
def uptoBulk {H : Type} : DataW H → Nat
  | .lit (.string bytes) => bytes.length + 1
  | .lit _ => 1
  | .nil => 1
  | .ptr d => uptoBulk d + 1
  | .slice elems spare => uptoBulkAll elems + uptoBulkAll spare + 1
  | .agg parts => uptoBulkAll parts + 1
  | .iface _ d => uptoBulk d + 1
  | .map entries => uptoBulkEntries entries + 1
  | .held _ => 1
def uptoBulkAll {H : Type} : List (DataW H) → Nat
  | [] => 0
  | d :: r => uptoBulk d + uptoBulkAll r
def uptoBulkEntries {H : Type} : List (Lit × DataW H) → Nat
  | [] => 0
  | x :: r => uptoBulkEntry x + uptoBulkEntries r
def uptoBulkEntry {H : Type} : Lit × DataW H → Nat
  | (.string bytes, d) => bytes.length + uptoBulk d + 1
  | (_, d) => uptoBulk d + 1
 end
def uptoSmall : (H : Type) → List (DataW H) → Bool := fun _ ds => decide (uptoBulkAll ds ≤ 1048576)
def OpenSpec.upto (s : _root_.Go.ChangeSpec) : _root_.Go.OpenSpec := { _root_.Go.OpenSpec.ofChange s with cond := some uptoSmall }

/-- 'laws.FnGone', WHERE WHAT IT READS IS OF BULK AT MOST 1048576: true; the input reads as it did. -/
def fnGoneUptoRow : OpenClaim := { program := "ytaidaohkbbdimac", sum := "14f84565bd2bb4f4edfd629507c1dbb37c85d5a17c8a73f9ffdbe9a447fceee8", func := "loop.example/pub-radixtexts/laws.FnGone", spec := "fnGone", inPlace := ["slices.overlaps[loop.example/pub-radixtexts/impl.Row]"], unfollowed := true, recurses := true, apart := false, narrowed := true }
def FnGoneUptoSaid : Prop := fnGoneUptoRow.holds Try.pinned (OpenSpec.upto fnGoneSpec)

/-- 'laws.FnUnderCount', WHERE WHAT IT READS IS OF BULK AT MOST 1048576: true; the input reads as it did. -/
def fnUnderCountUptoRow : OpenClaim := { program := "ytaidaohkbbdimac", sum := "14f84565bd2bb4f4edfd629507c1dbb37c85d5a17c8a73f9ffdbe9a447fceee8", func := "loop.example/pub-radixtexts/laws.FnUnderCount", spec := "fnUnderCount", inPlace := ["slices.overlaps[loop.example/pub-radixtexts/impl.Row]"], unfollowed := true, recurses := true, apart := false, narrowed := true }
def FnUnderCountUptoSaid : Prop := fnUnderCountUptoRow.holds Try.pinned (OpenSpec.upto fnUnderCountSpec)

/-- 'laws.FnMoved', WHERE WHAT IT READS IS OF BULK AT MOST 1048576: true; the input reads as it did. -/
def fnMovedUptoRow : OpenClaim := { program := "ytaidaohkbbdimac", sum := "14f84565bd2bb4f4edfd629507c1dbb37c85d5a17c8a73f9ffdbe9a447fceee8", func := "loop.example/pub-radixtexts/laws.FnMoved", spec := "fnMoved", inPlace := ["slices.overlaps[loop.example/pub-radixtexts/impl.Row]"], unfollowed := true, recurses := true, apart := false, narrowed := true }
def FnMovedUptoSaid : Prop := fnMovedUptoRow.holds Try.pinned (OpenSpec.upto fnMovedSpec)

/-- 'laws.FnParts', WHERE WHAT IT READS IS OF BULK AT MOST 1048576: true; the input reads as it did. -/
def fnPartsUptoRow : OpenClaim := { program := "ytaidaohkbbdimac", sum := "14f84565bd2bb4f4edfd629507c1dbb37c85d5a17c8a73f9ffdbe9a447fceee8", func := "loop.example/pub-radixtexts/laws.FnParts", spec := "fnParts", inPlace := ["slices.overlaps[loop.example/pub-radixtexts/impl.Row]"], unfollowed := true, recurses := true, apart := false, narrowed := true }
def FnPartsUptoSaid : Prop := fnPartsUptoRow.holds Try.pinned (OpenSpec.upto fnPartsSpec)

/-- 'laws.FnEnds', WHERE WHAT IT READS IS OF BULK AT MOST 1048576: true; the input reads as it did. -/
def fnEndsUptoRow : OpenClaim := { program := "ytaidaohkbbdimac", sum := "14f84565bd2bb4f4edfd629507c1dbb37c85d5a17c8a73f9ffdbe9a447fceee8", func := "loop.example/pub-radixtexts/laws.FnEnds", spec := "fnEnds", inPlace := ["slices.overlaps[loop.example/pub-radixtexts/impl.Row]"], unfollowed := true, recurses := true, apart := false, narrowed := true }
def FnEndsUptoSaid : Prop := fnEndsUptoRow.holds Try.pinned (OpenSpec.upto fnEndsSpec)

/-- 'laws.FnEverything', WHERE WHAT IT READS IS OF BULK AT MOST 1048576: true; the input reads as it did. -/
def fnEverythingUptoRow : OpenClaim := { program := "ytaidaohkbbdimac", sum := "14f84565bd2bb4f4edfd629507c1dbb37c85d5a17c8a73f9ffdbe9a447fceee8", func := "loop.example/pub-radixtexts/laws.FnEverything", spec := "fnEverything", inPlace := ["slices.overlaps[loop.example/pub-radixtexts/impl.Row]"], unfollowed := true, recurses := true, apart := false, narrowed := true }
def FnEverythingUptoSaid : Prop := fnEverythingUptoRow.holds Try.pinned (OpenSpec.upto fnEverythingSpec)

end Rows
end Go.Proofs.Ytaidaohkbbdimac
