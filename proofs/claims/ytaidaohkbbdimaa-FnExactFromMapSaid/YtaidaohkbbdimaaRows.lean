/-
  NARROWER THAN 'FOR EVERY INPUT', by the rows' own cells (each row's printed sentence says how): FnExactFromMap: maps.
  DERIVED. THE GIVEN ROWS OF THIS SEAT. 12 by the template 'for every input the law returns true; each argument reads behind the call as it read before'; 0 by the template 'total and deterministic' (their statements: YtaidaohkbbdimaaTotals.lean).
  GIVEN WITH THE SEED: the statements are not yours to turn. If you find one false, say at which input.
  Laid BY PROGRAM, IN A SANDBOX (cutbox-rows.mjs): the forced cells as the released guide's own fill.sh prints them over the translation b0efc5c85ee3945e… (all of the seat's roots in one cut). By AI agents, Wed Nov 11 2026. No macro, syntax, notation, axiom, sorry.
-/
import Derived.Test.YtaidaohkbbdimaaChecked
import GoSem.Claim
import GoSem.ClaimJoined
import GoSem.ClaimMapViews
import Derived.JoinedTies
import Derived.KernelRfl
namespace Go.Proofs.Ytaidaohkbbdimaa
/- THE CELL 'sum', in the pinned program and in every row, IS THE sha256 OF THE DUMP (.gsa) THAT YtaidaohkbbdimaaProg.lean LOADS. Nothing in Lean hashes anything: it is a label: what it is worth is what the hold of that sum in a sandbox is worth. -/
noncomputable def Try.pinned : Pinned := { name := "ytaidaohkbbdimaa", sum := "b0efc5c85ee3945ec97e74e5e2da7473a88c3103eec1b50fbc73a854e584fbe1", checked := Try.checked }
namespace Rows
def none {H : Type} : Left H := { results := [], args := [] }

/-- 'laws.FnExactFromMap': WHATEVER THE INPUT: true; the input reads as it did. -/
def fnExactFromMapSpec : ChangeSpec := { name := "fnExactFromMap", fn := fun _ => fun
  | [d] => { results := [.lit (.bool true)], args := [d] }
  | _ => none }
def fnExactFromMapRow : OpenClaim := { program := "ytaidaohkbbdimaa", sum := "b0efc5c85ee3945ec97e74e5e2da7473a88c3103eec1b50fbc73a854e584fbe1", func := "loop.example/pub-radixtexts/laws.FnExactFromMap", spec := "fnExactFromMap", unfollowed := true, recurses := true, maps := true, apart := false }
def FnExactFromMapSaid : Prop := fnExactFromMapRow.holds Try.pinned (OpenSpec.ofChange fnExactFromMapSpec)

/-- ITS FALSE NEIGHBOUR: 'it returns false'. Refute it at one input. -/
def fnExactFromMapWrong : ChangeSpec := { name := "fnExactFromMap", fn := fun _ => fun
  | [d] => { results := [.lit (.bool false)], args := [d] }
  | _ => none }
def FnExactFromMapWrongFalsely : Prop := fnExactFromMapRow.holds Try.pinned (OpenSpec.ofChange fnExactFromMapWrong)

/-- 'laws.FnPrevious': WHATEVER THE INPUT: true; the input reads as it did. -/
def fnPreviousSpec : ChangeSpec := { name := "fnPrevious", fn := fun _ => fun
  | [d1, d2, d3] => { results := [.lit (.bool true)], args := [d1, d2, d3] }
  | _ => none }
def fnPreviousRow : OpenClaim := { program := "ytaidaohkbbdimaa", sum := "b0efc5c85ee3945ec97e74e5e2da7473a88c3103eec1b50fbc73a854e584fbe1", func := "loop.example/pub-radixtexts/laws.FnPrevious", spec := "fnPrevious", unfollowed := true, recurses := true, apart := false }
def FnPreviousSaid : Prop := fnPreviousRow.holds Try.pinned (OpenSpec.ofChange fnPreviousSpec)

/-- ITS FALSE NEIGHBOUR: 'it returns false'. Refute it at one input. -/
def fnPreviousWrong : ChangeSpec := { name := "fnPrevious", fn := fun _ => fun
  | [d1, d2, d3] => { results := [.lit (.bool false)], args := [d1, d2, d3] }
  | _ => none }
def FnPreviousWrongFalsely : Prop := fnPreviousRow.holds Try.pinned (OpenSpec.ofChange fnPreviousWrong)

/-- 'laws.FnExactMatch': WHATEVER THE INPUT: true; the input reads as it did. -/
def fnExactMatchSpec : ChangeSpec := { name := "fnExactMatch", fn := fun _ => fun
  | [d1, d2, d3] => { results := [.lit (.bool true)], args := [d1, d2, d3] }
  | _ => none }
def fnExactMatchRow : OpenClaim := { program := "ytaidaohkbbdimaa", sum := "b0efc5c85ee3945ec97e74e5e2da7473a88c3103eec1b50fbc73a854e584fbe1", func := "loop.example/pub-radixtexts/laws.FnExactMatch", spec := "fnExactMatch", unfollowed := true, recurses := true, apart := false }
def FnExactMatchSaid : Prop := fnExactMatchRow.holds Try.pinned (OpenSpec.ofChange fnExactMatchSpec)

/-- ITS FALSE NEIGHBOUR: 'it returns false'. Refute it at one input. -/
def fnExactMatchWrong : ChangeSpec := { name := "fnExactMatch", fn := fun _ => fun
  | [d1, d2, d3] => { results := [.lit (.bool false)], args := [d1, d2, d3] }
  | _ => none }
def FnExactMatchWrongFalsely : Prop := fnExactMatchRow.holds Try.pinned (OpenSpec.ofChange fnExactMatchWrong)

/-- 'laws.FnUnderGone': WHATEVER THE INPUT: true; the input reads as it did. -/
def fnUnderGoneSpec : ChangeSpec := { name := "fnUnderGone", fn := fun _ => fun
  | [d1, d2] => { results := [.lit (.bool true)], args := [d1, d2] }
  | _ => none }
def fnUnderGoneRow : OpenClaim := { program := "ytaidaohkbbdimaa", sum := "b0efc5c85ee3945ec97e74e5e2da7473a88c3103eec1b50fbc73a854e584fbe1", func := "loop.example/pub-radixtexts/laws.FnUnderGone", spec := "fnUnderGone", inPlace := ["slices.overlaps[loop.example/pub-radixtexts/impl.Row]"], unfollowed := true, recurses := true, apart := false }
def FnUnderGoneSaid : Prop := fnUnderGoneRow.holds Try.pinned (OpenSpec.ofChange fnUnderGoneSpec)

/-- ITS FALSE NEIGHBOUR: 'it returns false'. Refute it at one input. -/
def fnUnderGoneWrong : ChangeSpec := { name := "fnUnderGone", fn := fun _ => fun
  | [d1, d2] => { results := [.lit (.bool false)], args := [d1, d2] }
  | _ => none }
def FnUnderGoneWrongFalsely : Prop := fnUnderGoneRow.holds Try.pinned (OpenSpec.ofChange fnUnderGoneWrong)

/-- 'laws.FnUpdated': WHATEVER THE INPUT: true; the input reads as it did. -/
def fnUpdatedSpec : ChangeSpec := { name := "fnUpdated", fn := fun _ => fun
  | [d1, d2, d3] => { results := [.lit (.bool true)], args := [d1, d2, d3] }
  | _ => none }
def fnUpdatedRow : OpenClaim := { program := "ytaidaohkbbdimaa", sum := "b0efc5c85ee3945ec97e74e5e2da7473a88c3103eec1b50fbc73a854e584fbe1", func := "loop.example/pub-radixtexts/laws.FnUpdated", spec := "fnUpdated", unfollowed := true, recurses := true, apart := false }
def FnUpdatedSaid : Prop := fnUpdatedRow.holds Try.pinned (OpenSpec.ofChange fnUpdatedSpec)

/-- ITS FALSE NEIGHBOUR: 'it returns false'. Refute it at one input. -/
def fnUpdatedWrong : ChangeSpec := { name := "fnUpdated", fn := fun _ => fun
  | [d1, d2, d3] => { results := [.lit (.bool false)], args := [d1, d2, d3] }
  | _ => none }
def FnUpdatedWrongFalsely : Prop := fnUpdatedRow.holds Try.pinned (OpenSpec.ofChange fnUpdatedWrong)

/-- 'laws.FnFound': WHATEVER THE INPUT: true; the input reads as it did. -/
def fnFoundSpec : ChangeSpec := { name := "fnFound", fn := fun _ => fun
  | [d1, d2, d3] => { results := [.lit (.bool true)], args := [d1, d2, d3] }
  | _ => none }
def fnFoundRow : OpenClaim := { program := "ytaidaohkbbdimaa", sum := "b0efc5c85ee3945ec97e74e5e2da7473a88c3103eec1b50fbc73a854e584fbe1", func := "loop.example/pub-radixtexts/laws.FnFound", spec := "fnFound", unfollowed := true, recurses := true, apart := false }
def FnFoundSaid : Prop := fnFoundRow.holds Try.pinned (OpenSpec.ofChange fnFoundSpec)

/-- ITS FALSE NEIGHBOUR: 'it returns false'. Refute it at one input. -/
def fnFoundWrong : ChangeSpec := { name := "fnFound", fn := fun _ => fun
  | [d1, d2, d3] => { results := [.lit (.bool false)], args := [d1, d2, d3] }
  | _ => none }
def FnFoundWrongFalsely : Prop := fnFoundRow.holds Try.pinned (OpenSpec.ofChange fnFoundWrong)

/-- 'laws.FnExactRun': WHATEVER THE INPUT: true; the input reads as it did. -/
def fnExactRunSpec : ChangeSpec := { name := "fnExactRun", fn := fun _ => fun
  | [d] => { results := [.lit (.bool true)], args := [d] }
  | _ => none }
def fnExactRunRow : OpenClaim := { program := "ytaidaohkbbdimaa", sum := "b0efc5c85ee3945ec97e74e5e2da7473a88c3103eec1b50fbc73a854e584fbe1", func := "loop.example/pub-radixtexts/laws.FnExactRun", spec := "fnExactRun", inPlace := ["slices.overlaps[loop.example/pub-radixtexts/impl.Row]"], unfollowed := true, recurses := true, apart := false }
def FnExactRunSaid : Prop := fnExactRunRow.holds Try.pinned (OpenSpec.ofChange fnExactRunSpec)

/-- ITS FALSE NEIGHBOUR: 'it returns false'. Refute it at one input. -/
def fnExactRunWrong : ChangeSpec := { name := "fnExactRun", fn := fun _ => fun
  | [d] => { results := [.lit (.bool false)], args := [d] }
  | _ => none }
def FnExactRunWrongFalsely : Prop := fnExactRunRow.holds Try.pinned (OpenSpec.ofChange fnExactRunWrong)

/-- 'laws.FnDeleteAll': WHATEVER THE INPUT: true; the input reads as it did. -/
def fnDeleteAllSpec : ChangeSpec := { name := "fnDeleteAll", fn := fun _ => fun
  | [d] => { results := [.lit (.bool true)], args := [d] }
  | _ => none }
def fnDeleteAllRow : OpenClaim := { program := "ytaidaohkbbdimaa", sum := "b0efc5c85ee3945ec97e74e5e2da7473a88c3103eec1b50fbc73a854e584fbe1", func := "loop.example/pub-radixtexts/laws.FnDeleteAll", spec := "fnDeleteAll", inPlace := ["slices.overlaps[loop.example/pub-radixtexts/impl.Row]"], unfollowed := true, recurses := true, apart := false }
def FnDeleteAllSaid : Prop := fnDeleteAllRow.holds Try.pinned (OpenSpec.ofChange fnDeleteAllSpec)

/-- ITS FALSE NEIGHBOUR: 'it returns false'. Refute it at one input. -/
def fnDeleteAllWrong : ChangeSpec := { name := "fnDeleteAll", fn := fun _ => fun
  | [d] => { results := [.lit (.bool false)], args := [d] }
  | _ => none }
def FnDeleteAllWrongFalsely : Prop := fnDeleteAllRow.holds Try.pinned (OpenSpec.ofChange fnDeleteAllWrong)

/-- 'laws.FnExactLen': WHATEVER THE INPUT: true; the input reads as it did. -/
def fnExactLenSpec : ChangeSpec := { name := "fnExactLen", fn := fun _ => fun
  | [d] => { results := [.lit (.bool true)], args := [d] }
  | _ => none }
def fnExactLenRow : OpenClaim := { program := "ytaidaohkbbdimaa", sum := "b0efc5c85ee3945ec97e74e5e2da7473a88c3103eec1b50fbc73a854e584fbe1", func := "loop.example/pub-radixtexts/laws.FnExactLen", spec := "fnExactLen", inPlace := ["slices.overlaps[loop.example/pub-radixtexts/impl.Row]"], unfollowed := true, recurses := true, apart := false }
def FnExactLenSaid : Prop := fnExactLenRow.holds Try.pinned (OpenSpec.ofChange fnExactLenSpec)

/-- ITS FALSE NEIGHBOUR: 'it returns false'. Refute it at one input. -/
def fnExactLenWrong : ChangeSpec := { name := "fnExactLen", fn := fun _ => fun
  | [d] => { results := [.lit (.bool false)], args := [d] }
  | _ => none }
def FnExactLenWrongFalsely : Prop := fnExactLenRow.holds Try.pinned (OpenSpec.ofChange fnExactLenWrong)

/-- 'laws.FnAscends': WHATEVER THE INPUT: true; the input reads as it did. -/
def fnAscendsSpec : ChangeSpec := { name := "fnAscends", fn := fun _ => fun
  | [d] => { results := [.lit (.bool true)], args := [d] }
  | _ => none }
def fnAscendsRow : OpenClaim := { program := "ytaidaohkbbdimaa", sum := "b0efc5c85ee3945ec97e74e5e2da7473a88c3103eec1b50fbc73a854e584fbe1", func := "loop.example/pub-radixtexts/laws.FnAscends", spec := "fnAscends", inPlace := ["slices.overlaps[loop.example/pub-radixtexts/impl.Row]"], unfollowed := true, recurses := true, apart := false }
def FnAscendsSaid : Prop := fnAscendsRow.holds Try.pinned (OpenSpec.ofChange fnAscendsSpec)

/-- ITS FALSE NEIGHBOUR: 'it returns false'. Refute it at one input. -/
def fnAscendsWrong : ChangeSpec := { name := "fnAscends", fn := fun _ => fun
  | [d] => { results := [.lit (.bool false)], args := [d] }
  | _ => none }
def FnAscendsWrongFalsely : Prop := fnAscendsRow.holds Try.pinned (OpenSpec.ofChange fnAscendsWrong)

/-- 'laws.FnChain': WHATEVER THE INPUT: true; the input reads as it did. -/
def fnChainSpec : ChangeSpec := { name := "fnChain", fn := fun _ => fun
  | [d1, d2] => { results := [.lit (.bool true)], args := [d1, d2] }
  | _ => none }
def fnChainRow : OpenClaim := { program := "ytaidaohkbbdimaa", sum := "b0efc5c85ee3945ec97e74e5e2da7473a88c3103eec1b50fbc73a854e584fbe1", func := "loop.example/pub-radixtexts/laws.FnChain", spec := "fnChain", inPlace := ["slices.overlaps[loop.example/pub-radixtexts/impl.Row]"], unfollowed := true, recurses := true, apart := false }
def FnChainSaid : Prop := fnChainRow.holds Try.pinned (OpenSpec.ofChange fnChainSpec)

/-- ITS FALSE NEIGHBOUR: 'it returns false'. Refute it at one input. -/
def fnChainWrong : ChangeSpec := { name := "fnChain", fn := fun _ => fun
  | [d1, d2] => { results := [.lit (.bool false)], args := [d1, d2] }
  | _ => none }
def FnChainWrongFalsely : Prop := fnChainRow.holds Try.pinned (OpenSpec.ofChange fnChainWrong)

/-- 'laws.FnBehind': WHATEVER THE INPUT: true; the input reads as it did. -/
def fnBehindSpec : ChangeSpec := { name := "fnBehind", fn := fun _ => fun
  | [d1, d2] => { results := [.lit (.bool true)], args := [d1, d2] }
  | _ => none }
def fnBehindRow : OpenClaim := { program := "ytaidaohkbbdimaa", sum := "b0efc5c85ee3945ec97e74e5e2da7473a88c3103eec1b50fbc73a854e584fbe1", func := "loop.example/pub-radixtexts/laws.FnBehind", spec := "fnBehind", inPlace := ["slices.overlaps[loop.example/pub-radixtexts/impl.Row]"], unfollowed := true, recurses := true, apart := false }
def FnBehindSaid : Prop := fnBehindRow.holds Try.pinned (OpenSpec.ofChange fnBehindSpec)

/-- ITS FALSE NEIGHBOUR: 'it returns false'. Refute it at one input. -/
def fnBehindWrong : ChangeSpec := { name := "fnBehind", fn := fun _ => fun
  | [d1, d2] => { results := [.lit (.bool false)], args := [d1, d2] }
  | _ => none }
def FnBehindWrongFalsely : Prop := fnBehindRow.holds Try.pinned (OpenSpec.ofChange fnBehindWrong)

/- THE SECOND FORM. 'bulk': how many values and letters a reading holds, each counted each time it is reached (what is shared counts as often as it is met; a slice's spare places count too). A statement '..UptoSaid' is the law's where the arguments, and the package variables that the reading takes, are together of bulk at most 1048576: NARROWER than '..Said'. Prove '..Said' where nothing that the law and all that it calls make is longer than what came in: it says more and counts as full. Else prove '..UptoSaid'. A law counts once. -/
mutual
def uptoBulk {H : Type} : DataW H → Nat
  | .lit (.string bytes) => bytes.length + 1
  | .lit _ => 1
  | .nil => 1
  | .ptr d => uptoBulk d + 1
  | .slice elems spare => uptoBulkAll elems + uptoBulkAll spare + 1
  | .agg parts => uptoBulkAll parts + 1
  | .iface _ d => uptoBulk d + 1
  | .map entries => uptoBulkEntries entries + 1
  | .held _ => 1
def uptoBulkAll {H : Type} : List (DataW H) → Nat
  | [] => 0
  | d :: r => uptoBulk d + uptoBulkAll r
def uptoBulkEntries {H : Type} : List (Lit × DataW H) → Nat
  | [] => 0
  | x :: r => uptoBulkEntry x + uptoBulkEntries r
def uptoBulkEntry {H : Type} : Lit × DataW H → Nat
  | (.string bytes, d) => bytes.length + uptoBulk d + 1
  | (_, d) => uptoBulk d + 1
 end
def uptoSmall : (H : Type) → List (DataW H) → Bool := fun _ ds => decide (uptoBulkAll ds ≤ 1048576)
def OpenSpec.upto (s : _root_.Go.ChangeSpec) : _root_.Go.OpenSpec := { _root_.Go.OpenSpec.ofChange s with cond := some uptoSmall }

/-- 'laws.FnExactFromMap', WHERE WHAT IT READS IS OF BULK AT MOST 1048576: true; the input reads as it did. -/
def fnExactFromMapUptoRow : OpenClaim := { program := "ytaidaohkbbdimaa", sum := "b0efc5c85ee3945ec97e74e5e2da7473a88c3103eec1b50fbc73a854e584fbe1", func := "loop.example/pub-radixtexts/laws.FnExactFromMap", spec := "fnExactFromMap", unfollowed := true, recurses := true, maps := true, apart := false, narrowed := true }
def FnExactFromMapUptoSaid : Prop := fnExactFromMapUptoRow.holds Try.pinned (OpenSpec.upto fnExactFromMapSpec)

/-- 'laws.FnPrevious', WHERE WHAT IT READS IS OF BULK AT MOST 1048576: true; the input reads as it did. -/
def fnPreviousUptoRow : OpenClaim := { program := "ytaidaohkbbdimaa", sum := "b0efc5c85ee3945ec97e74e5e2da7473a88c3103eec1b50fbc73a854e584fbe1", func := "loop.example/pub-radixtexts/laws.FnPrevious", spec := "fnPrevious", unfollowed := true, recurses := true, apart := false, narrowed := true }
def FnPreviousUptoSaid : Prop := fnPreviousUptoRow.holds Try.pinned (OpenSpec.upto fnPreviousSpec)

/-- 'laws.FnExactMatch', WHERE WHAT IT READS IS OF BULK AT MOST 1048576: true; the input reads as it did. -/
def fnExactMatchUptoRow : OpenClaim := { program := "ytaidaohkbbdimaa", sum := "b0efc5c85ee3945ec97e74e5e2da7473a88c3103eec1b50fbc73a854e584fbe1", func := "loop.example/pub-radixtexts/laws.FnExactMatch", spec := "fnExactMatch", unfollowed := true, recurses := true, apart := false, narrowed := true }
def FnExactMatchUptoSaid : Prop := fnExactMatchUptoRow.holds Try.pinned (OpenSpec.upto fnExactMatchSpec)

/-- 'laws.FnUnderGone', WHERE WHAT IT READS IS OF BULK AT MOST 1048576: true; the input reads as it did. -/
def fnUnderGoneUptoRow : OpenClaim := { program := "ytaidaohkbbdimaa", sum := "b0efc5c85ee3945ec97e74e5e2da7473a88c3103eec1b50fbc73a854e584fbe1", func := "loop.example/pub-radixtexts/laws.FnUnderGone", spec := "fnUnderGone", inPlace := ["slices.overlaps[loop.example/pub-radixtexts/impl.Row]"], unfollowed := true, recurses := true, apart := false, narrowed := true }
def FnUnderGoneUptoSaid : Prop := fnUnderGoneUptoRow.holds Try.pinned (OpenSpec.upto fnUnderGoneSpec)

/-- 'laws.FnUpdated', WHERE WHAT IT READS IS OF BULK AT MOST 1048576: true; the input reads as it did. -/
def fnUpdatedUptoRow : OpenClaim := { program := "ytaidaohkbbdimaa", sum := "b0efc5c85ee3945ec97e74e5e2da7473a88c3103eec1b50fbc73a854e584fbe1", func := "loop.example/pub-radixtexts/laws.FnUpdated", spec := "fnUpdated", unfollowed := true, recurses := true, apart := false, narrowed := true }
def FnUpdatedUptoSaid : Prop := fnUpdatedUptoRow.holds Try.pinned (OpenSpec.upto fnUpdatedSpec)

/-- 'laws.FnFound', WHERE WHAT IT READS IS OF BULK AT MOST 1048576: true; the input reads as it did. -/
def fnFoundUptoRow : OpenClaim := { program := "ytaidaohkbbdimaa", sum := "b0efc5c85ee3945ec97e74e5e2da7473a88c3103eec1b50fbc73a854e584fbe1", func := "loop.example/pub-radixtexts/laws.FnFound", spec := "fnFound", unfollowed := true, recurses := true, apart := false, narrowed := true }
def FnFoundUptoSaid : Prop := fnFoundUptoRow.holds Try.pinned (OpenSpec.upto fnFoundSpec)

/-- 'laws.FnExactRun', WHERE WHAT IT READS IS OF BULK AT MOST 1048576: true; the input reads as it did. -/
def fnExactRunUptoRow : OpenClaim := { program := "ytaidaohkbbdimaa", sum := "b0efc5c85ee3945ec97e74e5e2da7473a88c3103eec1b50fbc73a854e584fbe1", func := "loop.example/pub-radixtexts/laws.FnExactRun", spec := "fnExactRun", inPlace := ["slices.overlaps[loop.example/pub-radixtexts/impl.Row]"], unfollowed := true, recurses := true, apart := false, narrowed := true }
def FnExactRunUptoSaid : Prop := fnExactRunUptoRow.holds Try.pinned (OpenSpec.upto fnExactRunSpec)

/-- 'laws.FnDeleteAll', WHERE WHAT IT READS IS OF BULK AT MOST 1048576: true; the input reads as it did. -/
def fnDeleteAllUptoRow : OpenClaim := { program := "ytaidaohkbbdimaa", sum := "b0efc5c85ee3945ec97e74e5e2da7473a88c3103eec1b50fbc73a854e584fbe1", func := "loop.example/pub-radixtexts/laws.FnDeleteAll", spec := "fnDeleteAll", inPlace := ["slices.overlaps[loop.example/pub-radixtexts/impl.Row]"], unfollowed := true, recurses := true, apart := false, narrowed := true }
def FnDeleteAllUptoSaid : Prop := fnDeleteAllUptoRow.holds Try.pinned (OpenSpec.upto fnDeleteAllSpec)

/-- 'laws.FnExactLen', WHERE WHAT IT READS IS OF BULK AT MOST 1048576: true; the input reads as it did. -/
def fnExactLenUptoRow : OpenClaim := { program := "ytaidaohkbbdimaa", sum := "b0efc5c85ee3945ec97e74e5e2da7473a88c3103eec1b50fbc73a854e584fbe1", func := "loop.example/pub-radixtexts/laws.FnExactLen", spec := "fnExactLen", inPlace := ["slices.overlaps[loop.example/pub-radixtexts/impl.Row]"], unfollowed := true, recurses := true, apart := false, narrowed := true }
def FnExactLenUptoSaid : Prop := fnExactLenUptoRow.holds Try.pinned (OpenSpec.upto fnExactLenSpec)

/-- 'laws.FnAscends', WHERE WHAT IT READS IS OF BULK AT MOST 1048576: true; the input reads as it did. -/
def fnAscendsUptoRow : OpenClaim := { program := "ytaidaohkbbdimaa", sum := "b0efc5c85ee3945ec97e74e5e2da7473a88c3103eec1b50fbc73a854e584fbe1", func := "loop.example/pub-radixtexts/laws.FnAscends", spec := "fnAscends", inPlace := ["slices.overlaps[loop.example/pub-radixtexts/impl.Row]"], unfollowed := true, recurses := true, apart := false, narrowed := true }
def FnAscendsUptoSaid : Prop := fnAscendsUptoRow.holds Try.pinned (OpenSpec.upto fnAscendsSpec)

/-- 'laws.FnChain', WHERE WHAT IT READS IS OF BULK AT MOST 1048576: true; the input reads as it did. -/
def fnChainUptoRow : OpenClaim := { program := "ytaidaohkbbdimaa", sum := "b0efc5c85ee3945ec97e74e5e2da7473a88c3103eec1b50fbc73a854e584fbe1", func := "loop.example/pub-radixtexts/laws.FnChain", spec := "fnChain", inPlace := ["slices.overlaps[loop.example/pub-radixtexts/impl.Row]"], unfollowed := true, recurses := true, apart := false, narrowed := true }
def FnChainUptoSaid : Prop := fnChainUptoRow.holds Try.pinned (OpenSpec.upto fnChainSpec)

/-- 'laws.FnBehind', WHERE WHAT IT READS IS OF BULK AT MOST 1048576: true; the input reads as it did. -/
def fnBehindUptoRow : OpenClaim := { program := "ytaidaohkbbdimaa", sum := "b0efc5c85ee3945ec97e74e5e2da7473a88c3103eec1b50fbc73a854e584fbe1", func := "loop.example/pub-radixtexts/laws.FnBehind", spec := "fnBehind", inPlace := ["slices.overlaps[loop.example/pub-radixtexts/impl.Row]"], unfollowed := true, recurses := true, apart := false, narrowed := true }
def FnBehindUptoSaid : Prop := fnBehindUptoRow.holds Try.pinned (OpenSpec.upto fnBehindSpec)

end Rows
end Go.Proofs.Ytaidaohkbbdimaa
