/-
  NARROWER THAN 'FOR EVERY INPUT', by the rows' own cells (each row's printed sentence says how): FnDomRemoved: loops · FnDomAttribute: loops · FnDomChildren: loops · FnDomUnwrapped: loops · FnDomNeighbor: loops · FnMergeTexts: loops · FnLeafBlocks: loops · FnFakeSpans: loops · FnRedundantNone: loops · FnCollapseTwice: loops · FnAddSpace: loops.
  DERIVED. THE GIVEN ROWS OF THIS SEAT. 11 by the template 'for every input the law returns true; each argument reads behind the call as it read before'; 0 by the template 'total and deterministic' (their statements: YtlallihdiffheaaTotals.lean).
  GIVEN WITH THE SEED: the statements are not yours to turn. If you find one false, say at which input.
  Laid BY PROGRAM, IN A SANDBOX (cutbox-rows.mjs): the forced cells as the released guide's own fill.sh prints them over the translation e94a2511fa4ca61f… (all of the seat's roots in one cut). By AI agents, Wed Nov 11 2026. No macro, syntax, notation, axiom, sorry.
-/
import Derived.Test.YtlallihdiffheaaChecked
import GoSem.Claim
import GoSem.ClaimJoined
import GoSem.ClaimMapViews
import Derived.JoinedTies
import Derived.KernelRfl
namespace Go.Proofs.Ytlallihdiffheaa
/- THE CELL 'sum', in the pinned program and in every row, IS THE sha256 OF THE DUMP (.gsa) THAT YtlallihdiffheaaProg.lean LOADS. Nothing in Lean hashes anything: it is a label: what it is worth is what the hold of that sum in a sandbox is worth. -/
noncomputable def Try.pinned : Pinned := { name := "ytlallihdiffheaa", sum := "e94a2511fa4ca61f49012d2ad7f2ecdec245d3aa91b1a41cbcfe7998955e9f28", checked := Try.checked }
namespace Rows
def none {H : Type} : Left H := { results := [], args := [] }

/-- 'laws.FnDomRemoved': WHATEVER THE INPUT: true; the input reads as it did. -/
def fnDomRemovedSpec : ChangeSpec := { name := "fnDomRemoved", fn := fun _ => fun
  | [d1, d2] => { results := [.lit (.bool true)], args := [d1, d2] }
  | _ => none }
def fnDomRemovedRow : OpenClaim := { program := "ytlallihdiffheaa", sum := "e94a2511fa4ca61f49012d2ad7f2ecdec245d3aa91b1a41cbcfe7998955e9f28", func := "pub-ligature/laws.FnDomRemoved", spec := "fnDomRemoved", unfollowed := true, recurses := true, loops := true, apart := false }
def FnDomRemovedSaid : Prop := fnDomRemovedRow.holds Try.pinned (OpenSpec.ofChange fnDomRemovedSpec)

/-- ITS FALSE NEIGHBOUR: 'it returns false'. Refute it at one input. -/
def fnDomRemovedWrong : ChangeSpec := { name := "fnDomRemoved", fn := fun _ => fun
  | [d1, d2] => { results := [.lit (.bool false)], args := [d1, d2] }
  | _ => none }
def FnDomRemovedWrongFalsely : Prop := fnDomRemovedRow.holds Try.pinned (OpenSpec.ofChange fnDomRemovedWrong)

/-- 'laws.FnDomAttribute': WHATEVER THE INPUT: true; the input reads as it did. -/
def fnDomAttributeSpec : ChangeSpec := { name := "fnDomAttribute", fn := fun _ => fun
  | [d1, d2, d3] => { results := [.lit (.bool true)], args := [d1, d2, d3] }
  | _ => none }
def fnDomAttributeRow : OpenClaim := { program := "ytlallihdiffheaa", sum := "e94a2511fa4ca61f49012d2ad7f2ecdec245d3aa91b1a41cbcfe7998955e9f28", func := "pub-ligature/laws.FnDomAttribute", spec := "fnDomAttribute", unfollowed := true, recurses := true, loops := true, apart := false }
def FnDomAttributeSaid : Prop := fnDomAttributeRow.holds Try.pinned (OpenSpec.ofChange fnDomAttributeSpec)

/-- ITS FALSE NEIGHBOUR: 'it returns false'. Refute it at one input. -/
def fnDomAttributeWrong : ChangeSpec := { name := "fnDomAttribute", fn := fun _ => fun
  | [d1, d2, d3] => { results := [.lit (.bool false)], args := [d1, d2, d3] }
  | _ => none }
def FnDomAttributeWrongFalsely : Prop := fnDomAttributeRow.holds Try.pinned (OpenSpec.ofChange fnDomAttributeWrong)

/-- 'laws.FnDomChildren': WHATEVER THE INPUT: true; the input reads as it did. -/
def fnDomChildrenSpec : ChangeSpec := { name := "fnDomChildren", fn := fun _ => fun
  | [d1, d2, d3] => { results := [.lit (.bool true)], args := [d1, d2, d3] }
  | _ => none }
def fnDomChildrenRow : OpenClaim := { program := "ytlallihdiffheaa", sum := "e94a2511fa4ca61f49012d2ad7f2ecdec245d3aa91b1a41cbcfe7998955e9f28", func := "pub-ligature/laws.FnDomChildren", spec := "fnDomChildren", unfollowed := true, recurses := true, loops := true, apart := false }
def FnDomChildrenSaid : Prop := fnDomChildrenRow.holds Try.pinned (OpenSpec.ofChange fnDomChildrenSpec)

/-- ITS FALSE NEIGHBOUR: 'it returns false'. Refute it at one input. -/
def fnDomChildrenWrong : ChangeSpec := { name := "fnDomChildren", fn := fun _ => fun
  | [d1, d2, d3] => { results := [.lit (.bool false)], args := [d1, d2, d3] }
  | _ => none }
def FnDomChildrenWrongFalsely : Prop := fnDomChildrenRow.holds Try.pinned (OpenSpec.ofChange fnDomChildrenWrong)

/-- 'laws.FnDomUnwrapped': WHATEVER THE INPUT: true; the input reads as it did. -/
def fnDomUnwrappedSpec : ChangeSpec := { name := "fnDomUnwrapped", fn := fun _ => fun
  | [d1, d2] => { results := [.lit (.bool true)], args := [d1, d2] }
  | _ => none }
def fnDomUnwrappedRow : OpenClaim := { program := "ytlallihdiffheaa", sum := "e94a2511fa4ca61f49012d2ad7f2ecdec245d3aa91b1a41cbcfe7998955e9f28", func := "pub-ligature/laws.FnDomUnwrapped", spec := "fnDomUnwrapped", unfollowed := true, recurses := true, loops := true, apart := false }
def FnDomUnwrappedSaid : Prop := fnDomUnwrappedRow.holds Try.pinned (OpenSpec.ofChange fnDomUnwrappedSpec)

/-- ITS FALSE NEIGHBOUR: 'it returns false'. Refute it at one input. -/
def fnDomUnwrappedWrong : ChangeSpec := { name := "fnDomUnwrapped", fn := fun _ => fun
  | [d1, d2] => { results := [.lit (.bool false)], args := [d1, d2] }
  | _ => none }
def FnDomUnwrappedWrongFalsely : Prop := fnDomUnwrappedRow.holds Try.pinned (OpenSpec.ofChange fnDomUnwrappedWrong)

/-- 'laws.FnDomNeighbor': WHATEVER THE INPUT: true; the input reads as it did. -/
def fnDomNeighborSpec : ChangeSpec := { name := "fnDomNeighbor", fn := fun _ => fun
  | [d1, d2, d3] => { results := [.lit (.bool true)], args := [d1, d2, d3] }
  | _ => none }
def fnDomNeighborRow : OpenClaim := { program := "ytlallihdiffheaa", sum := "e94a2511fa4ca61f49012d2ad7f2ecdec245d3aa91b1a41cbcfe7998955e9f28", func := "pub-ligature/laws.FnDomNeighbor", spec := "fnDomNeighbor", unfollowed := true, recurses := true, loops := true, apart := false }
def FnDomNeighborSaid : Prop := fnDomNeighborRow.holds Try.pinned (OpenSpec.ofChange fnDomNeighborSpec)

/-- ITS FALSE NEIGHBOUR: 'it returns false'. Refute it at one input. -/
def fnDomNeighborWrong : ChangeSpec := { name := "fnDomNeighbor", fn := fun _ => fun
  | [d1, d2, d3] => { results := [.lit (.bool false)], args := [d1, d2, d3] }
  | _ => none }
def FnDomNeighborWrongFalsely : Prop := fnDomNeighborRow.holds Try.pinned (OpenSpec.ofChange fnDomNeighborWrong)

/-- 'laws.FnMergeTexts': WHATEVER THE INPUT: true; the input reads as it did. -/
def fnMergeTextsSpec : ChangeSpec := { name := "fnMergeTexts", fn := fun _ => fun
  | [d] => { results := [.lit (.bool true)], args := [d] }
  | _ => none }
def fnMergeTextsRow : OpenClaim := { program := "ytlallihdiffheaa", sum := "e94a2511fa4ca61f49012d2ad7f2ecdec245d3aa91b1a41cbcfe7998955e9f28", func := "pub-ligature/laws.FnMergeTexts", spec := "fnMergeTexts", unfollowed := true, recurses := true, loops := true, apart := false }
def FnMergeTextsSaid : Prop := fnMergeTextsRow.holds Try.pinned (OpenSpec.ofChange fnMergeTextsSpec)

/-- ITS FALSE NEIGHBOUR: 'it returns false'. Refute it at one input. -/
def fnMergeTextsWrong : ChangeSpec := { name := "fnMergeTexts", fn := fun _ => fun
  | [d] => { results := [.lit (.bool false)], args := [d] }
  | _ => none }
def FnMergeTextsWrongFalsely : Prop := fnMergeTextsRow.holds Try.pinned (OpenSpec.ofChange fnMergeTextsWrong)

/-- 'laws.FnLeafBlocks': WHATEVER THE INPUT: true; the input reads as it did. -/
def fnLeafBlocksSpec : ChangeSpec := { name := "fnLeafBlocks", fn := fun _ => fun
  | [d] => { results := [.lit (.bool true)], args := [d] }
  | _ => none }
def fnLeafBlocksRow : OpenClaim := { program := "ytlallihdiffheaa", sum := "e94a2511fa4ca61f49012d2ad7f2ecdec245d3aa91b1a41cbcfe7998955e9f28", func := "pub-ligature/laws.FnLeafBlocks", spec := "fnLeafBlocks", unfollowed := true, recurses := true, loops := true, apart := false }
def FnLeafBlocksSaid : Prop := fnLeafBlocksRow.holds Try.pinned (OpenSpec.ofChange fnLeafBlocksSpec)

/-- ITS FALSE NEIGHBOUR: 'it returns false'. Refute it at one input. -/
def fnLeafBlocksWrong : ChangeSpec := { name := "fnLeafBlocks", fn := fun _ => fun
  | [d] => { results := [.lit (.bool false)], args := [d] }
  | _ => none }
def FnLeafBlocksWrongFalsely : Prop := fnLeafBlocksRow.holds Try.pinned (OpenSpec.ofChange fnLeafBlocksWrong)

/-- 'laws.FnFakeSpans': WHATEVER THE INPUT: true; the input reads as it did. -/
def fnFakeSpansSpec : ChangeSpec := { name := "fnFakeSpans", fn := fun _ => fun
  | [d] => { results := [.lit (.bool true)], args := [d] }
  | _ => none }
def fnFakeSpansRow : OpenClaim := { program := "ytlallihdiffheaa", sum := "e94a2511fa4ca61f49012d2ad7f2ecdec245d3aa91b1a41cbcfe7998955e9f28", func := "pub-ligature/laws.FnFakeSpans", spec := "fnFakeSpans", unfollowed := true, recurses := true, loops := true, apart := false }
def FnFakeSpansSaid : Prop := fnFakeSpansRow.holds Try.pinned (OpenSpec.ofChange fnFakeSpansSpec)

/-- ITS FALSE NEIGHBOUR: 'it returns false'. Refute it at one input. -/
def fnFakeSpansWrong : ChangeSpec := { name := "fnFakeSpans", fn := fun _ => fun
  | [d] => { results := [.lit (.bool false)], args := [d] }
  | _ => none }
def FnFakeSpansWrongFalsely : Prop := fnFakeSpansRow.holds Try.pinned (OpenSpec.ofChange fnFakeSpansWrong)

/-- 'laws.FnRedundantNone': WHATEVER THE INPUT: true; the input reads as it did. -/
def fnRedundantNoneSpec : ChangeSpec := { name := "fnRedundantNone", fn := fun _ => fun
  | [d] => { results := [.lit (.bool true)], args := [d] }
  | _ => none }
def fnRedundantNoneRow : OpenClaim := { program := "ytlallihdiffheaa", sum := "e94a2511fa4ca61f49012d2ad7f2ecdec245d3aa91b1a41cbcfe7998955e9f28", func := "pub-ligature/laws.FnRedundantNone", spec := "fnRedundantNone", unfollowed := true, recurses := true, loops := true, apart := false }
def FnRedundantNoneSaid : Prop := fnRedundantNoneRow.holds Try.pinned (OpenSpec.ofChange fnRedundantNoneSpec)

/-- ITS FALSE NEIGHBOUR: 'it returns false'. Refute it at one input. -/
def fnRedundantNoneWrong : ChangeSpec := { name := "fnRedundantNone", fn := fun _ => fun
  | [d] => { results := [.lit (.bool false)], args := [d] }
  | _ => none }
def FnRedundantNoneWrongFalsely : Prop := fnRedundantNoneRow.holds Try.pinned (OpenSpec.ofChange fnRedundantNoneWrong)

/-- 'laws.FnCollapseTwice': WHATEVER THE INPUT: true; the input reads as it did. -/
def fnCollapseTwiceSpec : ChangeSpec := { name := "fnCollapseTwice", fn := fun _ => fun
  | [d] => { results := [.lit (.bool true)], args := [d] }
  | _ => none }
def fnCollapseTwiceRow : OpenClaim := { program := "ytlallihdiffheaa", sum := "e94a2511fa4ca61f49012d2ad7f2ecdec245d3aa91b1a41cbcfe7998955e9f28", func := "pub-ligature/laws.FnCollapseTwice", spec := "fnCollapseTwice", unfollowed := true, recurses := true, loops := true, apart := false }
def FnCollapseTwiceSaid : Prop := fnCollapseTwiceRow.holds Try.pinned (OpenSpec.ofChange fnCollapseTwiceSpec)

/-- ITS FALSE NEIGHBOUR: 'it returns false'. Refute it at one input. -/
def fnCollapseTwiceWrong : ChangeSpec := { name := "fnCollapseTwice", fn := fun _ => fun
  | [d] => { results := [.lit (.bool false)], args := [d] }
  | _ => none }
def FnCollapseTwiceWrongFalsely : Prop := fnCollapseTwiceRow.holds Try.pinned (OpenSpec.ofChange fnCollapseTwiceWrong)

/-- 'laws.FnAddSpace': WHATEVER THE INPUT: true; the input reads as it did. -/
def fnAddSpaceSpec : ChangeSpec := { name := "fnAddSpace", fn := fun _ => fun
  | [d] => { results := [.lit (.bool true)], args := [d] }
  | _ => none }
def fnAddSpaceRow : OpenClaim := { program := "ytlallihdiffheaa", sum := "e94a2511fa4ca61f49012d2ad7f2ecdec245d3aa91b1a41cbcfe7998955e9f28", func := "pub-ligature/laws.FnAddSpace", spec := "fnAddSpace", unfollowed := true, recurses := true, loops := true, apart := false }
def FnAddSpaceSaid : Prop := fnAddSpaceRow.holds Try.pinned (OpenSpec.ofChange fnAddSpaceSpec)

/-- ITS FALSE NEIGHBOUR: 'it returns false'. Refute it at one input. -/
def fnAddSpaceWrong : ChangeSpec := { name := "fnAddSpace", fn := fun _ => fun
  | [d] => { results := [.lit (.bool false)], args := [d] }
  | _ => none }
def FnAddSpaceWrongFalsely : Prop := fnAddSpaceRow.holds Try.pinned (OpenSpec.ofChange fnAddSpaceWrong)

/- THE SECOND FORM. 'bulk': how many values and letters a reading holds, each counted each time it is reached (what is shared counts as often as it is met; a slice's spare places count too). A statement '..UptoSaid' is the law's where the arguments, and the package variables that the reading takes, are together of bulk at most 1048576: NARROWER than '..Said'. Prove '..Said' where nothing that the law and all that it calls make is longer than what came in: it says more and counts as full. Else prove '..UptoSaid'. A law counts once. -/
mutual
def uptoBulk {H : Type} : DataW H → Nat
  | .lit (.string bytes) => bytes.length + 1
  | .lit _ => 1
  | .nil => 1
  | .ptr d => uptoBulk d + 1
  | .slice elems spare => uptoBulkAll elems + uptoBulkAll spare + 1
  | .agg parts => uptoBulkAll parts + 1
  | .iface _ d => uptoBulk d + 1
  | .map entries => uptoBulkEntries entries + 1
  | .held _ => 1
def uptoBulkAll {H : Type} : List (DataW H) → Nat
  | [] => 0
  | d :: r => uptoBulk d + uptoBulkAll r
def uptoBulkEntries {H : Type} : List (Lit × DataW H) → Nat
  | [] => 0
  | x :: r => uptoBulkEntry x + uptoBulkEntries r
def uptoBulkEntry {H : Type} : Lit × DataW H → Nat
  | (.string bytes, d) => bytes.length + uptoBulk d + 1
  | (_, d) => uptoBulk d + 1
 end
def uptoSmall : (H : Type) → List (DataW H) → Bool := fun _ ds => decide (uptoBulkAll ds ≤ 1048576)
def OpenSpec.upto (s : _root_.Go.ChangeSpec) : _root_.Go.OpenSpec := { _root_.Go.OpenSpec.ofChange s with cond := some uptoSmall }

/-- 'laws.FnDomRemoved', WHERE WHAT IT READS IS OF BULK AT MOST 1048576: true; the input reads as it did. -/
def fnDomRemovedUptoRow : OpenClaim := { program := "ytlallihdiffheaa", sum := "e94a2511fa4ca61f49012d2ad7f2ecdec245d3aa91b1a41cbcfe7998955e9f28", func := "pub-ligature/laws.FnDomRemoved", spec := "fnDomRemoved", unfollowed := true, recurses := true, loops := true, apart := false, narrowed := true }
def FnDomRemovedUptoSaid : Prop := fnDomRemovedUptoRow.holds Try.pinned (OpenSpec.upto fnDomRemovedSpec)

/-- 'laws.FnDomAttribute', WHERE WHAT IT READS IS OF BULK AT MOST 1048576: true; the input reads as it did. -/
def fnDomAttributeUptoRow : OpenClaim := { program := "ytlallihdiffheaa", sum := "e94a2511fa4ca61f49012d2ad7f2ecdec245d3aa91b1a41cbcfe7998955e9f28", func := "pub-ligature/laws.FnDomAttribute", spec := "fnDomAttribute", unfollowed := true, recurses := true, loops := true, apart := false, narrowed := true }
def FnDomAttributeUptoSaid : Prop := fnDomAttributeUptoRow.holds Try.pinned (OpenSpec.upto fnDomAttributeSpec)

/-- 'laws.FnDomChildren', WHERE WHAT IT READS IS OF BULK AT MOST 1048576: true; the input reads as it did. -/
def fnDomChildrenUptoRow : OpenClaim := { program := "ytlallihdiffheaa", sum := "e94a2511fa4ca61f49012d2ad7f2ecdec245d3aa91b1a41cbcfe7998955e9f28", func := "pub-ligature/laws.FnDomChildren", spec := "fnDomChildren", unfollowed := true, recurses := true, loops := true, apart := false, narrowed := true }
def FnDomChildrenUptoSaid : Prop := fnDomChildrenUptoRow.holds Try.pinned (OpenSpec.upto fnDomChildrenSpec)

/-- 'laws.FnDomUnwrapped', WHERE WHAT IT READS IS OF BULK AT MOST 1048576: true; the input reads as it did. -/
def fnDomUnwrappedUptoRow : OpenClaim := { program := "ytlallihdiffheaa", sum := "e94a2511fa4ca61f49012d2ad7f2ecdec245d3aa91b1a41cbcfe7998955e9f28", func := "pub-ligature/laws.FnDomUnwrapped", spec := "fnDomUnwrapped", unfollowed := true, recurses := true, loops := true, apart := false, narrowed := true }
def FnDomUnwrappedUptoSaid : Prop := fnDomUnwrappedUptoRow.holds Try.pinned (OpenSpec.upto fnDomUnwrappedSpec)

/-- 'laws.FnDomNeighbor', WHERE WHAT IT READS IS OF BULK AT MOST 1048576: true; the input reads as it did. -/
def fnDomNeighborUptoRow : OpenClaim := { program := "ytlallihdiffheaa", sum := "e94a2511fa4ca61f49012d2ad7f2ecdec245d3aa91b1a41cbcfe7998955e9f28", func := "pub-ligature/laws.FnDomNeighbor", spec := "fnDomNeighbor", unfollowed := true, recurses := true, loops := true, apart := false, narrowed := true }
def FnDomNeighborUptoSaid : Prop := fnDomNeighborUptoRow.holds Try.pinned (OpenSpec.upto fnDomNeighborSpec)

/-- 'laws.FnMergeTexts', WHERE WHAT IT READS IS OF BULK AT MOST 1048576: true; the input reads as it did. -/
def fnMergeTextsUptoRow : OpenClaim := { program := "ytlallihdiffheaa", sum := "e94a2511fa4ca61f49012d2ad7f2ecdec245d3aa91b1a41cbcfe7998955e9f28", func := "pub-ligature/laws.FnMergeTexts", spec := "fnMergeTexts", unfollowed := true, recurses := true, loops := true, apart := false, narrowed := true }
def FnMergeTextsUptoSaid : Prop := fnMergeTextsUptoRow.holds Try.pinned (OpenSpec.upto fnMergeTextsSpec)

/-- 'laws.FnLeafBlocks', WHERE WHAT IT READS IS OF BULK AT MOST 1048576: true; the input reads as it did. -/
def fnLeafBlocksUptoRow : OpenClaim := { program := "ytlallihdiffheaa", sum := "e94a2511fa4ca61f49012d2ad7f2ecdec245d3aa91b1a41cbcfe7998955e9f28", func := "pub-ligature/laws.FnLeafBlocks", spec := "fnLeafBlocks", unfollowed := true, recurses := true, loops := true, apart := false, narrowed := true }
def FnLeafBlocksUptoSaid : Prop := fnLeafBlocksUptoRow.holds Try.pinned (OpenSpec.upto fnLeafBlocksSpec)

/-- 'laws.FnFakeSpans', WHERE WHAT IT READS IS OF BULK AT MOST 1048576: true; the input reads as it did. -/
def fnFakeSpansUptoRow : OpenClaim := { program := "ytlallihdiffheaa", sum := "e94a2511fa4ca61f49012d2ad7f2ecdec245d3aa91b1a41cbcfe7998955e9f28", func := "pub-ligature/laws.FnFakeSpans", spec := "fnFakeSpans", unfollowed := true, recurses := true, loops := true, apart := false, narrowed := true }
def FnFakeSpansUptoSaid : Prop := fnFakeSpansUptoRow.holds Try.pinned (OpenSpec.upto fnFakeSpansSpec)

/-- 'laws.FnRedundantNone', WHERE WHAT IT READS IS OF BULK AT MOST 1048576: true; the input reads as it did. -/
def fnRedundantNoneUptoRow : OpenClaim := { program := "ytlallihdiffheaa", sum := "e94a2511fa4ca61f49012d2ad7f2ecdec245d3aa91b1a41cbcfe7998955e9f28", func := "pub-ligature/laws.FnRedundantNone", spec := "fnRedundantNone", unfollowed := true, recurses := true, loops := true, apart := false, narrowed := true }
def FnRedundantNoneUptoSaid : Prop := fnRedundantNoneUptoRow.holds Try.pinned (OpenSpec.upto fnRedundantNoneSpec)

/-- 'laws.FnCollapseTwice', WHERE WHAT IT READS IS OF BULK AT MOST 1048576: true; the input reads as it did. -/
def fnCollapseTwiceUptoRow : OpenClaim := { program := "ytlallihdiffheaa", sum := "e94a2511fa4ca61f49012d2ad7f2ecdec245d3aa91b1a41cbcfe7998955e9f28", func := "pub-ligature/laws.FnCollapseTwice", spec := "fnCollapseTwice", unfollowed := true, recurses := true, loops := true, apart := false, narrowed := true }
def FnCollapseTwiceUptoSaid : Prop := fnCollapseTwiceUptoRow.holds Try.pinned (OpenSpec.upto fnCollapseTwiceSpec)

/-- 'laws.FnAddSpace', WHERE WHAT IT READS IS OF BULK AT MOST 1048576: true; the input reads as it did. -/
def fnAddSpaceUptoRow : OpenClaim := { program := "ytlallihdiffheaa", sum := "e94a2511fa4ca61f49012d2ad7f2ecdec245d3aa91b1a41cbcfe7998955e9f28", func := "pub-ligature/laws.FnAddSpace", spec := "fnAddSpace", unfollowed := true, recurses := true, loops := true, apart := false, narrowed := true }
def FnAddSpaceUptoSaid : Prop := fnAddSpaceUptoRow.holds Try.pinned (OpenSpec.upto fnAddSpaceSpec)

end Rows
end Go.Proofs.Ytlallihdiffheaa
