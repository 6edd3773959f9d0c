/-
  No cell of these rows narrows 'for every input' (looked for: loops, veiled, ifaces, maps, wideKeys, modest, calm, conditions, laid).
  DERIVED. THE GIVEN ROWS OF THIS SEAT. 12 by the template 'for every input the law returns true; each argument reads behind the call as it read before'; 0 by the template 'total and deterministic' (their statements: YticofikbijldiaaTotals.lean).
  GIVEN WITH THE SEED: the statements are not yours to turn. If you find one false, say at which input.
  Laid BY PROGRAM, IN A SANDBOX (cutbox-rows.mjs): the forced cells as the released guide's own fill.sh prints them over the translation ba8db45e7371015b… (all of the seat's roots in one cut). By AI agents, Wed Nov 11 2026. No macro, syntax, notation, axiom, sorry.
-/
import Derived.Test.YticofikbijldiaaChecked
import GoSem.Claim
import GoSem.ClaimJoined
import GoSem.ClaimMapViews
import Derived.JoinedTies
import Derived.KernelRfl
namespace Go.Proofs.Yticofikbijldiaa
/- THE CELL 'sum', in the pinned program and in every row, IS THE sha256 OF THE DUMP (.gsa) THAT YticofikbijldiaaProg.lean LOADS. Nothing in Lean hashes anything: it is a label: what it is worth is what the hold of that sum in a sandbox is worth. -/
noncomputable def Try.pinned : Pinned := { name := "yticofikbijldiaa", sum := "ba8db45e7371015ba813574730e390b35cf53fb16b6d52db3628068fbc9c02f9", checked := Try.checked }
namespace Rows
def none {H : Type} : Left H := { results := [], args := [] }

/-- 'laws.FnPrefix': WHATEVER THE INPUT: true; the input reads as it did. -/
def fnPrefixSpec : ChangeSpec := { name := "fnPrefix", fn := fun _ => fun
  | [d1, d2] => { results := [.lit (.bool true)], args := [d1, d2] }
  | _ => none }
def fnPrefixRow : OpenClaim := { program := "yticofikbijldiaa", sum := "ba8db45e7371015ba813574730e390b35cf53fb16b6d52db3628068fbc9c02f9", func := "pub-ligature/laws.FnPrefix", spec := "fnPrefix", apart := false }
def FnPrefixSaid : Prop := fnPrefixRow.holds Try.pinned (OpenSpec.ofChange fnPrefixSpec)

/-- ITS FALSE NEIGHBOUR: 'it returns false'. Refute it at one input. -/
def fnPrefixWrong : ChangeSpec := { name := "fnPrefix", fn := fun _ => fun
  | [d1, d2] => { results := [.lit (.bool false)], args := [d1, d2] }
  | _ => none }
def FnPrefixWrongFalsely : Prop := fnPrefixRow.holds Try.pinned (OpenSpec.ofChange fnPrefixWrong)

/-- 'laws.FnEmptyRow': WHATEVER THE INPUT: true; the input reads as it did. -/
def fnEmptyRowSpec : ChangeSpec := { name := "fnEmptyRow", fn := fun _ => fun
  | [d] => { results := [.lit (.bool true)], args := [d] }
  | _ => none }
def fnEmptyRowRow : OpenClaim := { program := "yticofikbijldiaa", sum := "ba8db45e7371015ba813574730e390b35cf53fb16b6d52db3628068fbc9c02f9", func := "pub-ligature/laws.FnEmptyRow", spec := "fnEmptyRow", apart := false }
def FnEmptyRowSaid : Prop := fnEmptyRowRow.holds Try.pinned (OpenSpec.ofChange fnEmptyRowSpec)

/-- ITS FALSE NEIGHBOUR: 'it returns false'. Refute it at one input. -/
def fnEmptyRowWrong : ChangeSpec := { name := "fnEmptyRow", fn := fun _ => fun
  | [d] => { results := [.lit (.bool false)], args := [d] }
  | _ => none }
def FnEmptyRowWrongFalsely : Prop := fnEmptyRowRow.holds Try.pinned (OpenSpec.ofChange fnEmptyRowWrong)

/-- 'laws.FnFenceCount': WHATEVER THE INPUT: true; the input reads as it did. -/
def fnFenceCountSpec : ChangeSpec := { name := "fnFenceCount", fn := fun _ => fun
  | [d1, d2] => { results := [.lit (.bool true)], args := [d1, d2] }
  | _ => none }
def fnFenceCountRow : OpenClaim := { program := "yticofikbijldiaa", sum := "ba8db45e7371015ba813574730e390b35cf53fb16b6d52db3628068fbc9c02f9", func := "pub-ligature/laws.FnFenceCount", spec := "fnFenceCount", apart := false }
def FnFenceCountSaid : Prop := fnFenceCountRow.holds Try.pinned (OpenSpec.ofChange fnFenceCountSpec)

/-- ITS FALSE NEIGHBOUR: 'it returns false'. Refute it at one input. -/
def fnFenceCountWrong : ChangeSpec := { name := "fnFenceCount", fn := fun _ => fun
  | [d1, d2] => { results := [.lit (.bool false)], args := [d1, d2] }
  | _ => none }
def FnFenceCountWrongFalsely : Prop := fnFenceCountRow.holds Try.pinned (OpenSpec.ofChange fnFenceCountWrong)

/-- 'laws.FnPound': WHATEVER THE INPUT: true; the input reads as it did. -/
def fnPoundSpec : ChangeSpec := { name := "fnPound", fn := fun _ => fun
  | [d] => { results := [.lit (.bool true)], args := [d] }
  | _ => none }
def fnPoundRow : OpenClaim := { program := "yticofikbijldiaa", sum := "ba8db45e7371015ba813574730e390b35cf53fb16b6d52db3628068fbc9c02f9", func := "pub-ligature/laws.FnPound", spec := "fnPound", unfollowed := true, recurses := true, apart := false }
def FnPoundSaid : Prop := fnPoundRow.holds Try.pinned (OpenSpec.ofChange fnPoundSpec)

/-- ITS FALSE NEIGHBOUR: 'it returns false'. Refute it at one input. -/
def fnPoundWrong : ChangeSpec := { name := "fnPound", fn := fun _ => fun
  | [d] => { results := [.lit (.bool false)], args := [d] }
  | _ => none }
def FnPoundWrongFalsely : Prop := fnPoundRow.holds Try.pinned (OpenSpec.ofChange fnPoundWrong)

/-- 'laws.FnFilled': WHATEVER THE INPUT: true; the input reads as it did. -/
def fnFilledSpec : ChangeSpec := { name := "fnFilled", fn := fun _ => fun
  | [d1, d2] => { results := [.lit (.bool true)], args := [d1, d2] }
  | _ => none }
def fnFilledRow : OpenClaim := { program := "yticofikbijldiaa", sum := "ba8db45e7371015ba813574730e390b35cf53fb16b6d52db3628068fbc9c02f9", func := "pub-ligature/laws.FnFilled", spec := "fnFilled", apart := false }
def FnFilledSaid : Prop := fnFilledRow.holds Try.pinned (OpenSpec.ofChange fnFilledSpec)

/-- ITS FALSE NEIGHBOUR: 'it returns false'. Refute it at one input. -/
def fnFilledWrong : ChangeSpec := { name := "fnFilled", fn := fun _ => fun
  | [d1, d2] => { results := [.lit (.bool false)], args := [d1, d2] }
  | _ => none }
def FnFilledWrongFalsely : Prop := fnFilledRow.holds Try.pinned (OpenSpec.ofChange fnFilledWrong)

/-- 'laws.FnUnderline': WHATEVER THE INPUT: true; the input reads as it did. -/
def fnUnderlineSpec : ChangeSpec := { name := "fnUnderline", fn := fun _ => fun
  | [d1, d2] => { results := [.lit (.bool true)], args := [d1, d2] }
  | _ => none }
def fnUnderlineRow : OpenClaim := { program := "yticofikbijldiaa", sum := "ba8db45e7371015ba813574730e390b35cf53fb16b6d52db3628068fbc9c02f9", func := "pub-ligature/laws.FnUnderline", spec := "fnUnderline", apart := false }
def FnUnderlineSaid : Prop := fnUnderlineRow.holds Try.pinned (OpenSpec.ofChange fnUnderlineSpec)

/-- ITS FALSE NEIGHBOUR: 'it returns false'. Refute it at one input. -/
def fnUnderlineWrong : ChangeSpec := { name := "fnUnderline", fn := fun _ => fun
  | [d1, d2] => { results := [.lit (.bool false)], args := [d1, d2] }
  | _ => none }
def FnUnderlineWrongFalsely : Prop := fnUnderlineRow.holds Try.pinned (OpenSpec.ofChange fnUnderlineWrong)

/-- 'laws.FnNoFirst': WHATEVER THE INPUT: true; the input reads as it did. -/
def fnNoFirstSpec : ChangeSpec := { name := "fnNoFirst", fn := fun _ => fun
  | [d] => { results := [.lit (.bool true)], args := [d] }
  | _ => none }
def fnNoFirstRow : OpenClaim := { program := "yticofikbijldiaa", sum := "ba8db45e7371015ba813574730e390b35cf53fb16b6d52db3628068fbc9c02f9", func := "pub-ligature/laws.FnNoFirst", spec := "fnNoFirst", apart := false }
def FnNoFirstSaid : Prop := fnNoFirstRow.holds Try.pinned (OpenSpec.ofChange fnNoFirstSpec)

/-- ITS FALSE NEIGHBOUR: 'it returns false'. Refute it at one input. -/
def fnNoFirstWrong : ChangeSpec := { name := "fnNoFirst", fn := fun _ => fun
  | [d] => { results := [.lit (.bool false)], args := [d] }
  | _ => none }
def FnNoFirstWrongFalsely : Prop := fnNoFirstRow.holds Try.pinned (OpenSpec.ofChange fnNoFirstWrong)

/-- 'laws.FnBlanks': WHATEVER THE INPUT: true; the input reads as it did. -/
def fnBlanksSpec : ChangeSpec := { name := "fnBlanks", fn := fun _ => fun
  | [d] => { results := [.lit (.bool true)], args := [d] }
  | _ => none }
def fnBlanksRow : OpenClaim := { program := "yticofikbijldiaa", sum := "ba8db45e7371015ba813574730e390b35cf53fb16b6d52db3628068fbc9c02f9", func := "pub-ligature/laws.FnBlanks", spec := "fnBlanks", unfollowed := true, recurses := true, apart := false }
def FnBlanksSaid : Prop := fnBlanksRow.holds Try.pinned (OpenSpec.ofChange fnBlanksSpec)

/-- ITS FALSE NEIGHBOUR: 'it returns false'. Refute it at one input. -/
def fnBlanksWrong : ChangeSpec := { name := "fnBlanks", fn := fun _ => fun
  | [d] => { results := [.lit (.bool false)], args := [d] }
  | _ => none }
def FnBlanksWrongFalsely : Prop := fnBlanksRow.holds Try.pinned (OpenSpec.ofChange fnBlanksWrong)

/-- 'laws.FnDomKinds': WHATEVER THE INPUT: true; the input reads as it did. -/
def fnDomKindsSpec : ChangeSpec := { name := "fnDomKinds", fn := fun _ => fun
  | [d] => { results := [.lit (.bool true)], args := [d] }
  | _ => none }
def fnDomKindsRow : OpenClaim := { program := "yticofikbijldiaa", sum := "ba8db45e7371015ba813574730e390b35cf53fb16b6d52db3628068fbc9c02f9", func := "pub-ligature/laws.FnDomKinds", spec := "fnDomKinds", apart := false }
def FnDomKindsSaid : Prop := fnDomKindsRow.holds Try.pinned (OpenSpec.ofChange fnDomKindsSpec)

/-- ITS FALSE NEIGHBOUR: 'it returns false'. Refute it at one input. -/
def fnDomKindsWrong : ChangeSpec := { name := "fnDomKinds", fn := fun _ => fun
  | [d] => { results := [.lit (.bool false)], args := [d] }
  | _ => none }
def FnDomKindsWrongFalsely : Prop := fnDomKindsRow.holds Try.pinned (OpenSpec.ofChange fnDomKindsWrong)

/-- 'laws.FnTrimBreaks': WHATEVER THE INPUT: true; the input reads as it did. -/
def fnTrimBreaksSpec : ChangeSpec := { name := "fnTrimBreaks", fn := fun _ => fun
  | [d] => { results := [.lit (.bool true)], args := [d] }
  | _ => none }
def fnTrimBreaksRow : OpenClaim := { program := "yticofikbijldiaa", sum := "ba8db45e7371015ba813574730e390b35cf53fb16b6d52db3628068fbc9c02f9", func := "pub-ligature/laws.FnTrimBreaks", spec := "fnTrimBreaks", unfollowed := true, recurses := true, apart := false }
def FnTrimBreaksSaid : Prop := fnTrimBreaksRow.holds Try.pinned (OpenSpec.ofChange fnTrimBreaksSpec)

/-- ITS FALSE NEIGHBOUR: 'it returns false'. Refute it at one input. -/
def fnTrimBreaksWrong : ChangeSpec := { name := "fnTrimBreaks", fn := fun _ => fun
  | [d] => { results := [.lit (.bool false)], args := [d] }
  | _ => none }
def FnTrimBreaksWrongFalsely : Prop := fnTrimBreaksRow.holds Try.pinned (OpenSpec.ofChange fnTrimBreaksWrong)

/-- 'laws.FnItem': WHATEVER THE INPUT: true; the input reads as it did. -/
def fnItemSpec : ChangeSpec := { name := "fnItem", fn := fun _ => fun
  | [d1, d2] => { results := [.lit (.bool true)], args := [d1, d2] }
  | _ => none }
def fnItemRow : OpenClaim := { program := "yticofikbijldiaa", sum := "ba8db45e7371015ba813574730e390b35cf53fb16b6d52db3628068fbc9c02f9", func := "pub-ligature/laws.FnItem", spec := "fnItem", inPlace := ["internal/bytealg.MakeNoZero"], unfollowed := true, recurses := true, apart := false }
def FnItemSaid : Prop := fnItemRow.holds Try.pinned (OpenSpec.ofChange fnItemSpec)

/-- ITS FALSE NEIGHBOUR: 'it returns false'. Refute it at one input. -/
def fnItemWrong : ChangeSpec := { name := "fnItem", fn := fun _ => fun
  | [d1, d2] => { results := [.lit (.bool false)], args := [d1, d2] }
  | _ => none }
def FnItemWrongFalsely : Prop := fnItemRow.holds Try.pinned (OpenSpec.ofChange fnItemWrong)

/-- 'laws.FnPercent': WHATEVER THE INPUT: true; the input reads as it did. -/
def fnPercentSpec : ChangeSpec := { name := "fnPercent", fn := fun _ => fun
  | [d] => { results := [.lit (.bool true)], args := [d] }
  | _ => none }
def fnPercentRow : OpenClaim := { program := "yticofikbijldiaa", sum := "ba8db45e7371015ba813574730e390b35cf53fb16b6d52db3628068fbc9c02f9", func := "pub-ligature/laws.FnPercent", spec := "fnPercent", unfollowed := true, recurses := true, apart := false }
def FnPercentSaid : Prop := fnPercentRow.holds Try.pinned (OpenSpec.ofChange fnPercentSpec)

/-- ITS FALSE NEIGHBOUR: 'it returns false'. Refute it at one input. -/
def fnPercentWrong : ChangeSpec := { name := "fnPercent", fn := fun _ => fun
  | [d] => { results := [.lit (.bool false)], args := [d] }
  | _ => none }
def FnPercentWrongFalsely : Prop := fnPercentRow.holds Try.pinned (OpenSpec.ofChange fnPercentWrong)

/- THE SECOND FORM. 'bulk': how many values and letters a reading holds, each counted each time it is reached (what is shared counts as often as it is met; a slice's spare places count too). A statement '..UptoSaid' is the law's where the arguments, and the package variables that the reading takes, are together of bulk at most 1048576: NARROWER than '..Said'. Prove '..Said' where nothing that the law and all that it calls make is longer than what came in: it says more and counts as full. Else prove '..UptoSaid'. A law counts once. -/
mutual
def uptoBulk {H : Type} : DataW H → Nat
  | .lit (.string bytes) => bytes.length + 1
  | .lit _ => 1
  | .nil => 1
  | .ptr d => uptoBulk d + 1
  | .slice elems spare => uptoBulkAll elems + uptoBulkAll spare + 1
  | .agg parts => uptoBulkAll parts + 1
  | .iface _ d => uptoBulk d + 1
  | .map entries => uptoBulkEntries entries + 1
  | .held _ => 1
def uptoBulkAll {H : Type} : List (DataW H) → Nat
  | [] => 0
  | d :: r => uptoBulk d + uptoBulkAll r
def uptoBulkEntries {H : Type} : List (Lit × DataW H) → Nat
  | [] => 0
  | x :: r => uptoBulkEntry x + uptoBulkEntries r
def uptoBulkEntry {H : Type} : Lit × DataW H → Nat
  | (.string bytes, d) => bytes.length + uptoBulk d + 1
  | (_, d) => uptoBulk d + 1
 end
def uptoSmall : (H : Type) → List (DataW H) → Bool := fun _ ds => decide (uptoBulkAll ds ≤ 1048576)
def OpenSpec.upto (s : _root_.Go.ChangeSpec) : _root_.Go.OpenSpec := { _root_.Go.OpenSpec.ofChange s with cond := some uptoSmall }

/-- 'laws.FnPrefix', WHERE WHAT IT READS IS OF BULK AT MOST 1048576: true; the input reads as it did. -/
def fnPrefixUptoRow : OpenClaim := { program := "yticofikbijldiaa", sum := "ba8db45e7371015ba813574730e390b35cf53fb16b6d52db3628068fbc9c02f9", func := "pub-ligature/laws.FnPrefix", spec := "fnPrefix", apart := false, narrowed := true }
def FnPrefixUptoSaid : Prop := fnPrefixUptoRow.holds Try.pinned (OpenSpec.upto fnPrefixSpec)

/-- 'laws.FnEmptyRow', WHERE WHAT IT READS IS OF BULK AT MOST 1048576: true; the input reads as it did. -/
def fnEmptyRowUptoRow : OpenClaim := { program := "yticofikbijldiaa", sum := "ba8db45e7371015ba813574730e390b35cf53fb16b6d52db3628068fbc9c02f9", func := "pub-ligature/laws.FnEmptyRow", spec := "fnEmptyRow", apart := false, narrowed := true }
def FnEmptyRowUptoSaid : Prop := fnEmptyRowUptoRow.holds Try.pinned (OpenSpec.upto fnEmptyRowSpec)

/-- 'laws.FnFenceCount', WHERE WHAT IT READS IS OF BULK AT MOST 1048576: true; the input reads as it did. -/
def fnFenceCountUptoRow : OpenClaim := { program := "yticofikbijldiaa", sum := "ba8db45e7371015ba813574730e390b35cf53fb16b6d52db3628068fbc9c02f9", func := "pub-ligature/laws.FnFenceCount", spec := "fnFenceCount", apart := false, narrowed := true }
def FnFenceCountUptoSaid : Prop := fnFenceCountUptoRow.holds Try.pinned (OpenSpec.upto fnFenceCountSpec)

/-- 'laws.FnPound', WHERE WHAT IT READS IS OF BULK AT MOST 1048576: true; the input reads as it did. -/
def fnPoundUptoRow : OpenClaim := { program := "yticofikbijldiaa", sum := "ba8db45e7371015ba813574730e390b35cf53fb16b6d52db3628068fbc9c02f9", func := "pub-ligature/laws.FnPound", spec := "fnPound", unfollowed := true, recurses := true, apart := false, narrowed := true }
def FnPoundUptoSaid : Prop := fnPoundUptoRow.holds Try.pinned (OpenSpec.upto fnPoundSpec)

/-- 'laws.FnFilled', WHERE WHAT IT READS IS OF BULK AT MOST 1048576: true; the input reads as it did. -/
def fnFilledUptoRow : OpenClaim := { program := "yticofikbijldiaa", sum := "ba8db45e7371015ba813574730e390b35cf53fb16b6d52db3628068fbc9c02f9", func := "pub-ligature/laws.FnFilled", spec := "fnFilled", apart := false, narrowed := true }
def FnFilledUptoSaid : Prop := fnFilledUptoRow.holds Try.pinned (OpenSpec.upto fnFilledSpec)

/-- 'laws.FnUnderline', WHERE WHAT IT READS IS OF BULK AT MOST 1048576: true; the input reads as it did. -/
def fnUnderlineUptoRow : OpenClaim := { program := "yticofikbijldiaa", sum := "ba8db45e7371015ba813574730e390b35cf53fb16b6d52db3628068fbc9c02f9", func := "pub-ligature/laws.FnUnderline", spec := "fnUnderline", apart := false, narrowed := true }
def FnUnderlineUptoSaid : Prop := fnUnderlineUptoRow.holds Try.pinned (OpenSpec.upto fnUnderlineSpec)

/-- 'laws.FnNoFirst', WHERE WHAT IT READS IS OF BULK AT MOST 1048576: true; the input reads as it did. -/
def fnNoFirstUptoRow : OpenClaim := { program := "yticofikbijldiaa", sum := "ba8db45e7371015ba813574730e390b35cf53fb16b6d52db3628068fbc9c02f9", func := "pub-ligature/laws.FnNoFirst", spec := "fnNoFirst", apart := false, narrowed := true }
def FnNoFirstUptoSaid : Prop := fnNoFirstUptoRow.holds Try.pinned (OpenSpec.upto fnNoFirstSpec)

/-- 'laws.FnBlanks', WHERE WHAT IT READS IS OF BULK AT MOST 1048576: true; the input reads as it did. -/
def fnBlanksUptoRow : OpenClaim := { program := "yticofikbijldiaa", sum := "ba8db45e7371015ba813574730e390b35cf53fb16b6d52db3628068fbc9c02f9", func := "pub-ligature/laws.FnBlanks", spec := "fnBlanks", unfollowed := true, recurses := true, apart := false, narrowed := true }
def FnBlanksUptoSaid : Prop := fnBlanksUptoRow.holds Try.pinned (OpenSpec.upto fnBlanksSpec)

/-- 'laws.FnDomKinds', WHERE WHAT IT READS IS OF BULK AT MOST 1048576: true; the input reads as it did. -/
def fnDomKindsUptoRow : OpenClaim := { program := "yticofikbijldiaa", sum := "ba8db45e7371015ba813574730e390b35cf53fb16b6d52db3628068fbc9c02f9", func := "pub-ligature/laws.FnDomKinds", spec := "fnDomKinds", apart := false, narrowed := true }
def FnDomKindsUptoSaid : Prop := fnDomKindsUptoRow.holds Try.pinned (OpenSpec.upto fnDomKindsSpec)

/-- 'laws.FnTrimBreaks', WHERE WHAT IT READS IS OF BULK AT MOST 1048576: true; the input reads as it did. -/
def fnTrimBreaksUptoRow : OpenClaim := { program := "yticofikbijldiaa", sum := "ba8db45e7371015ba813574730e390b35cf53fb16b6d52db3628068fbc9c02f9", func := "pub-ligature/laws.FnTrimBreaks", spec := "fnTrimBreaks", unfollowed := true, recurses := true, apart := false, narrowed := true }
def FnTrimBreaksUptoSaid : Prop := fnTrimBreaksUptoRow.holds Try.pinned (OpenSpec.upto fnTrimBreaksSpec)

/-- 'laws.FnItem', WHERE WHAT IT READS IS OF BULK AT MOST 1048576: true; the input reads as it did. -/
def fnItemUptoRow : OpenClaim := { program := "yticofikbijldiaa", sum := "ba8db45e7371015ba813574730e390b35cf53fb16b6d52db3628068fbc9c02f9", func := "pub-ligature/laws.FnItem", spec := "fnItem", inPlace := ["internal/bytealg.MakeNoZero"], unfollowed := true, recurses := true, apart := false, narrowed := true }
def FnItemUptoSaid : Prop := fnItemUptoRow.holds Try.pinned (OpenSpec.upto fnItemSpec)

/-- 'laws.FnPercent', WHERE WHAT IT READS IS OF BULK AT MOST 1048576: true; the input reads as it did. -/
def fnPercentUptoRow : OpenClaim := { program := "yticofikbijldiaa", sum := "ba8db45e7371015ba813574730e390b35cf53fb16b6d52db3628068fbc9c02f9", func := "pub-ligature/laws.FnPercent", spec := "fnPercent", unfollowed := true, recurses := true, apart := false, narrowed := true }
def FnPercentUptoSaid : Prop := fnPercentUptoRow.holds Try.pinned (OpenSpec.upto fnPercentSpec)

end Rows
end Go.Proofs.Yticofikbijldiaa
