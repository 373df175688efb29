/-
  No cell of these rows narrows 'for every input' (looked for: loops, veiled, ifaces, maps, wideKeys, modest, calm, conditions, laid).
  DERIVED. THE GIVEN ROWS OF THIS SEAT. 11 by the template 'for every input the law returns true; each argument reads behind the call as it read before'; 0 by the template 'total and deterministic' (their statements: YtlakfamodfgmcaaTotals.lean).
  GIVEN WITH THE SEED: the statements are not yours to turn. If you find one false, say at which input.
  Laid BY PROGRAM, IN A SANDBOX (cutbox-rows.mjs): the forced cells as the released guide's own fill.sh prints them over the translation b027a20ff660318b… (all of the seat's roots in one cut). By AI agents, Wed Nov 11 2026. No macro, syntax, notation, axiom, sorry.
-/
import Derived.Test.YtlakfamodfgmcaaChecked
import GoSem.Claim
import GoSem.ClaimJoined
import GoSem.ClaimMapViews
import Derived.JoinedTies
import Derived.KernelRfl
namespace Go.Proofs.Ytlakfamodfgmcaa
/- THE CELL 'sum', in the pinned program and in every row, IS THE sha256 OF THE DUMP (.gsa) THAT YtlakfamodfgmcaaProg.lean LOADS. Nothing in Lean hashes anything: it is a label: what it is worth is what the hold of that sum in a sandbox is worth. -/
noncomputable def Try.pinned : Pinned := { name := "ytlakfamodfgmcaa", sum := "b027a20ff660318b07e0ba558dc20dd42950d4e690676eaf8682e50f46f1764f", checked := Try.checked }
namespace Rows
def none {H : Type} : Left H := { results := [], args := [] }

/-- 'laws.FnExactPoints': WHATEVER THE INPUT: true; the input reads as it did. -/
def fnExactPointsSpec : ChangeSpec := { name := "fnExactPoints", fn := fun _ => fun
  | [d1, d2, d3, d4, d5, d6, d7] => { results := [.lit (.bool true)], args := [d1, d2, d3, d4, d5, d6, d7] }
  | _ => none }
def fnExactPointsRow : OpenClaim := { program := "ytlakfamodfgmcaa", sum := "b027a20ff660318b07e0ba558dc20dd42950d4e690676eaf8682e50f46f1764f", func := "loop.example/pub-clippedrings/laws.FnExactPoints", spec := "fnExactPoints", apart := false }
def FnExactPointsSaid : Prop := fnExactPointsRow.holds Try.pinned (OpenSpec.ofChange fnExactPointsSpec)

/-- ITS FALSE NEIGHBOUR: 'it returns false'. Refute it at one input. -/
def fnExactPointsWrong : ChangeSpec := { name := "fnExactPoints", fn := fun _ => fun
  | [d1, d2, d3, d4, d5, d6, d7] => { results := [.lit (.bool false)], args := [d1, d2, d3, d4, d5, d6, d7] }
  | _ => none }
def FnExactPointsWrongFalsely : Prop := fnExactPointsRow.holds Try.pinned (OpenSpec.ofChange fnExactPointsWrong)

/-- 'laws.FnExactBound': WHATEVER THE INPUT: true; the input reads as it did. -/
def fnExactBoundSpec : ChangeSpec := { name := "fnExactBound", fn := fun _ => fun
  | [d1, d2, d3, d4, d5, d6, d7, d8] => { results := [.lit (.bool true)], args := [d1, d2, d3, d4, d5, d6, d7, d8] }
  | _ => none }
def fnExactBoundRow : OpenClaim := { program := "ytlakfamodfgmcaa", sum := "b027a20ff660318b07e0ba558dc20dd42950d4e690676eaf8682e50f46f1764f", func := "loop.example/pub-clippedrings/laws.FnExactBound", spec := "fnExactBound", inPlace := ["math.archMax", "math.Float64bits", "math.Float64frombits", "math.archMin"], apart := false }
def FnExactBoundSaid : Prop := fnExactBoundRow.holds Try.pinned (OpenSpec.ofChange fnExactBoundSpec)

/-- ITS FALSE NEIGHBOUR: 'it returns false'. Refute it at one input. -/
def fnExactBoundWrong : ChangeSpec := { name := "fnExactBound", fn := fun _ => fun
  | [d1, d2, d3, d4, d5, d6, d7, d8] => { results := [.lit (.bool false)], args := [d1, d2, d3, d4, d5, d6, d7, d8] }
  | _ => none }
def FnExactBoundWrongFalsely : Prop := fnExactBoundRow.holds Try.pinned (OpenSpec.ofChange fnExactBoundWrong)

/-- 'laws.FnRingWhole': WHATEVER THE INPUT: true; the input reads as it did. -/
def fnRingWholeSpec : ChangeSpec := { name := "fnRingWhole", fn := fun _ => fun
  | [d1, d2, d3, d4, d5, d6, d7] => { results := [.lit (.bool true)], args := [d1, d2, d3, d4, d5, d6, d7] }
  | _ => none }
def fnRingWholeRow : OpenClaim := { program := "ytlakfamodfgmcaa", sum := "b027a20ff660318b07e0ba558dc20dd42950d4e690676eaf8682e50f46f1764f", func := "loop.example/pub-clippedrings/laws.FnRingWhole", spec := "fnRingWhole", apart := false }
def FnRingWholeSaid : Prop := fnRingWholeRow.holds Try.pinned (OpenSpec.ofChange fnRingWholeSpec)

/-- ITS FALSE NEIGHBOUR: 'it returns false'. Refute it at one input. -/
def fnRingWholeWrong : ChangeSpec := { name := "fnRingWhole", fn := fun _ => fun
  | [d1, d2, d3, d4, d5, d6, d7] => { results := [.lit (.bool false)], args := [d1, d2, d3, d4, d5, d6, d7] }
  | _ => none }
def FnRingWholeWrongFalsely : Prop := fnRingWholeRow.holds Try.pinned (OpenSpec.ofChange fnRingWholeWrong)

/-- 'laws.FnRingAgain': WHATEVER THE INPUT: true; the input reads as it did. -/
def fnRingAgainSpec : ChangeSpec := { name := "fnRingAgain", fn := fun _ => fun
  | [d1, d2, d3, d4, d5, d6, d7, d8] => { results := [.lit (.bool true)], args := [d1, d2, d3, d4, d5, d6, d7, d8] }
  | _ => none }
def fnRingAgainRow : OpenClaim := { program := "ytlakfamodfgmcaa", sum := "b027a20ff660318b07e0ba558dc20dd42950d4e690676eaf8682e50f46f1764f", func := "loop.example/pub-clippedrings/laws.FnRingAgain", spec := "fnRingAgain", apart := false }
def FnRingAgainSaid : Prop := fnRingAgainRow.holds Try.pinned (OpenSpec.ofChange fnRingAgainSpec)

/-- ITS FALSE NEIGHBOUR: 'it returns false'. Refute it at one input. -/
def fnRingAgainWrong : ChangeSpec := { name := "fnRingAgain", fn := fun _ => fun
  | [d1, d2, d3, d4, d5, d6, d7, d8] => { results := [.lit (.bool false)], args := [d1, d2, d3, d4, d5, d6, d7, d8] }
  | _ => none }
def FnRingAgainWrongFalsely : Prop := fnRingAgainRow.holds Try.pinned (OpenSpec.ofChange fnRingAgainWrong)

/-- 'laws.FnRingClosed': WHATEVER THE INPUT: true; the input reads as it did. -/
def fnRingClosedSpec : ChangeSpec := { name := "fnRingClosed", fn := fun _ => fun
  | [d1, d2, d3, d4, d5, d6, d7] => { results := [.lit (.bool true)], args := [d1, d2, d3, d4, d5, d6, d7] }
  | _ => none }
def fnRingClosedRow : OpenClaim := { program := "ytlakfamodfgmcaa", sum := "b027a20ff660318b07e0ba558dc20dd42950d4e690676eaf8682e50f46f1764f", func := "loop.example/pub-clippedrings/laws.FnRingClosed", spec := "fnRingClosed", apart := false }
def FnRingClosedSaid : Prop := fnRingClosedRow.holds Try.pinned (OpenSpec.ofChange fnRingClosedSpec)

/-- ITS FALSE NEIGHBOUR: 'it returns false'. Refute it at one input. -/
def fnRingClosedWrong : ChangeSpec := { name := "fnRingClosed", fn := fun _ => fun
  | [d1, d2, d3, d4, d5, d6, d7] => { results := [.lit (.bool false)], args := [d1, d2, d3, d4, d5, d6, d7] }
  | _ => none }
def FnRingClosedWrongFalsely : Prop := fnRingClosedRow.holds Try.pinned (OpenSpec.ofChange fnRingClosedWrong)

/-- 'laws.FnRingWinds': WHATEVER THE INPUT: true; the input reads as it did. -/
def fnRingWindsSpec : ChangeSpec := { name := "fnRingWinds", fn := fun _ => fun
  | [d1, d2, d3, d4, d5, d6, d7] => { results := [.lit (.bool true)], args := [d1, d2, d3, d4, d5, d6, d7] }
  | _ => none }
def fnRingWindsRow : OpenClaim := { program := "ytlakfamodfgmcaa", sum := "b027a20ff660318b07e0ba558dc20dd42950d4e690676eaf8682e50f46f1764f", func := "loop.example/pub-clippedrings/laws.FnRingWinds", spec := "fnRingWinds", apart := false }
def FnRingWindsSaid : Prop := fnRingWindsRow.holds Try.pinned (OpenSpec.ofChange fnRingWindsSpec)

/-- ITS FALSE NEIGHBOUR: 'it returns false'. Refute it at one input. -/
def fnRingWindsWrong : ChangeSpec := { name := "fnRingWinds", fn := fun _ => fun
  | [d1, d2, d3, d4, d5, d6, d7] => { results := [.lit (.bool false)], args := [d1, d2, d3, d4, d5, d6, d7] }
  | _ => none }
def FnRingWindsWrongFalsely : Prop := fnRingWindsRow.holds Try.pinned (OpenSpec.ofChange fnRingWindsWrong)

/-- 'laws.FnLineWhole': WHATEVER THE INPUT: true; the input reads as it did. -/
def fnLineWholeSpec : ChangeSpec := { name := "fnLineWhole", fn := fun _ => fun
  | [d1, d2, d3, d4, d5, d6, d7] => { results := [.lit (.bool true)], args := [d1, d2, d3, d4, d5, d6, d7] }
  | _ => none }
def fnLineWholeRow : OpenClaim := { program := "ytlakfamodfgmcaa", sum := "b027a20ff660318b07e0ba558dc20dd42950d4e690676eaf8682e50f46f1764f", func := "loop.example/pub-clippedrings/laws.FnLineWhole", spec := "fnLineWhole", unfollowed := true, recurses := true, apart := false }
def FnLineWholeSaid : Prop := fnLineWholeRow.holds Try.pinned (OpenSpec.ofChange fnLineWholeSpec)

/-- ITS FALSE NEIGHBOUR: 'it returns false'. Refute it at one input. -/
def fnLineWholeWrong : ChangeSpec := { name := "fnLineWhole", fn := fun _ => fun
  | [d1, d2, d3, d4, d5, d6, d7] => { results := [.lit (.bool false)], args := [d1, d2, d3, d4, d5, d6, d7] }
  | _ => none }
def FnLineWholeWrongFalsely : Prop := fnLineWholeRow.holds Try.pinned (OpenSpec.ofChange fnLineWholeWrong)

/-- 'laws.FnPolygonWinds': WHATEVER THE INPUT: true; the input reads as it did. -/
def fnPolygonWindsSpec : ChangeSpec := { name := "fnPolygonWinds", fn := fun _ => fun
  | [d1, d2, d3, d4, d5, d6, d7, d8, d9, d10] => { results := [.lit (.bool true)], args := [d1, d2, d3, d4, d5, d6, d7, d8, d9, d10] }
  | _ => none }
def fnPolygonWindsRow : OpenClaim := { program := "ytlakfamodfgmcaa", sum := "b027a20ff660318b07e0ba558dc20dd42950d4e690676eaf8682e50f46f1764f", func := "loop.example/pub-clippedrings/laws.FnPolygonWinds", spec := "fnPolygonWinds", apart := false }
def FnPolygonWindsSaid : Prop := fnPolygonWindsRow.holds Try.pinned (OpenSpec.ofChange fnPolygonWindsSpec)

/-- ITS FALSE NEIGHBOUR: 'it returns false'. Refute it at one input. -/
def fnPolygonWindsWrong : ChangeSpec := { name := "fnPolygonWinds", fn := fun _ => fun
  | [d1, d2, d3, d4, d5, d6, d7, d8, d9, d10] => { results := [.lit (.bool false)], args := [d1, d2, d3, d4, d5, d6, d7, d8, d9, d10] }
  | _ => none }
def FnPolygonWindsWrongFalsely : Prop := fnPolygonWindsRow.holds Try.pinned (OpenSpec.ofChange fnPolygonWindsWrong)

/-- 'laws.FnExactLine': WHATEVER THE INPUT: true; the input reads as it did. -/
def fnExactLineSpec : ChangeSpec := { name := "fnExactLine", fn := fun _ => fun
  | [d1, d2, d3, d4, d5, d6, d7] => { results := [.lit (.bool true)], args := [d1, d2, d3, d4, d5, d6, d7] }
  | _ => none }
def fnExactLineRow : OpenClaim := { program := "ytlakfamodfgmcaa", sum := "b027a20ff660318b07e0ba558dc20dd42950d4e690676eaf8682e50f46f1764f", func := "loop.example/pub-clippedrings/laws.FnExactLine", spec := "fnExactLine", unfollowed := true, recurses := true, apart := false }
def FnExactLineSaid : Prop := fnExactLineRow.holds Try.pinned (OpenSpec.ofChange fnExactLineSpec)

/-- ITS FALSE NEIGHBOUR: 'it returns false'. Refute it at one input. -/
def fnExactLineWrong : ChangeSpec := { name := "fnExactLine", fn := fun _ => fun
  | [d1, d2, d3, d4, d5, d6, d7] => { results := [.lit (.bool false)], args := [d1, d2, d3, d4, d5, d6, d7] }
  | _ => none }
def FnExactLineWrongFalsely : Prop := fnExactLineRow.holds Try.pinned (OpenSpec.ofChange fnExactLineWrong)

/-- 'laws.FnExactLineOpen': WHATEVER THE INPUT: true; the input reads as it did. -/
def fnExactLineOpenSpec : ChangeSpec := { name := "fnExactLineOpen", fn := fun _ => fun
  | [d1, d2, d3, d4, d5, d6, d7] => { results := [.lit (.bool true)], args := [d1, d2, d3, d4, d5, d6, d7] }
  | _ => none }
def fnExactLineOpenRow : OpenClaim := { program := "ytlakfamodfgmcaa", sum := "b027a20ff660318b07e0ba558dc20dd42950d4e690676eaf8682e50f46f1764f", func := "loop.example/pub-clippedrings/laws.FnExactLineOpen", spec := "fnExactLineOpen", unfollowed := true, recurses := true, apart := false }
def FnExactLineOpenSaid : Prop := fnExactLineOpenRow.holds Try.pinned (OpenSpec.ofChange fnExactLineOpenSpec)

/-- ITS FALSE NEIGHBOUR: 'it returns false'. Refute it at one input. -/
def fnExactLineOpenWrong : ChangeSpec := { name := "fnExactLineOpen", fn := fun _ => fun
  | [d1, d2, d3, d4, d5, d6, d7] => { results := [.lit (.bool false)], args := [d1, d2, d3, d4, d5, d6, d7] }
  | _ => none }
def FnExactLineOpenWrongFalsely : Prop := fnExactLineOpenRow.holds Try.pinned (OpenSpec.ofChange fnExactLineOpenWrong)

/-- 'laws.FnExactLines': WHATEVER THE INPUT: true; the input reads as it did. -/
def fnExactLinesSpec : ChangeSpec := { name := "fnExactLines", fn := fun _ => fun
  | [d1, d2, d3, d4, d5, d6, d7, d8, d9, d10] => { results := [.lit (.bool true)], args := [d1, d2, d3, d4, d5, d6, d7, d8, d9, d10] }
  | _ => none }
def fnExactLinesRow : OpenClaim := { program := "ytlakfamodfgmcaa", sum := "b027a20ff660318b07e0ba558dc20dd42950d4e690676eaf8682e50f46f1764f", func := "loop.example/pub-clippedrings/laws.FnExactLines", spec := "fnExactLines", unfollowed := true, recurses := true, apart := false }
def FnExactLinesSaid : Prop := fnExactLinesRow.holds Try.pinned (OpenSpec.ofChange fnExactLinesSpec)

/-- ITS FALSE NEIGHBOUR: 'it returns false'. Refute it at one input. -/
def fnExactLinesWrong : ChangeSpec := { name := "fnExactLines", fn := fun _ => fun
  | [d1, d2, d3, d4, d5, d6, d7, d8, d9, d10] => { results := [.lit (.bool false)], args := [d1, d2, d3, d4, d5, d6, d7, d8, d9, d10] }
  | _ => none }
def FnExactLinesWrongFalsely : Prop := fnExactLinesRow.holds Try.pinned (OpenSpec.ofChange fnExactLinesWrong)

/- THE SECOND FORM. 'bulk': how many values and letters a reading holds, each counted each time it is reached (what is shared counts as often as it is met; a slice's spare places count too). A statement '..UptoSaid' is the law's where the arguments, and the package variables that the reading takes, are together of bulk at most 1048576: NARROWER than '..Said'. Prove '..Said' where nothing that the law and all that it calls make is longer than what came in: it says more and counts as full. Else prove '..UptoSaid'. A law counts once. -/
mutual
def uptoBulk {H : Type} : DataW H → Nat
  | .lit (.string bytes) => bytes.length + 1
  | .lit _ => 1
  | .nil => 1
  | .ptr d => uptoBulk d + 1
  | .slice elems spare => uptoBulkAll elems + uptoBulkAll spare + 1
  | .agg parts => uptoBulkAll parts + 1
  | .iface _ d => uptoBulk d + 1
  | .map entries => uptoBulkEntries entries + 1
  | .held _ => 1
def uptoBulkAll {H : Type} : List (DataW H) → Nat
  | [] => 0
  | d :: r => uptoBulk d + uptoBulkAll r
def uptoBulkEntries {H : Type} : List (Lit × DataW H) → Nat
  | [] => 0
  | x :: r => uptoBulkEntry x + uptoBulkEntries r
def uptoBulkEntry {H : Type} : Lit × DataW H → Nat
  | (.string bytes, d) => bytes.length + uptoBulk d + 1
  | (_, d) => uptoBulk d + 1
 end
def uptoSmall : (H : Type) → List (DataW H) → Bool := fun _ ds => decide (uptoBulkAll ds ≤ 1048576)
def OpenSpec.upto (s : _root_.Go.ChangeSpec) : _root_.Go.OpenSpec := { _root_.Go.OpenSpec.ofChange s with cond := some uptoSmall }

/-- 'laws.FnExactPoints', WHERE WHAT IT READS IS OF BULK AT MOST 1048576: true; the input reads as it did. -/
def fnExactPointsUptoRow : OpenClaim := { program := "ytlakfamodfgmcaa", sum := "b027a20ff660318b07e0ba558dc20dd42950d4e690676eaf8682e50f46f1764f", func := "loop.example/pub-clippedrings/laws.FnExactPoints", spec := "fnExactPoints", apart := false, narrowed := true }
def FnExactPointsUptoSaid : Prop := fnExactPointsUptoRow.holds Try.pinned (OpenSpec.upto fnExactPointsSpec)

/-- 'laws.FnExactBound', WHERE WHAT IT READS IS OF BULK AT MOST 1048576: true; the input reads as it did. -/
def fnExactBoundUptoRow : OpenClaim := { program := "ytlakfamodfgmcaa", sum := "b027a20ff660318b07e0ba558dc20dd42950d4e690676eaf8682e50f46f1764f", func := "loop.example/pub-clippedrings/laws.FnExactBound", spec := "fnExactBound", inPlace := ["math.archMax", "math.Float64bits", "math.Float64frombits", "math.archMin"], apart := false, narrowed := true }
def FnExactBoundUptoSaid : Prop := fnExactBoundUptoRow.holds Try.pinned (OpenSpec.upto fnExactBoundSpec)

/-- 'laws.FnRingWhole', WHERE WHAT IT READS IS OF BULK AT MOST 1048576: true; the input reads as it did. -/
def fnRingWholeUptoRow : OpenClaim := { program := "ytlakfamodfgmcaa", sum := "b027a20ff660318b07e0ba558dc20dd42950d4e690676eaf8682e50f46f1764f", func := "loop.example/pub-clippedrings/laws.FnRingWhole", spec := "fnRingWhole", apart := false, narrowed := true }
def FnRingWholeUptoSaid : Prop := fnRingWholeUptoRow.holds Try.pinned (OpenSpec.upto fnRingWholeSpec)

/-- 'laws.FnRingAgain', WHERE WHAT IT READS IS OF BULK AT MOST 1048576: true; the input reads as it did. -/
def fnRingAgainUptoRow : OpenClaim := { program := "ytlakfamodfgmcaa", sum := "b027a20ff660318b07e0ba558dc20dd42950d4e690676eaf8682e50f46f1764f", func := "loop.example/pub-clippedrings/laws.FnRingAgain", spec := "fnRingAgain", apart := false, narrowed := true }
def FnRingAgainUptoSaid : Prop := fnRingAgainUptoRow.holds Try.pinned (OpenSpec.upto fnRingAgainSpec)

/-- 'laws.FnRingClosed', WHERE WHAT IT READS IS OF BULK AT MOST 1048576: true; the input reads as it did. -/
def fnRingClosedUptoRow : OpenClaim := { program := "ytlakfamodfgmcaa", sum := "b027a20ff660318b07e0ba558dc20dd42950d4e690676eaf8682e50f46f1764f", func := "loop.example/pub-clippedrings/laws.FnRingClosed", spec := "fnRingClosed", apart := false, narrowed := true }
def FnRingClosedUptoSaid : Prop := fnRingClosedUptoRow.holds Try.pinned (OpenSpec.upto fnRingClosedSpec)

/-- 'laws.FnRingWinds', WHERE WHAT IT READS IS OF BULK AT MOST 1048576: true; the input reads as it did. -/
def fnRingWindsUptoRow : OpenClaim := { program := "ytlakfamodfgmcaa", sum := "b027a20ff660318b07e0ba558dc20dd42950d4e690676eaf8682e50f46f1764f", func := "loop.example/pub-clippedrings/laws.FnRingWinds", spec := "fnRingWinds", apart := false, narrowed := true }
def FnRingWindsUptoSaid : Prop := fnRingWindsUptoRow.holds Try.pinned (OpenSpec.upto fnRingWindsSpec)

/-- 'laws.FnLineWhole', WHERE WHAT IT READS IS OF BULK AT MOST 1048576: true; the input reads as it did. -/
def fnLineWholeUptoRow : OpenClaim := { program := "ytlakfamodfgmcaa", sum := "b027a20ff660318b07e0ba558dc20dd42950d4e690676eaf8682e50f46f1764f", func := "loop.example/pub-clippedrings/laws.FnLineWhole", spec := "fnLineWhole", unfollowed := true, recurses := true, apart := false, narrowed := true }
def FnLineWholeUptoSaid : Prop := fnLineWholeUptoRow.holds Try.pinned (OpenSpec.upto fnLineWholeSpec)

/-- 'laws.FnPolygonWinds', WHERE WHAT IT READS IS OF BULK AT MOST 1048576: true; the input reads as it did. -/
def fnPolygonWindsUptoRow : OpenClaim := { program := "ytlakfamodfgmcaa", sum := "b027a20ff660318b07e0ba558dc20dd42950d4e690676eaf8682e50f46f1764f", func := "loop.example/pub-clippedrings/laws.FnPolygonWinds", spec := "fnPolygonWinds", apart := false, narrowed := true }
def FnPolygonWindsUptoSaid : Prop := fnPolygonWindsUptoRow.holds Try.pinned (OpenSpec.upto fnPolygonWindsSpec)

/-- 'laws.FnExactLine', WHERE WHAT IT READS IS OF BULK AT MOST 1048576: true; the input reads as it did. -/
def fnExactLineUptoRow : OpenClaim := { program := "ytlakfamodfgmcaa", sum := "b027a20ff660318b07e0ba558dc20dd42950d4e690676eaf8682e50f46f1764f", func := "loop.example/pub-clippedrings/laws.FnExactLine", spec := "fnExactLine", unfollowed := true, recurses := true, apart := false, narrowed := true }
def FnExactLineUptoSaid : Prop := fnExactLineUptoRow.holds Try.pinned (OpenSpec.upto fnExactLineSpec)

/-- 'laws.FnExactLineOpen', WHERE WHAT IT READS IS OF BULK AT MOST 1048576: true; the input reads as it did. -/
def fnExactLineOpenUptoRow : OpenClaim := { program := "ytlakfamodfgmcaa", sum := "b027a20ff660318b07e0ba558dc20dd42950d4e690676eaf8682e50f46f1764f", func := "loop.example/pub-clippedrings/laws.FnExactLineOpen", spec := "fnExactLineOpen", unfollowed := true, recurses := true, apart := false, narrowed := true }
def FnExactLineOpenUptoSaid : Prop := fnExactLineOpenUptoRow.holds Try.pinned (OpenSpec.upto fnExactLineOpenSpec)

/-- 'laws.FnExactLines', WHERE WHAT IT READS IS OF BULK AT MOST 1048576: true; the input reads as it did. -/
def fnExactLinesUptoRow : OpenClaim := { program := "ytlakfamodfgmcaa", sum := "b027a20ff660318b07e0ba558dc20dd42950d4e690676eaf8682e50f46f1764f", func := "loop.example/pub-clippedrings/laws.FnExactLines", spec := "fnExactLines", unfollowed := true, recurses := true, apart := false, narrowed := true }
def FnExactLinesUptoSaid : Prop := fnExactLinesUptoRow.holds Try.pinned (OpenSpec.upto fnExactLinesSpec)

end Rows
end Go.Proofs.Ytlakfamodfgmcaa
