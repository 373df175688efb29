/-
  No cell of these rows narrows 'for every input' (looked for: loops, veiled, ifaces, maps, wideKeys, modest, calm, conditions, laid).
  DERIVED. THE GIVEN ROWS OF THIS SEAT. 4 by the template 'for every input the law returns true; each argument reads behind the call as it read before'; 0 by the template 'total and deterministic' (their statements: YtafanlbfbfbeoaaTotals.lean).
  GIVEN WITH THE SEED: the statements are not yours to turn. If you find one false, say at which input.
  Laid BY PROGRAM, IN A SANDBOX (cutbox-rows.mjs): the forced cells as the released guide's own fill.sh prints them over the translation 98afda6052e8f873… (all of the seat's roots in one cut). By AI agents, Wed Nov 11 2026. No macro, syntax, notation, axiom, sorry.
-/
import Derived.Test.YtafanlbfbfbeoaaChecked
import GoSem.Claim
import GoSem.ClaimJoined
import GoSem.ClaimMapViews
import Derived.JoinedTies
import Derived.KernelRfl
namespace Go.Proofs.Ytafanlbfbfbeoaa
/- THE CELL 'sum', in the pinned program and in every row, IS THE sha256 OF THE DUMP (.gsa) THAT YtafanlbfbfbeoaaProg.lean LOADS. Nothing in Lean hashes anything: it is a label: what it is worth is what the hold of that sum in a sandbox is worth. -/
noncomputable def Try.pinned : Pinned := { name := "ytafanlbfbfbeoaa", sum := "98afda6052e8f8731b0329d474b3bc3c82606f284a6cae443531ede0e01db2ce", checked := Try.checked }
namespace Rows
def none {H : Type} : Left H := { results := [], args := [] }

/-- 'laws.FnSmartWhole': WHATEVER THE INPUT: true; the input reads as it did. -/
def fnSmartWholeSpec : ChangeSpec := { name := "fnSmartWhole", fn := fun _ => fun
  | [d1, d2, d3, d4, d5, d6, d7] => { results := [.lit (.bool true)], args := [d1, d2, d3, d4, d5, d6, d7] }
  | _ => none }
def fnSmartWholeRow : OpenClaim := { program := "ytafanlbfbfbeoaa", sum := "98afda6052e8f8731b0329d474b3bc3c82606f284a6cae443531ede0e01db2ce", func := "loop.example/pub-clippedrings/laws.FnSmartWhole", spec := "fnSmartWhole", unfollowed := true, recurses := true, apart := false }
def FnSmartWholeSaid : Prop := fnSmartWholeRow.holds Try.pinned (OpenSpec.ofChange fnSmartWholeSpec)

/-- ITS FALSE NEIGHBOUR: 'it returns false'. Refute it at one input. -/
def fnSmartWholeWrong : ChangeSpec := { name := "fnSmartWhole", fn := fun _ => fun
  | [d1, d2, d3, d4, d5, d6, d7] => { results := [.lit (.bool false)], args := [d1, d2, d3, d4, d5, d6, d7] }
  | _ => none }
def FnSmartWholeWrongFalsely : Prop := fnSmartWholeRow.holds Try.pinned (OpenSpec.ofChange fnSmartWholeWrong)

/-- 'laws.FnSmartRings': WHATEVER THE INPUT: true; the input reads as it did. -/
def fnSmartRingsSpec : ChangeSpec := { name := "fnSmartRings", fn := fun _ => fun
  | [d1, d2, d3, d4, d5, d6, d7] => { results := [.lit (.bool true)], args := [d1, d2, d3, d4, d5, d6, d7] }
  | _ => none }
def fnSmartRingsRow : OpenClaim := { program := "ytafanlbfbfbeoaa", sum := "98afda6052e8f8731b0329d474b3bc3c82606f284a6cae443531ede0e01db2ce", func := "loop.example/pub-clippedrings/laws.FnSmartRings", spec := "fnSmartRings", unfollowed := true, recurses := true, apart := false }
def FnSmartRingsSaid : Prop := fnSmartRingsRow.holds Try.pinned (OpenSpec.ofChange fnSmartRingsSpec)

/-- ITS FALSE NEIGHBOUR: 'it returns false'. Refute it at one input. -/
def fnSmartRingsWrong : ChangeSpec := { name := "fnSmartRings", fn := fun _ => fun
  | [d1, d2, d3, d4, d5, d6, d7] => { results := [.lit (.bool false)], args := [d1, d2, d3, d4, d5, d6, d7] }
  | _ => none }
def FnSmartRingsWrongFalsely : Prop := fnSmartRingsRow.holds Try.pinned (OpenSpec.ofChange fnSmartRingsWrong)

/-- 'laws.FnSmartWinds': WHATEVER THE INPUT: true; the input reads as it did. -/
def fnSmartWindsSpec : ChangeSpec := { name := "fnSmartWinds", fn := fun _ => fun
  | [d1, d2, d3, d4, d5, d6, d7] => { results := [.lit (.bool true)], args := [d1, d2, d3, d4, d5, d6, d7] }
  | _ => none }
def fnSmartWindsRow : OpenClaim := { program := "ytafanlbfbfbeoaa", sum := "98afda6052e8f8731b0329d474b3bc3c82606f284a6cae443531ede0e01db2ce", func := "loop.example/pub-clippedrings/laws.FnSmartWinds", spec := "fnSmartWinds", unfollowed := true, recurses := true, apart := false }
def FnSmartWindsSaid : Prop := fnSmartWindsRow.holds Try.pinned (OpenSpec.ofChange fnSmartWindsSpec)

/-- ITS FALSE NEIGHBOUR: 'it returns false'. Refute it at one input. -/
def fnSmartWindsWrong : ChangeSpec := { name := "fnSmartWinds", fn := fun _ => fun
  | [d1, d2, d3, d4, d5, d6, d7] => { results := [.lit (.bool false)], args := [d1, d2, d3, d4, d5, d6, d7] }
  | _ => none }
def FnSmartWindsWrongFalsely : Prop := fnSmartWindsRow.holds Try.pinned (OpenSpec.ofChange fnSmartWindsWrong)

/-- 'laws.FnSmartAlike': WHATEVER THE INPUT: true; the input reads as it did. -/
def fnSmartAlikeSpec : ChangeSpec := { name := "fnSmartAlike", fn := fun _ => fun
  | [d1, d2, d3, d4, d5, d6, d7] => { results := [.lit (.bool true)], args := [d1, d2, d3, d4, d5, d6, d7] }
  | _ => none }
def fnSmartAlikeRow : OpenClaim := { program := "ytafanlbfbfbeoaa", sum := "98afda6052e8f8731b0329d474b3bc3c82606f284a6cae443531ede0e01db2ce", func := "loop.example/pub-clippedrings/laws.FnSmartAlike", spec := "fnSmartAlike", unfollowed := true, recurses := true, apart := false }
def FnSmartAlikeSaid : Prop := fnSmartAlikeRow.holds Try.pinned (OpenSpec.ofChange fnSmartAlikeSpec)

/-- ITS FALSE NEIGHBOUR: 'it returns false'. Refute it at one input. -/
def fnSmartAlikeWrong : ChangeSpec := { name := "fnSmartAlike", fn := fun _ => fun
  | [d1, d2, d3, d4, d5, d6, d7] => { results := [.lit (.bool false)], args := [d1, d2, d3, d4, d5, d6, d7] }
  | _ => none }
def FnSmartAlikeWrongFalsely : Prop := fnSmartAlikeRow.holds Try.pinned (OpenSpec.ofChange fnSmartAlikeWrong)

/- THE SECOND FORM. 'bulk': how many values and letters a reading holds, each counted each time it is reached (what is shared counts as often as it is met; a slice's spare places count too). A statement '..UptoSaid' is the law's where the arguments, and the package variables that the reading takes, are together of bulk at most 1048576: NARROWER than '..Said'. Prove '..Said' where nothing that the law and all that it calls make is longer than what came in: it says more and counts as full. Else prove '..UptoSaid'. A law counts once. -/
mutual
def uptoBulk {H : Type} : DataW H → Nat
  | .lit (.string bytes) => bytes.length + 1
  | .lit _ => 1
  | .nil => 1
  | .ptr d => uptoBulk d + 1
  | .slice elems spare => uptoBulkAll elems + uptoBulkAll spare + 1
  | .agg parts => uptoBulkAll parts + 1
  | .iface _ d => uptoBulk d + 1
  | .map entries => uptoBulkEntries entries + 1
  | .held _ => 1
def uptoBulkAll {H : Type} : List (DataW H) → Nat
  | [] => 0
  | d :: r => uptoBulk d + uptoBulkAll r
def uptoBulkEntries {H : Type} : List (Lit × DataW H) → Nat
  | [] => 0
  | x :: r => uptoBulkEntry x + uptoBulkEntries r
def uptoBulkEntry {H : Type} : Lit × DataW H → Nat
  | (.string bytes, d) => bytes.length + uptoBulk d + 1
  | (_, d) => uptoBulk d + 1
 end
def uptoSmall : (H : Type) → List (DataW H) → Bool := fun _ ds => decide (uptoBulkAll ds ≤ 1048576)
def OpenSpec.upto (s : _root_.Go.ChangeSpec) : _root_.Go.OpenSpec := { _root_.Go.OpenSpec.ofChange s with cond := some uptoSmall }

/-- 'laws.FnSmartWhole', WHERE WHAT IT READS IS OF BULK AT MOST 1048576: true; the input reads as it did. -/
def fnSmartWholeUptoRow : OpenClaim := { program := "ytafanlbfbfbeoaa", sum := "98afda6052e8f8731b0329d474b3bc3c82606f284a6cae443531ede0e01db2ce", func := "loop.example/pub-clippedrings/laws.FnSmartWhole", spec := "fnSmartWhole", unfollowed := true, recurses := true, apart := false, narrowed := true }
def FnSmartWholeUptoSaid : Prop := fnSmartWholeUptoRow.holds Try.pinned (OpenSpec.upto fnSmartWholeSpec)

/-- 'laws.FnSmartRings', WHERE WHAT IT READS IS OF BULK AT MOST 1048576: true; the input reads as it did. -/
def fnSmartRingsUptoRow : OpenClaim := { program := "ytafanlbfbfbeoaa", sum := "98afda6052e8f8731b0329d474b3bc3c82606f284a6cae443531ede0e01db2ce", func := "loop.example/pub-clippedrings/laws.FnSmartRings", spec := "fnSmartRings", unfollowed := true, recurses := true, apart := false, narrowed := true }
def FnSmartRingsUptoSaid : Prop := fnSmartRingsUptoRow.holds Try.pinned (OpenSpec.upto fnSmartRingsSpec)

/-- 'laws.FnSmartWinds', WHERE WHAT IT READS IS OF BULK AT MOST 1048576: true; the input reads as it did. -/
def fnSmartWindsUptoRow : OpenClaim := { program := "ytafanlbfbfbeoaa", sum := "98afda6052e8f8731b0329d474b3bc3c82606f284a6cae443531ede0e01db2ce", func := "loop.example/pub-clippedrings/laws.FnSmartWinds", spec := "fnSmartWinds", unfollowed := true, recurses := true, apart := false, narrowed := true }
def FnSmartWindsUptoSaid : Prop := fnSmartWindsUptoRow.holds Try.pinned (OpenSpec.upto fnSmartWindsSpec)

/-- 'laws.FnSmartAlike', WHERE WHAT IT READS IS OF BULK AT MOST 1048576: true; the input reads as it did. -/
def fnSmartAlikeUptoRow : OpenClaim := { program := "ytafanlbfbfbeoaa", sum := "98afda6052e8f8731b0329d474b3bc3c82606f284a6cae443531ede0e01db2ce", func := "loop.example/pub-clippedrings/laws.FnSmartAlike", spec := "fnSmartAlike", unfollowed := true, recurses := true, apart := false, narrowed := true }
def FnSmartAlikeUptoSaid : Prop := fnSmartAlikeUptoRow.holds Try.pinned (OpenSpec.upto fnSmartAlikeSpec)

end Rows
end Go.Proofs.Ytafanlbfbfbeoaa
