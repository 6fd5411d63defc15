/-
  No cell of these rows narrows 'for every input' (looked for: loops, veiled, ifaces, maps, wideKeys, modest, calm, conditions, laid).
  DERIVED. THE GIVEN ROWS OF THIS SEAT. 8 by the template 'for every input the law returns true; each argument reads behind the call as it read before'; 0 by the template 'total and deterministic' (their statements: YtoddnjpbmefgnaaTotals.lean).
  GIVEN WITH THE SEED: the statements are not yours to turn. If you find one false, say at which input.
  Laid BY PROGRAM, IN A SANDBOX (cutbox-rows.mjs): the forced cells as the released guide's own fill.sh prints them over the translation 1a3810ac6ffe1a04… (all of the seat's roots in one cut). By AI agents, Wed Nov 11 2026. No macro, syntax, notation, axiom, sorry.
-/
import Derived.Test.YtoddnjpbmefgnaaChecked
import GoSem.Claim
import GoSem.ClaimJoined
import GoSem.ClaimMapViews
import Derived.JoinedTies
import Derived.KernelRfl
namespace Go.Proofs.Ytoddnjpbmefgnaa
/- THE CELL 'sum', in the pinned program and in every row, IS THE sha256 OF THE DUMP (.gsa) THAT YtoddnjpbmefgnaaProg.lean LOADS. Nothing in Lean hashes anything: it is a label: what it is worth is what the hold of that sum in a sandbox is worth. -/
noncomputable def Try.pinned : Pinned := { name := "ytoddnjpbmefgnaa", sum := "1a3810ac6ffe1a0444dbf15cde61b104134d3615b977eec7a9b2588086b67246", checked := Try.checked }
namespace Rows
def none {H : Type} : Left H := { results := [], args := [] }

/-- 'laws.FnExactShape': WHATEVER THE INPUT: true; the input reads as it did. -/
def fnExactShapeSpec : ChangeSpec := { name := "fnExactShape", fn := fun _ => fun
  | [d1, d2] => { results := [.lit (.bool true)], args := [d1, d2] }
  | _ => none }
def fnExactShapeRow : OpenClaim := { program := "ytoddnjpbmefgnaa", sum := "1a3810ac6ffe1a0444dbf15cde61b104134d3615b977eec7a9b2588086b67246", func := "loop.example/pub-admissionsketches/laws.FnExactShape", spec := "fnExactShape", apart := false }
def FnExactShapeSaid : Prop := fnExactShapeRow.holds Try.pinned (OpenSpec.ofChange fnExactShapeSpec)

/-- ITS FALSE NEIGHBOUR: 'it returns false'. Refute it at one input. -/
def fnExactShapeWrong : ChangeSpec := { name := "fnExactShape", fn := fun _ => fun
  | [d1, d2] => { results := [.lit (.bool false)], args := [d1, d2] }
  | _ => none }
def FnExactShapeWrongFalsely : Prop := fnExactShapeRow.holds Try.pinned (OpenSpec.ofChange fnExactShapeWrong)

/-- 'laws.FnExactCounters': WHATEVER THE INPUT: true; the input reads as it did. -/
def fnExactCountersSpec : ChangeSpec := { name := "fnExactCounters", fn := fun _ => fun
  | [d1, d2, d3] => { results := [.lit (.bool true)], args := [d1, d2, d3] }
  | _ => none }
def fnExactCountersRow : OpenClaim := { program := "ytoddnjpbmefgnaa", sum := "1a3810ac6ffe1a0444dbf15cde61b104134d3615b977eec7a9b2588086b67246", func := "loop.example/pub-admissionsketches/laws.FnExactCounters", spec := "fnExactCounters", apart := false }
def FnExactCountersSaid : Prop := fnExactCountersRow.holds Try.pinned (OpenSpec.ofChange fnExactCountersSpec)

/-- ITS FALSE NEIGHBOUR: 'it returns false'. Refute it at one input. -/
def fnExactCountersWrong : ChangeSpec := { name := "fnExactCounters", fn := fun _ => fun
  | [d1, d2, d3] => { results := [.lit (.bool false)], args := [d1, d2, d3] }
  | _ => none }
def FnExactCountersWrongFalsely : Prop := fnExactCountersRow.holds Try.pinned (OpenSpec.ofChange fnExactCountersWrong)

/-- 'laws.FnExactFiltered': WHATEVER THE INPUT: true; the input reads as it did. -/
def fnExactFilteredSpec : ChangeSpec := { name := "fnExactFiltered", fn := fun _ => fun
  | [d1, d2, d3, d4] => { results := [.lit (.bool true)], args := [d1, d2, d3, d4] }
  | _ => none }
def fnExactFilteredRow : OpenClaim := { program := "ytoddnjpbmefgnaa", sum := "1a3810ac6ffe1a0444dbf15cde61b104134d3615b977eec7a9b2588086b67246", func := "loop.example/pub-admissionsketches/laws.FnExactFiltered", spec := "fnExactFiltered", apart := false }
def FnExactFilteredSaid : Prop := fnExactFilteredRow.holds Try.pinned (OpenSpec.ofChange fnExactFilteredSpec)

/-- ITS FALSE NEIGHBOUR: 'it returns false'. Refute it at one input. -/
def fnExactFilteredWrong : ChangeSpec := { name := "fnExactFiltered", fn := fun _ => fun
  | [d1, d2, d3, d4] => { results := [.lit (.bool false)], args := [d1, d2, d3, d4] }
  | _ => none }
def FnExactFilteredWrongFalsely : Prop := fnExactFilteredRow.holds Try.pinned (OpenSpec.ofChange fnExactFilteredWrong)

/-- 'laws.FnAddedNew': WHATEVER THE INPUT: true; the input reads as it did. -/
def fnAddedNewSpec : ChangeSpec := { name := "fnAddedNew", fn := fun _ => fun
  | [d1, d2, d3] => { results := [.lit (.bool true)], args := [d1, d2, d3] }
  | _ => none }
def fnAddedNewRow : OpenClaim := { program := "ytoddnjpbmefgnaa", sum := "1a3810ac6ffe1a0444dbf15cde61b104134d3615b977eec7a9b2588086b67246", func := "loop.example/pub-admissionsketches/laws.FnAddedNew", spec := "fnAddedNew", apart := false }
def FnAddedNewSaid : Prop := fnAddedNewRow.holds Try.pinned (OpenSpec.ofChange fnAddedNewSpec)

/-- ITS FALSE NEIGHBOUR: 'it returns false'. Refute it at one input. -/
def fnAddedNewWrong : ChangeSpec := { name := "fnAddedNew", fn := fun _ => fun
  | [d1, d2, d3] => { results := [.lit (.bool false)], args := [d1, d2, d3] }
  | _ => none }
def FnAddedNewWrongFalsely : Prop := fnAddedNewRow.holds Try.pinned (OpenSpec.ofChange fnAddedNewWrong)

/-- 'laws.FnExactEstimates': WHATEVER THE INPUT: true; the input reads as it did. -/
def fnExactEstimatesSpec : ChangeSpec := { name := "fnExactEstimates", fn := fun _ => fun
  | [d1, d2, d3, d4, d5, d6, d7, d8] => { results := [.lit (.bool true)], args := [d1, d2, d3, d4, d5, d6, d7, d8] }
  | _ => none }
def fnExactEstimatesRow : OpenClaim := { program := "ytoddnjpbmefgnaa", sum := "1a3810ac6ffe1a0444dbf15cde61b104134d3615b977eec7a9b2588086b67246", func := "loop.example/pub-admissionsketches/laws.FnExactEstimates", spec := "fnExactEstimates", apart := false }
def FnExactEstimatesSaid : Prop := fnExactEstimatesRow.holds Try.pinned (OpenSpec.ofChange fnExactEstimatesSpec)

/-- ITS FALSE NEIGHBOUR: 'it returns false'. Refute it at one input. -/
def fnExactEstimatesWrong : ChangeSpec := { name := "fnExactEstimates", fn := fun _ => fun
  | [d1, d2, d3, d4, d5, d6, d7, d8] => { results := [.lit (.bool false)], args := [d1, d2, d3, d4, d5, d6, d7, d8] }
  | _ => none }
def FnExactEstimatesWrongFalsely : Prop := fnExactEstimatesRow.holds Try.pinned (OpenSpec.ofChange fnExactEstimatesWrong)

/-- 'laws.FnNeverBelow': WHATEVER THE INPUT: true; the input reads as it did. -/
def fnNeverBelowSpec : ChangeSpec := { name := "fnNeverBelow", fn := fun _ => fun
  | [d1, d2, d3, d4, d5, d6] => { results := [.lit (.bool true)], args := [d1, d2, d3, d4, d5, d6] }
  | _ => none }
def fnNeverBelowRow : OpenClaim := { program := "ytoddnjpbmefgnaa", sum := "1a3810ac6ffe1a0444dbf15cde61b104134d3615b977eec7a9b2588086b67246", func := "loop.example/pub-admissionsketches/laws.FnNeverBelow", spec := "fnNeverBelow", apart := false }
def FnNeverBelowSaid : Prop := fnNeverBelowRow.holds Try.pinned (OpenSpec.ofChange fnNeverBelowSpec)

/-- ITS FALSE NEIGHBOUR: 'it returns false'. Refute it at one input. -/
def fnNeverBelowWrong : ChangeSpec := { name := "fnNeverBelow", fn := fun _ => fun
  | [d1, d2, d3, d4, d5, d6] => { results := [.lit (.bool false)], args := [d1, d2, d3, d4, d5, d6] }
  | _ => none }
def FnNeverBelowWrongFalsely : Prop := fnNeverBelowRow.holds Try.pinned (OpenSpec.ofChange fnNeverBelowWrong)

/-- 'laws.FnAdmitted': WHATEVER THE INPUT: true; the input reads as it did. -/
def fnAdmittedSpec : ChangeSpec := { name := "fnAdmitted", fn := fun _ => fun
  | [d1, d2, d3, d4, d5, d6, d7, d8] => { results := [.lit (.bool true)], args := [d1, d2, d3, d4, d5, d6, d7, d8] }
  | _ => none }
def fnAdmittedRow : OpenClaim := { program := "ytoddnjpbmefgnaa", sum := "1a3810ac6ffe1a0444dbf15cde61b104134d3615b977eec7a9b2588086b67246", func := "loop.example/pub-admissionsketches/laws.FnAdmitted", spec := "fnAdmitted", apart := false }
def FnAdmittedSaid : Prop := fnAdmittedRow.holds Try.pinned (OpenSpec.ofChange fnAdmittedSpec)

/-- ITS FALSE NEIGHBOUR: 'it returns false'. Refute it at one input. -/
def fnAdmittedWrong : ChangeSpec := { name := "fnAdmitted", fn := fun _ => fun
  | [d1, d2, d3, d4, d5, d6, d7, d8] => { results := [.lit (.bool false)], args := [d1, d2, d3, d4, d5, d6, d7, d8] }
  | _ => none }
def FnAdmittedWrongFalsely : Prop := fnAdmittedRow.holds Try.pinned (OpenSpec.ofChange fnAdmittedWrong)

/-- 'laws.FnExactCosts': WHATEVER THE INPUT: true; the input reads as it did. -/
def fnExactCostsSpec : ChangeSpec := { name := "fnExactCosts", fn := fun _ => fun
  | [d1, d2, d3] => { results := [.lit (.bool true)], args := [d1, d2, d3] }
  | _ => none }
def fnExactCostsRow : OpenClaim := { program := "ytoddnjpbmefgnaa", sum := "1a3810ac6ffe1a0444dbf15cde61b104134d3615b977eec7a9b2588086b67246", func := "loop.example/pub-admissionsketches/laws.FnExactCosts", spec := "fnExactCosts", unfollowed := true, recurses := true, apart := false }
def FnExactCostsSaid : Prop := fnExactCostsRow.holds Try.pinned (OpenSpec.ofChange fnExactCostsSpec)

/-- ITS FALSE NEIGHBOUR: 'it returns false'. Refute it at one input. -/
def fnExactCostsWrong : ChangeSpec := { name := "fnExactCosts", fn := fun _ => fun
  | [d1, d2, d3] => { results := [.lit (.bool false)], args := [d1, d2, d3] }
  | _ => none }
def FnExactCostsWrongFalsely : Prop := fnExactCostsRow.holds Try.pinned (OpenSpec.ofChange fnExactCostsWrong)

/- THE SECOND FORM. 'bulk': how many values and letters a reading holds, each counted each time it is reached (what is shared counts as often as it is met; a slice's spare places count too). A statement '..UptoSaid' is the law's where the arguments, and the package variables that the reading takes, are together of bulk at most 1048576: NARROWER than '..Said'. Prove '..Said' where nothing that the law and all that it calls make is longer than what came in: it says more and counts as full. Else prove '..UptoSaid'. A law counts once. -/
mutual
def uptoBulk {H : Type} : DataW H → Nat
  | .lit (.string bytes) => bytes.length + 1
  | .lit _ => 1
  | .nil => 1
  | .ptr d => uptoBulk d + 1
  | .slice elems spare => uptoBulkAll elems + uptoBulkAll spare + 1
  | .agg parts => uptoBulkAll parts + 1
  | .iface _ d => uptoBulk d + 1
  | .map entries => uptoBulkEntries entries + 1
  | .held _ => 1
def uptoBulkAll {H : Type} : List (DataW H) → Nat
  | [] => 0
  | d :: r => uptoBulk d + uptoBulkAll r
def uptoBulkEntries {H : Type} : List (Lit × DataW H) → Nat
  | [] => 0
  | x :: r => uptoBulkEntry x + uptoBulkEntries r
def uptoBulkEntry {H : Type} : Lit × DataW H → Nat
  | (.string bytes, d) => bytes.length + uptoBulk d + 1
  | (_, d) => uptoBulk d + 1
 end
def uptoSmall : (H : Type) → List (DataW H) → Bool := fun _ ds => decide (uptoBulkAll ds ≤ 1048576)
def OpenSpec.upto (s : _root_.Go.ChangeSpec) : _root_.Go.OpenSpec := { _root_.Go.OpenSpec.ofChange s with cond := some uptoSmall }

/-- 'laws.FnExactShape', WHERE WHAT IT READS IS OF BULK AT MOST 1048576: true; the input reads as it did. -/
def fnExactShapeUptoRow : OpenClaim := { program := "ytoddnjpbmefgnaa", sum := "1a3810ac6ffe1a0444dbf15cde61b104134d3615b977eec7a9b2588086b67246", func := "loop.example/pub-admissionsketches/laws.FnExactShape", spec := "fnExactShape", apart := false, narrowed := true }
def FnExactShapeUptoSaid : Prop := fnExactShapeUptoRow.holds Try.pinned (OpenSpec.upto fnExactShapeSpec)

/-- 'laws.FnExactCounters', WHERE WHAT IT READS IS OF BULK AT MOST 1048576: true; the input reads as it did. -/
def fnExactCountersUptoRow : OpenClaim := { program := "ytoddnjpbmefgnaa", sum := "1a3810ac6ffe1a0444dbf15cde61b104134d3615b977eec7a9b2588086b67246", func := "loop.example/pub-admissionsketches/laws.FnExactCounters", spec := "fnExactCounters", apart := false, narrowed := true }
def FnExactCountersUptoSaid : Prop := fnExactCountersUptoRow.holds Try.pinned (OpenSpec.upto fnExactCountersSpec)

/-- 'laws.FnExactFiltered', WHERE WHAT IT READS IS OF BULK AT MOST 1048576: true; the input reads as it did. -/
def fnExactFilteredUptoRow : OpenClaim := { program := "ytoddnjpbmefgnaa", sum := "1a3810ac6ffe1a0444dbf15cde61b104134d3615b977eec7a9b2588086b67246", func := "loop.example/pub-admissionsketches/laws.FnExactFiltered", spec := "fnExactFiltered", apart := false, narrowed := true }
def FnExactFilteredUptoSaid : Prop := fnExactFilteredUptoRow.holds Try.pinned (OpenSpec.upto fnExactFilteredSpec)

/-- 'laws.FnAddedNew', WHERE WHAT IT READS IS OF BULK AT MOST 1048576: true; the input reads as it did. -/
def fnAddedNewUptoRow : OpenClaim := { program := "ytoddnjpbmefgnaa", sum := "1a3810ac6ffe1a0444dbf15cde61b104134d3615b977eec7a9b2588086b67246", func := "loop.example/pub-admissionsketches/laws.FnAddedNew", spec := "fnAddedNew", apart := false, narrowed := true }
def FnAddedNewUptoSaid : Prop := fnAddedNewUptoRow.holds Try.pinned (OpenSpec.upto fnAddedNewSpec)

/-- 'laws.FnExactEstimates', WHERE WHAT IT READS IS OF BULK AT MOST 1048576: true; the input reads as it did. -/
def fnExactEstimatesUptoRow : OpenClaim := { program := "ytoddnjpbmefgnaa", sum := "1a3810ac6ffe1a0444dbf15cde61b104134d3615b977eec7a9b2588086b67246", func := "loop.example/pub-admissionsketches/laws.FnExactEstimates", spec := "fnExactEstimates", apart := false, narrowed := true }
def FnExactEstimatesUptoSaid : Prop := fnExactEstimatesUptoRow.holds Try.pinned (OpenSpec.upto fnExactEstimatesSpec)

/-- 'laws.FnNeverBelow', WHERE WHAT IT READS IS OF BULK AT MOST 1048576: true; the input reads as it did. -/
def fnNeverBelowUptoRow : OpenClaim := { program := "ytoddnjpbmefgnaa", sum := "1a3810ac6ffe1a0444dbf15cde61b104134d3615b977eec7a9b2588086b67246", func := "loop.example/pub-admissionsketches/laws.FnNeverBelow", spec := "fnNeverBelow", apart := false, narrowed := true }
def FnNeverBelowUptoSaid : Prop := fnNeverBelowUptoRow.holds Try.pinned (OpenSpec.upto fnNeverBelowSpec)

/-- 'laws.FnAdmitted', WHERE WHAT IT READS IS OF BULK AT MOST 1048576: true; the input reads as it did. -/
def fnAdmittedUptoRow : OpenClaim := { program := "ytoddnjpbmefgnaa", sum := "1a3810ac6ffe1a0444dbf15cde61b104134d3615b977eec7a9b2588086b67246", func := "loop.example/pub-admissionsketches/laws.FnAdmitted", spec := "fnAdmitted", apart := false, narrowed := true }
def FnAdmittedUptoSaid : Prop := fnAdmittedUptoRow.holds Try.pinned (OpenSpec.upto fnAdmittedSpec)

/-- 'laws.FnExactCosts', WHERE WHAT IT READS IS OF BULK AT MOST 1048576: true; the input reads as it did. -/
def fnExactCostsUptoRow : OpenClaim := { program := "ytoddnjpbmefgnaa", sum := "1a3810ac6ffe1a0444dbf15cde61b104134d3615b977eec7a9b2588086b67246", func := "loop.example/pub-admissionsketches/laws.FnExactCosts", spec := "fnExactCosts", unfollowed := true, recurses := true, apart := false, narrowed := true }
def FnExactCostsUptoSaid : Prop := fnExactCostsUptoRow.holds Try.pinned (OpenSpec.upto fnExactCostsSpec)

end Rows
end Go.Proofs.Ytoddnjpbmefgnaa
