/-
  No cell of these rows narrows 'for every input' (looked for: loops, veiled, ifaces, maps, wideKeys, modest, calm, conditions, laid).
  DERIVED. THE GIVEN ROWS OF THIS SEAT. 12 by the template 'for every input the law returns true; each argument reads behind the call as it read before'; 0 by the template 'total and deterministic' (their statements: YtnamdanomijdbaaTotals.lean).
  GIVEN WITH THE SEED: the statements are not yours to turn. If you find one false, say at which input.
  Laid BY PROGRAM, IN A SANDBOX (cutbox-rows.mjs): the forced cells as the released guide's own fill.sh prints them over the translation 30ab3fd450b1e8f9… (all of the seat's roots in one cut). By AI agents, Wed Nov 11 2026. No macro, syntax, notation, axiom, sorry.
-/
import Derived.Test.YtnamdanomijdbaaChecked
import GoSem.Claim
import GoSem.ClaimJoined
import GoSem.ClaimMapViews
import Derived.JoinedTies
import Derived.KernelRfl
namespace Go.Proofs.Ytnamdanomijdbaa
/- THE CELL 'sum', in the pinned program and in every row, IS THE sha256 OF THE DUMP (.gsa) THAT YtnamdanomijdbaaProg.lean LOADS. Nothing in Lean hashes anything: it is a label: what it is worth is what the hold of that sum in a sandbox is worth. -/
noncomputable def Try.pinned : Pinned := { name := "ytnamdanomijdbaa", sum := "30ab3fd450b1e8f997d2b3bf686a34342300d175e557e701e03243a3402bae04", checked := Try.checked }
namespace Rows
def none {H : Type} : Left H := { results := [], args := [] }

/-- 'laws.FnExactMax': WHATEVER THE INPUT: true; the input reads as it did. -/
def fnExactMaxSpec : ChangeSpec := { name := "fnExactMax", fn := fun _ => fun
  | [d1, d2] => { results := [.lit (.bool true)], args := [d1, d2] }
  | _ => none }
def fnExactMaxRow : OpenClaim := { program := "ytnamdanomijdbaa", sum := "30ab3fd450b1e8f997d2b3bf686a34342300d175e557e701e03243a3402bae04", func := "loop.example/lib-g01186/laws.FnExactMax", spec := "fnExactMax", inPlace := ["math.archMax", "math.Float64bits", "math.Float64frombits"], apart := false }
def FnExactMaxSaid : Prop := fnExactMaxRow.holds Try.pinned (OpenSpec.ofChange fnExactMaxSpec)

/-- ITS FALSE NEIGHBOUR: 'it returns false'. Refute it at one input. -/
def fnExactMaxWrong : ChangeSpec := { name := "fnExactMax", fn := fun _ => fun
  | [d1, d2] => { results := [.lit (.bool false)], args := [d1, d2] }
  | _ => none }
def FnExactMaxWrongFalsely : Prop := fnExactMaxRow.holds Try.pinned (OpenSpec.ofChange fnExactMaxWrong)

/-- 'laws.FnExactMin': WHATEVER THE INPUT: true; the input reads as it did. -/
def fnExactMinSpec : ChangeSpec := { name := "fnExactMin", fn := fun _ => fun
  | [d1, d2] => { results := [.lit (.bool true)], args := [d1, d2] }
  | _ => none }
def fnExactMinRow : OpenClaim := { program := "ytnamdanomijdbaa", sum := "30ab3fd450b1e8f997d2b3bf686a34342300d175e557e701e03243a3402bae04", func := "loop.example/lib-g01186/laws.FnExactMin", spec := "fnExactMin", inPlace := ["math.archMin", "math.Float64bits", "math.Float64frombits"], apart := false }
def FnExactMinSaid : Prop := fnExactMinRow.holds Try.pinned (OpenSpec.ofChange fnExactMinSpec)

/-- ITS FALSE NEIGHBOUR: 'it returns false'. Refute it at one input. -/
def fnExactMinWrong : ChangeSpec := { name := "fnExactMin", fn := fun _ => fun
  | [d1, d2] => { results := [.lit (.bool false)], args := [d1, d2] }
  | _ => none }
def FnExactMinWrongFalsely : Prop := fnExactMinRow.holds Try.pinned (OpenSpec.ofChange fnExactMinWrong)

/-- 'laws.FnMaxValue': WHATEVER THE INPUT: true; the input reads as it did. -/
def fnMaxValueSpec : ChangeSpec := { name := "fnMaxValue", fn := fun _ => fun
  | [d1, d2] => { results := [.lit (.bool true)], args := [d1, d2] }
  | _ => none }
def fnMaxValueRow : OpenClaim := { program := "ytnamdanomijdbaa", sum := "30ab3fd450b1e8f997d2b3bf686a34342300d175e557e701e03243a3402bae04", func := "loop.example/lib-g01186/laws.FnMaxValue", spec := "fnMaxValue", inPlace := ["math.archMax", "math.Float64bits", "math.Float64frombits"], apart := false }
def FnMaxValueSaid : Prop := fnMaxValueRow.holds Try.pinned (OpenSpec.ofChange fnMaxValueSpec)

/-- ITS FALSE NEIGHBOUR: 'it returns false'. Refute it at one input. -/
def fnMaxValueWrong : ChangeSpec := { name := "fnMaxValue", fn := fun _ => fun
  | [d1, d2] => { results := [.lit (.bool false)], args := [d1, d2] }
  | _ => none }
def FnMaxValueWrongFalsely : Prop := fnMaxValueRow.holds Try.pinned (OpenSpec.ofChange fnMaxValueWrong)

/-- 'laws.FnMinValue': WHATEVER THE INPUT: true; the input reads as it did. -/
def fnMinValueSpec : ChangeSpec := { name := "fnMinValue", fn := fun _ => fun
  | [d1, d2] => { results := [.lit (.bool true)], args := [d1, d2] }
  | _ => none }
def fnMinValueRow : OpenClaim := { program := "ytnamdanomijdbaa", sum := "30ab3fd450b1e8f997d2b3bf686a34342300d175e557e701e03243a3402bae04", func := "loop.example/lib-g01186/laws.FnMinValue", spec := "fnMinValue", inPlace := ["math.archMin", "math.Float64bits", "math.Float64frombits"], apart := false }
def FnMinValueSaid : Prop := fnMinValueRow.holds Try.pinned (OpenSpec.ofChange fnMinValueSpec)

/-- ITS FALSE NEIGHBOUR: 'it returns false'. Refute it at one input. -/
def fnMinValueWrong : ChangeSpec := { name := "fnMinValue", fn := fun _ => fun
  | [d1, d2] => { results := [.lit (.bool false)], args := [d1, d2] }
  | _ => none }
def FnMinValueWrongFalsely : Prop := fnMinValueRow.holds Try.pinned (OpenSpec.ofChange fnMinValueWrong)

/-- 'laws.FnMaxIsMin': WHATEVER THE INPUT: true; the input reads as it did. -/
def fnMaxIsMinSpec : ChangeSpec := { name := "fnMaxIsMin", fn := fun _ => fun
  | [d1, d2] => { results := [.lit (.bool true)], args := [d1, d2] }
  | _ => none }
def fnMaxIsMinRow : OpenClaim := { program := "ytnamdanomijdbaa", sum := "30ab3fd450b1e8f997d2b3bf686a34342300d175e557e701e03243a3402bae04", func := "loop.example/lib-g01186/laws.FnMaxIsMin", spec := "fnMaxIsMin", inPlace := ["math.archMax", "math.Float64bits", "math.Float64frombits", "math.archMin"], apart := false }
def FnMaxIsMinSaid : Prop := fnMaxIsMinRow.holds Try.pinned (OpenSpec.ofChange fnMaxIsMinSpec)

/-- ITS FALSE NEIGHBOUR: 'it returns false'. Refute it at one input. -/
def fnMaxIsMinWrong : ChangeSpec := { name := "fnMaxIsMin", fn := fun _ => fun
  | [d1, d2] => { results := [.lit (.bool false)], args := [d1, d2] }
  | _ => none }
def FnMaxIsMinWrongFalsely : Prop := fnMaxIsMinRow.holds Try.pinned (OpenSpec.ofChange fnMaxIsMinWrong)

/-- 'laws.FnMaxPair': WHATEVER THE INPUT: true; the input reads as it did. -/
def fnMaxPairSpec : ChangeSpec := { name := "fnMaxPair", fn := fun _ => fun
  | [d1, d2] => { results := [.lit (.bool true)], args := [d1, d2] }
  | _ => none }
def fnMaxPairRow : OpenClaim := { program := "ytnamdanomijdbaa", sum := "30ab3fd450b1e8f997d2b3bf686a34342300d175e557e701e03243a3402bae04", func := "loop.example/lib-g01186/laws.FnMaxPair", spec := "fnMaxPair", inPlace := ["math.archMax", "math.Float64bits", "math.Float64frombits", "math.archMin"], apart := false }
def FnMaxPairSaid : Prop := fnMaxPairRow.holds Try.pinned (OpenSpec.ofChange fnMaxPairSpec)

/-- ITS FALSE NEIGHBOUR: 'it returns false'. Refute it at one input. -/
def fnMaxPairWrong : ChangeSpec := { name := "fnMaxPair", fn := fun _ => fun
  | [d1, d2] => { results := [.lit (.bool false)], args := [d1, d2] }
  | _ => none }
def FnMaxPairWrongFalsely : Prop := fnMaxPairRow.holds Try.pinned (OpenSpec.ofChange fnMaxPairWrong)

/-- 'laws.FnMaxThree': WHATEVER THE INPUT: true; the input reads as it did. -/
def fnMaxThreeSpec : ChangeSpec := { name := "fnMaxThree", fn := fun _ => fun
  | [d1, d2, d3] => { results := [.lit (.bool true)], args := [d1, d2, d3] }
  | _ => none }
def fnMaxThreeRow : OpenClaim := { program := "ytnamdanomijdbaa", sum := "30ab3fd450b1e8f997d2b3bf686a34342300d175e557e701e03243a3402bae04", func := "loop.example/lib-g01186/laws.FnMaxThree", spec := "fnMaxThree", inPlace := ["math.archMax", "math.Float64bits", "math.Float64frombits", "math.archMin"], apart := false }
def FnMaxThreeSaid : Prop := fnMaxThreeRow.holds Try.pinned (OpenSpec.ofChange fnMaxThreeSpec)

/-- ITS FALSE NEIGHBOUR: 'it returns false'. Refute it at one input. -/
def fnMaxThreeWrong : ChangeSpec := { name := "fnMaxThree", fn := fun _ => fun
  | [d1, d2, d3] => { results := [.lit (.bool false)], args := [d1, d2, d3] }
  | _ => none }
def FnMaxThreeWrongFalsely : Prop := fnMaxThreeRow.holds Try.pinned (OpenSpec.ofChange fnMaxThreeWrong)

/-- 'laws.FnNextBack': WHATEVER THE INPUT: true; the input reads as it did. -/
def fnNextBackSpec : ChangeSpec := { name := "fnNextBack", fn := fun _ => fun
  | [d1, d2] => { results := [.lit (.bool true)], args := [d1, d2] }
  | _ => none }
def fnNextBackRow : OpenClaim := { program := "ytnamdanomijdbaa", sum := "30ab3fd450b1e8f997d2b3bf686a34342300d175e557e701e03243a3402bae04", func := "loop.example/lib-g01186/laws.FnNextBack", spec := "fnNextBack", inPlace := ["math.Float64frombits", "math.Float64bits"], apart := false }
def FnNextBackSaid : Prop := fnNextBackRow.holds Try.pinned (OpenSpec.ofChange fnNextBackSpec)

/-- ITS FALSE NEIGHBOUR: 'it returns false'. Refute it at one input. -/
def fnNextBackWrong : ChangeSpec := { name := "fnNextBack", fn := fun _ => fun
  | [d1, d2] => { results := [.lit (.bool false)], args := [d1, d2] }
  | _ => none }
def FnNextBackWrongFalsely : Prop := fnNextBackRow.holds Try.pinned (OpenSpec.ofChange fnNextBackWrong)

/-- 'laws.FnNextOpposite': WHATEVER THE INPUT: true; the input reads as it did. -/
def fnNextOppositeSpec : ChangeSpec := { name := "fnNextOpposite", fn := fun _ => fun
  | [d1, d2] => { results := [.lit (.bool true)], args := [d1, d2] }
  | _ => none }
def fnNextOppositeRow : OpenClaim := { program := "ytnamdanomijdbaa", sum := "30ab3fd450b1e8f997d2b3bf686a34342300d175e557e701e03243a3402bae04", func := "loop.example/lib-g01186/laws.FnNextOpposite", spec := "fnNextOpposite", inPlace := ["math.Float64frombits", "math.Float64bits"], apart := false }
def FnNextOppositeSaid : Prop := fnNextOppositeRow.holds Try.pinned (OpenSpec.ofChange fnNextOppositeSpec)

/-- ITS FALSE NEIGHBOUR: 'it returns false'. Refute it at one input. -/
def fnNextOppositeWrong : ChangeSpec := { name := "fnNextOpposite", fn := fun _ => fun
  | [d1, d2] => { results := [.lit (.bool false)], args := [d1, d2] }
  | _ => none }
def FnNextOppositeWrongFalsely : Prop := fnNextOppositeRow.holds Try.pinned (OpenSpec.ofChange fnNextOppositeWrong)

/-- 'laws.FnNextSteps': WHATEVER THE INPUT: true; the input reads as it did. -/
def fnNextStepsSpec : ChangeSpec := { name := "fnNextSteps", fn := fun _ => fun
  | [d1, d2] => { results := [.lit (.bool true)], args := [d1, d2] }
  | _ => none }
def fnNextStepsRow : OpenClaim := { program := "ytnamdanomijdbaa", sum := "30ab3fd450b1e8f997d2b3bf686a34342300d175e557e701e03243a3402bae04", func := "loop.example/lib-g01186/laws.FnNextSteps", spec := "fnNextSteps", inPlace := ["math.Float64frombits", "math.Float64bits"], apart := false }
def FnNextStepsSaid : Prop := fnNextStepsRow.holds Try.pinned (OpenSpec.ofChange fnNextStepsSpec)

/-- ITS FALSE NEIGHBOUR: 'it returns false'. Refute it at one input. -/
def fnNextStepsWrong : ChangeSpec := { name := "fnNextSteps", fn := fun _ => fun
  | [d1, d2] => { results := [.lit (.bool false)], args := [d1, d2] }
  | _ => none }
def FnNextStepsWrongFalsely : Prop := fnNextStepsRow.holds Try.pinned (OpenSpec.ofChange fnNextStepsWrong)

/-- 'laws.FnNext32Steps': WHATEVER THE INPUT: true; the input reads as it did. -/
def fnNext32StepsSpec : ChangeSpec := { name := "fnNext32Steps", fn := fun _ => fun
  | [d1, d2] => { results := [.lit (.bool true)], args := [d1, d2] }
  | _ => none }
def fnNext32StepsRow : OpenClaim := { program := "ytnamdanomijdbaa", sum := "30ab3fd450b1e8f997d2b3bf686a34342300d175e557e701e03243a3402bae04", func := "loop.example/lib-g01186/laws.FnNext32Steps", spec := "fnNext32Steps", inPlace := ["math.Float64frombits", "math.Float32frombits", "math.Float64bits", "math.Float32bits"], apart := false }
def FnNext32StepsSaid : Prop := fnNext32StepsRow.holds Try.pinned (OpenSpec.ofChange fnNext32StepsSpec)

/-- ITS FALSE NEIGHBOUR: 'it returns false'. Refute it at one input. -/
def fnNext32StepsWrong : ChangeSpec := { name := "fnNext32Steps", fn := fun _ => fun
  | [d1, d2] => { results := [.lit (.bool false)], args := [d1, d2] }
  | _ => none }
def FnNext32StepsWrongFalsely : Prop := fnNext32StepsRow.holds Try.pinned (OpenSpec.ofChange fnNext32StepsWrong)

/-- 'laws.FnNext32Back': WHATEVER THE INPUT: true; the input reads as it did. -/
def fnNext32BackSpec : ChangeSpec := { name := "fnNext32Back", fn := fun _ => fun
  | [d1, d2] => { results := [.lit (.bool true)], args := [d1, d2] }
  | _ => none }
def fnNext32BackRow : OpenClaim := { program := "ytnamdanomijdbaa", sum := "30ab3fd450b1e8f997d2b3bf686a34342300d175e557e701e03243a3402bae04", func := "loop.example/lib-g01186/laws.FnNext32Back", spec := "fnNext32Back", inPlace := ["math.Float64frombits", "math.Float32frombits", "math.Float64bits", "math.Float32bits"], apart := false }
def FnNext32BackSaid : Prop := fnNext32BackRow.holds Try.pinned (OpenSpec.ofChange fnNext32BackSpec)

/-- ITS FALSE NEIGHBOUR: 'it returns false'. Refute it at one input. -/
def fnNext32BackWrong : ChangeSpec := { name := "fnNext32Back", fn := fun _ => fun
  | [d1, d2] => { results := [.lit (.bool false)], args := [d1, d2] }
  | _ => none }
def FnNext32BackWrongFalsely : Prop := fnNext32BackRow.holds Try.pinned (OpenSpec.ofChange fnNext32BackWrong)

/- THE SECOND FORM. 'bulk': how many values and letters a reading holds, each counted each time it is reached (what is shared counts as often as it is met; a slice's spare places count too). A statement '..UptoSaid' is the law's where the arguments, and the package variables that the reading takes, are together of bulk at most 1048576: NARROWER than '..Said'. Prove '..Said' where nothing that the law and all that it calls make is longer than what came in: it says more and counts as full. Else prove '..UptoSaid'. A law counts once. -/
mutual
def uptoBulk {H : Type} : DataW H → Nat
  | .lit (.string bytes) => bytes.length + 1
  | .lit _ => 1
  | .nil => 1
  | .ptr d => uptoBulk d + 1
  | .slice elems spare => uptoBulkAll elems + uptoBulkAll spare + 1
  | .agg parts => uptoBulkAll parts + 1
  | .iface _ d => uptoBulk d + 1
  | .map entries => uptoBulkEntries entries + 1
  | .held _ => 1
def uptoBulkAll {H : Type} : List (DataW H) → Nat
  | [] => 0
  | d :: r => uptoBulk d + uptoBulkAll r
def uptoBulkEntries {H : Type} : List (Lit × DataW H) → Nat
  | [] => 0
  | x :: r => uptoBulkEntry x + uptoBulkEntries r
def uptoBulkEntry {H : Type} : Lit × DataW H → Nat
  | (.string bytes, d) => bytes.length + uptoBulk d + 1
  | (_, d) => uptoBulk d + 1
 end
def uptoSmall : (H : Type) → List (DataW H) → Bool := fun _ ds => decide (uptoBulkAll ds ≤ 1048576)
def OpenSpec.upto (s : _root_.Go.ChangeSpec) : _root_.Go.OpenSpec := { _root_.Go.OpenSpec.ofChange s with cond := some uptoSmall }

/-- 'laws.FnExactMax', WHERE WHAT IT READS IS OF BULK AT MOST 1048576: true; the input reads as it did. -/
def fnExactMaxUptoRow : OpenClaim := { program := "ytnamdanomijdbaa", sum := "30ab3fd450b1e8f997d2b3bf686a34342300d175e557e701e03243a3402bae04", func := "loop.example/lib-g01186/laws.FnExactMax", spec := "fnExactMax", inPlace := ["math.archMax", "math.Float64bits", "math.Float64frombits"], apart := false, narrowed := true }
def FnExactMaxUptoSaid : Prop := fnExactMaxUptoRow.holds Try.pinned (OpenSpec.upto fnExactMaxSpec)

/-- 'laws.FnExactMin', WHERE WHAT IT READS IS OF BULK AT MOST 1048576: true; the input reads as it did. -/
def fnExactMinUptoRow : OpenClaim := { program := "ytnamdanomijdbaa", sum := "30ab3fd450b1e8f997d2b3bf686a34342300d175e557e701e03243a3402bae04", func := "loop.example/lib-g01186/laws.FnExactMin", spec := "fnExactMin", inPlace := ["math.archMin", "math.Float64bits", "math.Float64frombits"], apart := false, narrowed := true }
def FnExactMinUptoSaid : Prop := fnExactMinUptoRow.holds Try.pinned (OpenSpec.upto fnExactMinSpec)

/-- 'laws.FnMaxValue', WHERE WHAT IT READS IS OF BULK AT MOST 1048576: true; the input reads as it did. -/
def fnMaxValueUptoRow : OpenClaim := { program := "ytnamdanomijdbaa", sum := "30ab3fd450b1e8f997d2b3bf686a34342300d175e557e701e03243a3402bae04", func := "loop.example/lib-g01186/laws.FnMaxValue", spec := "fnMaxValue", inPlace := ["math.archMax", "math.Float64bits", "math.Float64frombits"], apart := false, narrowed := true }
def FnMaxValueUptoSaid : Prop := fnMaxValueUptoRow.holds Try.pinned (OpenSpec.upto fnMaxValueSpec)

/-- 'laws.FnMinValue', WHERE WHAT IT READS IS OF BULK AT MOST 1048576: true; the input reads as it did. -/
def fnMinValueUptoRow : OpenClaim := { program := "ytnamdanomijdbaa", sum := "30ab3fd450b1e8f997d2b3bf686a34342300d175e557e701e03243a3402bae04", func := "loop.example/lib-g01186/laws.FnMinValue", spec := "fnMinValue", inPlace := ["math.archMin", "math.Float64bits", "math.Float64frombits"], apart := false, narrowed := true }
def FnMinValueUptoSaid : Prop := fnMinValueUptoRow.holds Try.pinned (OpenSpec.upto fnMinValueSpec)

/-- 'laws.FnMaxIsMin', WHERE WHAT IT READS IS OF BULK AT MOST 1048576: true; the input reads as it did. -/
def fnMaxIsMinUptoRow : OpenClaim := { program := "ytnamdanomijdbaa", sum := "30ab3fd450b1e8f997d2b3bf686a34342300d175e557e701e03243a3402bae04", func := "loop.example/lib-g01186/laws.FnMaxIsMin", spec := "fnMaxIsMin", inPlace := ["math.archMax", "math.Float64bits", "math.Float64frombits", "math.archMin"], apart := false, narrowed := true }
def FnMaxIsMinUptoSaid : Prop := fnMaxIsMinUptoRow.holds Try.pinned (OpenSpec.upto fnMaxIsMinSpec)

/-- 'laws.FnMaxPair', WHERE WHAT IT READS IS OF BULK AT MOST 1048576: true; the input reads as it did. -/
def fnMaxPairUptoRow : OpenClaim := { program := "ytnamdanomijdbaa", sum := "30ab3fd450b1e8f997d2b3bf686a34342300d175e557e701e03243a3402bae04", func := "loop.example/lib-g01186/laws.FnMaxPair", spec := "fnMaxPair", inPlace := ["math.archMax", "math.Float64bits", "math.Float64frombits", "math.archMin"], apart := false, narrowed := true }
def FnMaxPairUptoSaid : Prop := fnMaxPairUptoRow.holds Try.pinned (OpenSpec.upto fnMaxPairSpec)

/-- 'laws.FnMaxThree', WHERE WHAT IT READS IS OF BULK AT MOST 1048576: true; the input reads as it did. -/
def fnMaxThreeUptoRow : OpenClaim := { program := "ytnamdanomijdbaa", sum := "30ab3fd450b1e8f997d2b3bf686a34342300d175e557e701e03243a3402bae04", func := "loop.example/lib-g01186/laws.FnMaxThree", spec := "fnMaxThree", inPlace := ["math.archMax", "math.Float64bits", "math.Float64frombits", "math.archMin"], apart := false, narrowed := true }
def FnMaxThreeUptoSaid : Prop := fnMaxThreeUptoRow.holds Try.pinned (OpenSpec.upto fnMaxThreeSpec)

/-- 'laws.FnNextBack', WHERE WHAT IT READS IS OF BULK AT MOST 1048576: true; the input reads as it did. -/
def fnNextBackUptoRow : OpenClaim := { program := "ytnamdanomijdbaa", sum := "30ab3fd450b1e8f997d2b3bf686a34342300d175e557e701e03243a3402bae04", func := "loop.example/lib-g01186/laws.FnNextBack", spec := "fnNextBack", inPlace := ["math.Float64frombits", "math.Float64bits"], apart := false, narrowed := true }
def FnNextBackUptoSaid : Prop := fnNextBackUptoRow.holds Try.pinned (OpenSpec.upto fnNextBackSpec)

/-- 'laws.FnNextOpposite', WHERE WHAT IT READS IS OF BULK AT MOST 1048576: true; the input reads as it did. -/
def fnNextOppositeUptoRow : OpenClaim := { program := "ytnamdanomijdbaa", sum := "30ab3fd450b1e8f997d2b3bf686a34342300d175e557e701e03243a3402bae04", func := "loop.example/lib-g01186/laws.FnNextOpposite", spec := "fnNextOpposite", inPlace := ["math.Float64frombits", "math.Float64bits"], apart := false, narrowed := true }
def FnNextOppositeUptoSaid : Prop := fnNextOppositeUptoRow.holds Try.pinned (OpenSpec.upto fnNextOppositeSpec)

/-- 'laws.FnNextSteps', WHERE WHAT IT READS IS OF BULK AT MOST 1048576: true; the input reads as it did. -/
def fnNextStepsUptoRow : OpenClaim := { program := "ytnamdanomijdbaa", sum := "30ab3fd450b1e8f997d2b3bf686a34342300d175e557e701e03243a3402bae04", func := "loop.example/lib-g01186/laws.FnNextSteps", spec := "fnNextSteps", inPlace := ["math.Float64frombits", "math.Float64bits"], apart := false, narrowed := true }
def FnNextStepsUptoSaid : Prop := fnNextStepsUptoRow.holds Try.pinned (OpenSpec.upto fnNextStepsSpec)

/-- 'laws.FnNext32Steps', WHERE WHAT IT READS IS OF BULK AT MOST 1048576: true; the input reads as it did. -/
def fnNext32StepsUptoRow : OpenClaim := { program := "ytnamdanomijdbaa", sum := "30ab3fd450b1e8f997d2b3bf686a34342300d175e557e701e03243a3402bae04", func := "loop.example/lib-g01186/laws.FnNext32Steps", spec := "fnNext32Steps", inPlace := ["math.Float64frombits", "math.Float32frombits", "math.Float64bits", "math.Float32bits"], apart := false, narrowed := true }
def FnNext32StepsUptoSaid : Prop := fnNext32StepsUptoRow.holds Try.pinned (OpenSpec.upto fnNext32StepsSpec)

/-- 'laws.FnNext32Back', WHERE WHAT IT READS IS OF BULK AT MOST 1048576: true; the input reads as it did. -/
def fnNext32BackUptoRow : OpenClaim := { program := "ytnamdanomijdbaa", sum := "30ab3fd450b1e8f997d2b3bf686a34342300d175e557e701e03243a3402bae04", func := "loop.example/lib-g01186/laws.FnNext32Back", spec := "fnNext32Back", inPlace := ["math.Float64frombits", "math.Float32frombits", "math.Float64bits", "math.Float32bits"], apart := false, narrowed := true }
def FnNext32BackUptoSaid : Prop := fnNext32BackUptoRow.holds Try.pinned (OpenSpec.upto fnNext32BackSpec)

end Rows
end Go.Proofs.Ytnamdanomijdbaa
