/-
  No cell of these rows narrows 'for every input' (looked for: loops, veiled, ifaces, maps, wideKeys, modest, calm, conditions, laid).
  DERIVED. THE GIVEN ROWS OF THIS SEAT. 12 by the template 'for every input the law returns true; each argument reads behind the call as it read before'; 0 by the template 'total and deterministic' (their statements: YtndnjibaamgcfaaTotals.lean).
  GIVEN WITH THE SEED: the statements are not yours to turn. If you find one false, say at which input.
  Laid BY PROGRAM, IN A SANDBOX (cutbox-rows.mjs): the forced cells as the released guide's own fill.sh prints them over the translation 8de4d078c3020cb8… (all of the seat's roots in one cut). By AI agents, Wed Nov 11 2026. No macro, syntax, notation, axiom, sorry.
-/
import Derived.Test.YtndnjibaamgcfaaChecked
import GoSem.Claim
import GoSem.ClaimJoined
import GoSem.ClaimMapViews
import Derived.JoinedTies
import Derived.KernelRfl
namespace Go.Proofs.Ytndnjibaamgcfaa
/- THE CELL 'sum', in the pinned program and in every row, IS THE sha256 OF THE DUMP (.gsa) THAT YtndnjibaamgcfaaProg.lean LOADS. Nothing in Lean hashes anything: it is a label: what it is worth is what the hold of that sum in a sandbox is worth. -/
noncomputable def Try.pinned : Pinned := { name := "ytndnjibaamgcfaa", sum := "8de4d078c3020cb82e4ad7c16ddce85865b2c50e096607d9f738e0a94a446886", checked := Try.checked }
namespace Rows
def none {H : Type} : Left H := { results := [], args := [] }

/-- 'laws.FnBitsRise': WHATEVER THE INPUT: true; the input reads as it did. -/
def fnBitsRiseSpec : ChangeSpec := { name := "fnBitsRise", fn := fun _ => fun
  | [d1, d2] => { results := [.lit (.bool true)], args := [d1, d2] }
  | _ => none }
def fnBitsRiseRow : OpenClaim := { program := "ytndnjibaamgcfaa", sum := "8de4d078c3020cb82e4ad7c16ddce85865b2c50e096607d9f738e0a94a446886", func := "loop.example/lib-g01186/laws.FnBitsRise", spec := "fnBitsRise", inPlace := ["math.Float64bits"], apart := false }
def FnBitsRiseSaid : Prop := fnBitsRiseRow.holds Try.pinned (OpenSpec.ofChange fnBitsRiseSpec)

/-- ITS FALSE NEIGHBOUR: 'it returns false'. Refute it at one input. -/
def fnBitsRiseWrong : ChangeSpec := { name := "fnBitsRise", fn := fun _ => fun
  | [d1, d2] => { results := [.lit (.bool false)], args := [d1, d2] }
  | _ => none }
def FnBitsRiseWrongFalsely : Prop := fnBitsRiseRow.holds Try.pinned (OpenSpec.ofChange fnBitsRiseWrong)

/-- 'laws.FnExactNaN': WHATEVER THE INPUT: true; the input reads as it did. -/
def fnExactNaNSpec : ChangeSpec := { name := "fnExactNaN", fn := fun _ => fun
  | [] => { results := [.lit (.bool true)], args := [] }
  | _ => none }
def fnExactNaNRow : OpenClaim := { program := "ytndnjibaamgcfaa", sum := "8de4d078c3020cb82e4ad7c16ddce85865b2c50e096607d9f738e0a94a446886", func := "loop.example/lib-g01186/laws.FnExactNaN", spec := "fnExactNaN", inPlace := ["math.Float64frombits"], apart := false }
def FnExactNaNSaid : Prop := fnExactNaNRow.holds Try.pinned (OpenSpec.ofChange fnExactNaNSpec)

/-- ITS FALSE NEIGHBOUR: 'it returns false'. Refute it at one input. -/
def fnExactNaNWrong : ChangeSpec := { name := "fnExactNaN", fn := fun _ => fun
  | [] => { results := [.lit (.bool false)], args := [] }
  | _ => none }
def FnExactNaNWrongFalsely : Prop := fnExactNaNRow.holds Try.pinned (OpenSpec.ofChange fnExactNaNWrong)

/-- 'laws.FnSignbitValue': WHATEVER THE INPUT: true; the input reads as it did. -/
def fnSignbitValueSpec : ChangeSpec := { name := "fnSignbitValue", fn := fun _ => fun
  | [d] => { results := [.lit (.bool true)], args := [d] }
  | _ => none }
def fnSignbitValueRow : OpenClaim := { program := "ytndnjibaamgcfaa", sum := "8de4d078c3020cb82e4ad7c16ddce85865b2c50e096607d9f738e0a94a446886", func := "loop.example/lib-g01186/laws.FnSignbitValue", spec := "fnSignbitValue", inPlace := ["math.Float64bits"], apart := false }
def FnSignbitValueSaid : Prop := fnSignbitValueRow.holds Try.pinned (OpenSpec.ofChange fnSignbitValueSpec)

/-- ITS FALSE NEIGHBOUR: 'it returns false'. Refute it at one input. -/
def fnSignbitValueWrong : ChangeSpec := { name := "fnSignbitValue", fn := fun _ => fun
  | [d] => { results := [.lit (.bool false)], args := [d] }
  | _ => none }
def FnSignbitValueWrongFalsely : Prop := fnSignbitValueRow.holds Try.pinned (OpenSpec.ofChange fnSignbitValueWrong)

/-- 'laws.FnAbsValue': WHATEVER THE INPUT: true; the input reads as it did. -/
def fnAbsValueSpec : ChangeSpec := { name := "fnAbsValue", fn := fun _ => fun
  | [d] => { results := [.lit (.bool true)], args := [d] }
  | _ => none }
def fnAbsValueRow : OpenClaim := { program := "ytndnjibaamgcfaa", sum := "8de4d078c3020cb82e4ad7c16ddce85865b2c50e096607d9f738e0a94a446886", func := "loop.example/lib-g01186/laws.FnAbsValue", spec := "fnAbsValue", inPlace := ["math.Float64bits", "math.Float64frombits"], apart := false }
def FnAbsValueSaid : Prop := fnAbsValueRow.holds Try.pinned (OpenSpec.ofChange fnAbsValueSpec)

/-- ITS FALSE NEIGHBOUR: 'it returns false'. Refute it at one input. -/
def fnAbsValueWrong : ChangeSpec := { name := "fnAbsValue", fn := fun _ => fun
  | [d] => { results := [.lit (.bool false)], args := [d] }
  | _ => none }
def FnAbsValueWrongFalsely : Prop := fnAbsValueRow.holds Try.pinned (OpenSpec.ofChange fnAbsValueWrong)

/-- 'laws.FnBits32Back': WHATEVER THE INPUT: true; the input reads as it did. -/
def fnBits32BackSpec : ChangeSpec := { name := "fnBits32Back", fn := fun _ => fun
  | [d] => { results := [.lit (.bool true)], args := [d] }
  | _ => none }
def fnBits32BackRow : OpenClaim := { program := "ytndnjibaamgcfaa", sum := "8de4d078c3020cb82e4ad7c16ddce85865b2c50e096607d9f738e0a94a446886", func := "loop.example/lib-g01186/laws.FnBits32Back", spec := "fnBits32Back", inPlace := ["math.Float32frombits", "math.Float32bits"], apart := false }
def FnBits32BackSaid : Prop := fnBits32BackRow.holds Try.pinned (OpenSpec.ofChange fnBits32BackSpec)

/-- ITS FALSE NEIGHBOUR: 'it returns false'. Refute it at one input. -/
def fnBits32BackWrong : ChangeSpec := { name := "fnBits32Back", fn := fun _ => fun
  | [d] => { results := [.lit (.bool false)], args := [d] }
  | _ => none }
def FnBits32BackWrongFalsely : Prop := fnBits32BackRow.holds Try.pinned (OpenSpec.ofChange fnBits32BackWrong)

/-- 'laws.FnBitsBack': WHATEVER THE INPUT: true; the input reads as it did. -/
def fnBitsBackSpec : ChangeSpec := { name := "fnBitsBack", fn := fun _ => fun
  | [d] => { results := [.lit (.bool true)], args := [d] }
  | _ => none }
def fnBitsBackRow : OpenClaim := { program := "ytndnjibaamgcfaa", sum := "8de4d078c3020cb82e4ad7c16ddce85865b2c50e096607d9f738e0a94a446886", func := "loop.example/lib-g01186/laws.FnBitsBack", spec := "fnBitsBack", inPlace := ["math.Float64frombits", "math.Float64bits"], apart := false }
def FnBitsBackSaid : Prop := fnBitsBackRow.holds Try.pinned (OpenSpec.ofChange fnBitsBackSpec)

/-- ITS FALSE NEIGHBOUR: 'it returns false'. Refute it at one input. -/
def fnBitsBackWrong : ChangeSpec := { name := "fnBitsBack", fn := fun _ => fun
  | [d] => { results := [.lit (.bool false)], args := [d] }
  | _ => none }
def FnBitsBackWrongFalsely : Prop := fnBitsBackRow.holds Try.pinned (OpenSpec.ofChange fnBitsBackWrong)

/-- 'laws.FnCopysignValue': WHATEVER THE INPUT: true; the input reads as it did. -/
def fnCopysignValueSpec : ChangeSpec := { name := "fnCopysignValue", fn := fun _ => fun
  | [d1, d2] => { results := [.lit (.bool true)], args := [d1, d2] }
  | _ => none }
def fnCopysignValueRow : OpenClaim := { program := "ytndnjibaamgcfaa", sum := "8de4d078c3020cb82e4ad7c16ddce85865b2c50e096607d9f738e0a94a446886", func := "loop.example/lib-g01186/laws.FnCopysignValue", spec := "fnCopysignValue", inPlace := ["math.Float64bits", "math.Float64frombits"], apart := false }
def FnCopysignValueSaid : Prop := fnCopysignValueRow.holds Try.pinned (OpenSpec.ofChange fnCopysignValueSpec)

/-- ITS FALSE NEIGHBOUR: 'it returns false'. Refute it at one input. -/
def fnCopysignValueWrong : ChangeSpec := { name := "fnCopysignValue", fn := fun _ => fun
  | [d1, d2] => { results := [.lit (.bool false)], args := [d1, d2] }
  | _ => none }
def FnCopysignValueWrongFalsely : Prop := fnCopysignValueRow.holds Try.pinned (OpenSpec.ofChange fnCopysignValueWrong)

/-- 'laws.FnExactAbs': WHATEVER THE INPUT: true; the input reads as it did. -/
def fnExactAbsSpec : ChangeSpec := { name := "fnExactAbs", fn := fun _ => fun
  | [d] => { results := [.lit (.bool true)], args := [d] }
  | _ => none }
def fnExactAbsRow : OpenClaim := { program := "ytndnjibaamgcfaa", sum := "8de4d078c3020cb82e4ad7c16ddce85865b2c50e096607d9f738e0a94a446886", func := "loop.example/lib-g01186/laws.FnExactAbs", spec := "fnExactAbs", inPlace := ["math.Float64bits", "math.Float64frombits"], apart := false }
def FnExactAbsSaid : Prop := fnExactAbsRow.holds Try.pinned (OpenSpec.ofChange fnExactAbsSpec)

/-- ITS FALSE NEIGHBOUR: 'it returns false'. Refute it at one input. -/
def fnExactAbsWrong : ChangeSpec := { name := "fnExactAbs", fn := fun _ => fun
  | [d] => { results := [.lit (.bool false)], args := [d] }
  | _ => none }
def FnExactAbsWrongFalsely : Prop := fnExactAbsRow.holds Try.pinned (OpenSpec.ofChange fnExactAbsWrong)

/-- 'laws.FnNumberBack': WHATEVER THE INPUT: true; the input reads as it did. -/
def fnNumberBackSpec : ChangeSpec := { name := "fnNumberBack", fn := fun _ => fun
  | [d] => { results := [.lit (.bool true)], args := [d] }
  | _ => none }
def fnNumberBackRow : OpenClaim := { program := "ytndnjibaamgcfaa", sum := "8de4d078c3020cb82e4ad7c16ddce85865b2c50e096607d9f738e0a94a446886", func := "loop.example/lib-g01186/laws.FnNumberBack", spec := "fnNumberBack", inPlace := ["math.Float64bits", "math.Float64frombits"], apart := false }
def FnNumberBackSaid : Prop := fnNumberBackRow.holds Try.pinned (OpenSpec.ofChange fnNumberBackSpec)

/-- ITS FALSE NEIGHBOUR: 'it returns false'. Refute it at one input. -/
def fnNumberBackWrong : ChangeSpec := { name := "fnNumberBack", fn := fun _ => fun
  | [d] => { results := [.lit (.bool false)], args := [d] }
  | _ => none }
def FnNumberBackWrongFalsely : Prop := fnNumberBackRow.holds Try.pinned (OpenSpec.ofChange fnNumberBackWrong)

/-- 'laws.FnExactIsNaN': WHATEVER THE INPUT: true; the input reads as it did. -/
def fnExactIsNaNSpec : ChangeSpec := { name := "fnExactIsNaN", fn := fun _ => fun
  | [d] => { results := [.lit (.bool true)], args := [d] }
  | _ => none }
def fnExactIsNaNRow : OpenClaim := { program := "ytndnjibaamgcfaa", sum := "8de4d078c3020cb82e4ad7c16ddce85865b2c50e096607d9f738e0a94a446886", func := "loop.example/lib-g01186/laws.FnExactIsNaN", spec := "fnExactIsNaN", apart := false }
def FnExactIsNaNSaid : Prop := fnExactIsNaNRow.holds Try.pinned (OpenSpec.ofChange fnExactIsNaNSpec)

/-- ITS FALSE NEIGHBOUR: 'it returns false'. Refute it at one input. -/
def fnExactIsNaNWrong : ChangeSpec := { name := "fnExactIsNaN", fn := fun _ => fun
  | [d] => { results := [.lit (.bool false)], args := [d] }
  | _ => none }
def FnExactIsNaNWrongFalsely : Prop := fnExactIsNaNRow.holds Try.pinned (OpenSpec.ofChange fnExactIsNaNWrong)

/-- 'laws.FnSignbitBits': WHATEVER THE INPUT: true; the input reads as it did. -/
def fnSignbitBitsSpec : ChangeSpec := { name := "fnSignbitBits", fn := fun _ => fun
  | [d] => { results := [.lit (.bool true)], args := [d] }
  | _ => none }
def fnSignbitBitsRow : OpenClaim := { program := "ytndnjibaamgcfaa", sum := "8de4d078c3020cb82e4ad7c16ddce85865b2c50e096607d9f738e0a94a446886", func := "loop.example/lib-g01186/laws.FnSignbitBits", spec := "fnSignbitBits", inPlace := ["math.Float64frombits", "math.Float64bits"], apart := false }
def FnSignbitBitsSaid : Prop := fnSignbitBitsRow.holds Try.pinned (OpenSpec.ofChange fnSignbitBitsSpec)

/-- ITS FALSE NEIGHBOUR: 'it returns false'. Refute it at one input. -/
def fnSignbitBitsWrong : ChangeSpec := { name := "fnSignbitBits", fn := fun _ => fun
  | [d] => { results := [.lit (.bool false)], args := [d] }
  | _ => none }
def FnSignbitBitsWrongFalsely : Prop := fnSignbitBitsRow.holds Try.pinned (OpenSpec.ofChange fnSignbitBitsWrong)

/-- 'laws.FnExactInf': WHATEVER THE INPUT: true; the input reads as it did. -/
def fnExactInfSpec : ChangeSpec := { name := "fnExactInf", fn := fun _ => fun
  | [d] => { results := [.lit (.bool true)], args := [d] }
  | _ => none }
def fnExactInfRow : OpenClaim := { program := "ytndnjibaamgcfaa", sum := "8de4d078c3020cb82e4ad7c16ddce85865b2c50e096607d9f738e0a94a446886", func := "loop.example/lib-g01186/laws.FnExactInf", spec := "fnExactInf", inPlace := ["math.Float64frombits"], apart := false }
def FnExactInfSaid : Prop := fnExactInfRow.holds Try.pinned (OpenSpec.ofChange fnExactInfSpec)

/-- ITS FALSE NEIGHBOUR: 'it returns false'. Refute it at one input. -/
def fnExactInfWrong : ChangeSpec := { name := "fnExactInf", fn := fun _ => fun
  | [d] => { results := [.lit (.bool false)], args := [d] }
  | _ => none }
def FnExactInfWrongFalsely : Prop := fnExactInfRow.holds Try.pinned (OpenSpec.ofChange fnExactInfWrong)

/- THE SECOND FORM. 'bulk': how many values and letters a reading holds, each counted each time it is reached (what is shared counts as often as it is met; a slice's spare places count too). A statement '..UptoSaid' is the law's where the arguments, and the package variables that the reading takes, are together of bulk at most 1048576: NARROWER than '..Said'. Prove '..Said' where nothing that the law and all that it calls make is longer than what came in: it says more and counts as full. Else prove '..UptoSaid'. A law counts once. -/
mutual
def uptoBulk {H : Type} : DataW H → Nat
  | .lit (.string bytes) => bytes.length + 1
  | .lit _ => 1
  | .nil => 1
  | .ptr d => uptoBulk d + 1
  | .slice elems spare => uptoBulkAll elems + uptoBulkAll spare + 1
  | .agg parts => uptoBulkAll parts + 1
  | .iface _ d => uptoBulk d + 1
  | .map entries => uptoBulkEntries entries + 1
  | .held _ => 1
def uptoBulkAll {H : Type} : List (DataW H) → Nat
  | [] => 0
  | d :: r => uptoBulk d + uptoBulkAll r
def uptoBulkEntries {H : Type} : List (Lit × DataW H) → Nat
  | [] => 0
  | x :: r => uptoBulkEntry x + uptoBulkEntries r
def uptoBulkEntry {H : Type} : Lit × DataW H → Nat
  | (.string bytes, d) => bytes.length + uptoBulk d + 1
  | (_, d) => uptoBulk d + 1
 end
def uptoSmall : (H : Type) → List (DataW H) → Bool := fun _ ds => decide (uptoBulkAll ds ≤ 1048576)
def OpenSpec.upto (s : _root_.Go.ChangeSpec) : _root_.Go.OpenSpec := { _root_.Go.OpenSpec.ofChange s with cond := some uptoSmall }

/-- 'laws.FnBitsRise', WHERE WHAT IT READS IS OF BULK AT MOST 1048576: true; the input reads as it did. -/
def fnBitsRiseUptoRow : OpenClaim := { program := "ytndnjibaamgcfaa", sum := "8de4d078c3020cb82e4ad7c16ddce85865b2c50e096607d9f738e0a94a446886", func := "loop.example/lib-g01186/laws.FnBitsRise", spec := "fnBitsRise", inPlace := ["math.Float64bits"], apart := false, narrowed := true }
def FnBitsRiseUptoSaid : Prop := fnBitsRiseUptoRow.holds Try.pinned (OpenSpec.upto fnBitsRiseSpec)

/-- 'laws.FnExactNaN', WHERE WHAT IT READS IS OF BULK AT MOST 1048576: true; the input reads as it did. -/
def fnExactNaNUptoRow : OpenClaim := { program := "ytndnjibaamgcfaa", sum := "8de4d078c3020cb82e4ad7c16ddce85865b2c50e096607d9f738e0a94a446886", func := "loop.example/lib-g01186/laws.FnExactNaN", spec := "fnExactNaN", inPlace := ["math.Float64frombits"], apart := false, narrowed := true }
def FnExactNaNUptoSaid : Prop := fnExactNaNUptoRow.holds Try.pinned (OpenSpec.upto fnExactNaNSpec)

/-- 'laws.FnSignbitValue', WHERE WHAT IT READS IS OF BULK AT MOST 1048576: true; the input reads as it did. -/
def fnSignbitValueUptoRow : OpenClaim := { program := "ytndnjibaamgcfaa", sum := "8de4d078c3020cb82e4ad7c16ddce85865b2c50e096607d9f738e0a94a446886", func := "loop.example/lib-g01186/laws.FnSignbitValue", spec := "fnSignbitValue", inPlace := ["math.Float64bits"], apart := false, narrowed := true }
def FnSignbitValueUptoSaid : Prop := fnSignbitValueUptoRow.holds Try.pinned (OpenSpec.upto fnSignbitValueSpec)

/-- 'laws.FnAbsValue', WHERE WHAT IT READS IS OF BULK AT MOST 1048576: true; the input reads as it did. -/
def fnAbsValueUptoRow : OpenClaim := { program := "ytndnjibaamgcfaa", sum := "8de4d078c3020cb82e4ad7c16ddce85865b2c50e096607d9f738e0a94a446886", func := "loop.example/lib-g01186/laws.FnAbsValue", spec := "fnAbsValue", inPlace := ["math.Float64bits", "math.Float64frombits"], apart := false, narrowed := true }
def FnAbsValueUptoSaid : Prop := fnAbsValueUptoRow.holds Try.pinned (OpenSpec.upto fnAbsValueSpec)

/-- 'laws.FnBits32Back', WHERE WHAT IT READS IS OF BULK AT MOST 1048576: true; the input reads as it did. -/
def fnBits32BackUptoRow : OpenClaim := { program := "ytndnjibaamgcfaa", sum := "8de4d078c3020cb82e4ad7c16ddce85865b2c50e096607d9f738e0a94a446886", func := "loop.example/lib-g01186/laws.FnBits32Back", spec := "fnBits32Back", inPlace := ["math.Float32frombits", "math.Float32bits"], apart := false, narrowed := true }
def FnBits32BackUptoSaid : Prop := fnBits32BackUptoRow.holds Try.pinned (OpenSpec.upto fnBits32BackSpec)

/-- 'laws.FnBitsBack', WHERE WHAT IT READS IS OF BULK AT MOST 1048576: true; the input reads as it did. -/
def fnBitsBackUptoRow : OpenClaim := { program := "ytndnjibaamgcfaa", sum := "8de4d078c3020cb82e4ad7c16ddce85865b2c50e096607d9f738e0a94a446886", func := "loop.example/lib-g01186/laws.FnBitsBack", spec := "fnBitsBack", inPlace := ["math.Float64frombits", "math.Float64bits"], apart := false, narrowed := true }
def FnBitsBackUptoSaid : Prop := fnBitsBackUptoRow.holds Try.pinned (OpenSpec.upto fnBitsBackSpec)

/-- 'laws.FnCopysignValue', WHERE WHAT IT READS IS OF BULK AT MOST 1048576: true; the input reads as it did. -/
def fnCopysignValueUptoRow : OpenClaim := { program := "ytndnjibaamgcfaa", sum := "8de4d078c3020cb82e4ad7c16ddce85865b2c50e096607d9f738e0a94a446886", func := "loop.example/lib-g01186/laws.FnCopysignValue", spec := "fnCopysignValue", inPlace := ["math.Float64bits", "math.Float64frombits"], apart := false, narrowed := true }
def FnCopysignValueUptoSaid : Prop := fnCopysignValueUptoRow.holds Try.pinned (OpenSpec.upto fnCopysignValueSpec)

/-- 'laws.FnExactAbs', WHERE WHAT IT READS IS OF BULK AT MOST 1048576: true; the input reads as it did. -/
def fnExactAbsUptoRow : OpenClaim := { program := "ytndnjibaamgcfaa", sum := "8de4d078c3020cb82e4ad7c16ddce85865b2c50e096607d9f738e0a94a446886", func := "loop.example/lib-g01186/laws.FnExactAbs", spec := "fnExactAbs", inPlace := ["math.Float64bits", "math.Float64frombits"], apart := false, narrowed := true }
def FnExactAbsUptoSaid : Prop := fnExactAbsUptoRow.holds Try.pinned (OpenSpec.upto fnExactAbsSpec)

/-- 'laws.FnNumberBack', WHERE WHAT IT READS IS OF BULK AT MOST 1048576: true; the input reads as it did. -/
def fnNumberBackUptoRow : OpenClaim := { program := "ytndnjibaamgcfaa", sum := "8de4d078c3020cb82e4ad7c16ddce85865b2c50e096607d9f738e0a94a446886", func := "loop.example/lib-g01186/laws.FnNumberBack", spec := "fnNumberBack", inPlace := ["math.Float64bits", "math.Float64frombits"], apart := false, narrowed := true }
def FnNumberBackUptoSaid : Prop := fnNumberBackUptoRow.holds Try.pinned (OpenSpec.upto fnNumberBackSpec)

/-- 'laws.FnExactIsNaN', WHERE WHAT IT READS IS OF BULK AT MOST 1048576: true; the input reads as it did. -/
def fnExactIsNaNUptoRow : OpenClaim := { program := "ytndnjibaamgcfaa", sum := "8de4d078c3020cb82e4ad7c16ddce85865b2c50e096607d9f738e0a94a446886", func := "loop.example/lib-g01186/laws.FnExactIsNaN", spec := "fnExactIsNaN", apart := false, narrowed := true }
def FnExactIsNaNUptoSaid : Prop := fnExactIsNaNUptoRow.holds Try.pinned (OpenSpec.upto fnExactIsNaNSpec)

/-- 'laws.FnSignbitBits', WHERE WHAT IT READS IS OF BULK AT MOST 1048576: true; the input reads as it did. -/
def fnSignbitBitsUptoRow : OpenClaim := { program := "ytndnjibaamgcfaa", sum := "8de4d078c3020cb82e4ad7c16ddce85865b2c50e096607d9f738e0a94a446886", func := "loop.example/lib-g01186/laws.FnSignbitBits", spec := "fnSignbitBits", inPlace := ["math.Float64frombits", "math.Float64bits"], apart := false, narrowed := true }
def FnSignbitBitsUptoSaid : Prop := fnSignbitBitsUptoRow.holds Try.pinned (OpenSpec.upto fnSignbitBitsSpec)

/-- 'laws.FnExactInf', WHERE WHAT IT READS IS OF BULK AT MOST 1048576: true; the input reads as it did. -/
def fnExactInfUptoRow : OpenClaim := { program := "ytndnjibaamgcfaa", sum := "8de4d078c3020cb82e4ad7c16ddce85865b2c50e096607d9f738e0a94a446886", func := "loop.example/lib-g01186/laws.FnExactInf", spec := "fnExactInf", inPlace := ["math.Float64frombits"], apart := false, narrowed := true }
def FnExactInfUptoSaid : Prop := fnExactInfUptoRow.holds Try.pinned (OpenSpec.upto fnExactInfSpec)

end Rows
end Go.Proofs.Ytndnjibaamgcfaa
