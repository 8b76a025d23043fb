/-
  No cell of these rows narrows 'for every input' (looked for: loops, veiled, ifaces, maps, wideKeys, modest, calm, conditions, laid).
  DERIVED. THE GIVEN ROWS OF THIS SEAT. 12 by the template 'for every input the law returns true; each argument reads behind the call as it read before'; 0 by the template 'total and deterministic' (their statements: YtjijlkegndkjbaaTotals.lean).
  GIVEN WITH THE SEED: the statements are not yours to turn. If you find one false, say at which input.
  Laid BY PROGRAM, IN A SANDBOX (cutbox-rows.mjs): the forced cells as the released guide's own fill.sh prints them over the translation 75f6b3172961a605… (all of the seat's roots in one cut). By AI agents, Wed Nov 11 2026. No macro, syntax, notation, axiom, sorry.
-/
import Derived.Test.YtjijlkegndkjbaaChecked
import GoSem.Claim
import GoSem.ClaimJoined
import GoSem.ClaimMapViews
import Derived.JoinedTies
import Derived.KernelRfl
namespace Go.Proofs.Ytjijlkegndkjbaa
/- THE CELL 'sum', in the pinned program and in every row, IS THE sha256 OF THE DUMP (.gsa) THAT YtjijlkegndkjbaaProg.lean LOADS. Nothing in Lean hashes anything: it is a label: what it is worth is what the hold of that sum in a sandbox is worth. -/
noncomputable def Try.pinned : Pinned := { name := "ytjijlkegndkjbaa", sum := "75f6b3172961a60537becd509f217d670b6e08e89b004e7128b26d0d387f756a", checked := Try.checked }
namespace Rows
def none {H : Type} : Left H := { results := [], args := [] }

/-- 'laws.FnAbsBits': WHATEVER THE INPUT: true; the input reads as it did. -/
def fnAbsBitsSpec : ChangeSpec := { name := "fnAbsBits", fn := fun _ => fun
  | [d] => { results := [.lit (.bool true)], args := [d] }
  | _ => none }
def fnAbsBitsRow : OpenClaim := { program := "ytjijlkegndkjbaa", sum := "75f6b3172961a60537becd509f217d670b6e08e89b004e7128b26d0d387f756a", func := "loop.example/lib-g01186/laws.FnAbsBits", spec := "fnAbsBits", inPlace := ["math.Float64frombits", "math.Float64bits"], apart := false }
def FnAbsBitsSaid : Prop := fnAbsBitsRow.holds Try.pinned (OpenSpec.ofChange fnAbsBitsSpec)

/-- ITS FALSE NEIGHBOUR: 'it returns false'. Refute it at one input. -/
def fnAbsBitsWrong : ChangeSpec := { name := "fnAbsBits", fn := fun _ => fun
  | [d] => { results := [.lit (.bool false)], args := [d] }
  | _ => none }
def FnAbsBitsWrongFalsely : Prop := fnAbsBitsRow.holds Try.pinned (OpenSpec.ofChange fnAbsBitsWrong)

/-- 'laws.FnCopysignBack': WHATEVER THE INPUT: true; the input reads as it did. -/
def fnCopysignBackSpec : ChangeSpec := { name := "fnCopysignBack", fn := fun _ => fun
  | [d1, d2] => { results := [.lit (.bool true)], args := [d1, d2] }
  | _ => none }
def fnCopysignBackRow : OpenClaim := { program := "ytjijlkegndkjbaa", sum := "75f6b3172961a60537becd509f217d670b6e08e89b004e7128b26d0d387f756a", func := "loop.example/lib-g01186/laws.FnCopysignBack", spec := "fnCopysignBack", inPlace := ["math.Float64bits", "math.Float64frombits"], apart := false }
def FnCopysignBackSaid : Prop := fnCopysignBackRow.holds Try.pinned (OpenSpec.ofChange fnCopysignBackSpec)

/-- ITS FALSE NEIGHBOUR: 'it returns false'. Refute it at one input. -/
def fnCopysignBackWrong : ChangeSpec := { name := "fnCopysignBack", fn := fun _ => fun
  | [d1, d2] => { results := [.lit (.bool false)], args := [d1, d2] }
  | _ => none }
def FnCopysignBackWrongFalsely : Prop := fnCopysignBackRow.holds Try.pinned (OpenSpec.ofChange fnCopysignBackWrong)

/-- 'laws.FnCopysignBits': WHATEVER THE INPUT: true; the input reads as it did. -/
def fnCopysignBitsSpec : ChangeSpec := { name := "fnCopysignBits", fn := fun _ => fun
  | [d1, d2] => { results := [.lit (.bool true)], args := [d1, d2] }
  | _ => none }
def fnCopysignBitsRow : OpenClaim := { program := "ytjijlkegndkjbaa", sum := "75f6b3172961a60537becd509f217d670b6e08e89b004e7128b26d0d387f756a", func := "loop.example/lib-g01186/laws.FnCopysignBits", spec := "fnCopysignBits", inPlace := ["math.Float64frombits", "math.Float64bits"], apart := false }
def FnCopysignBitsSaid : Prop := fnCopysignBitsRow.holds Try.pinned (OpenSpec.ofChange fnCopysignBitsSpec)

/-- ITS FALSE NEIGHBOUR: 'it returns false'. Refute it at one input. -/
def fnCopysignBitsWrong : ChangeSpec := { name := "fnCopysignBits", fn := fun _ => fun
  | [d1, d2] => { results := [.lit (.bool false)], args := [d1, d2] }
  | _ => none }
def FnCopysignBitsWrongFalsely : Prop := fnCopysignBitsRow.holds Try.pinned (OpenSpec.ofChange fnCopysignBitsWrong)

/-- 'laws.FnNumber32Back': WHATEVER THE INPUT: true; the input reads as it did. -/
def fnNumber32BackSpec : ChangeSpec := { name := "fnNumber32Back", fn := fun _ => fun
  | [d] => { results := [.lit (.bool true)], args := [d] }
  | _ => none }
def fnNumber32BackRow : OpenClaim := { program := "ytjijlkegndkjbaa", sum := "75f6b3172961a60537becd509f217d670b6e08e89b004e7128b26d0d387f756a", func := "loop.example/lib-g01186/laws.FnNumber32Back", spec := "fnNumber32Back", inPlace := ["math.Float64bits", "math.Float64frombits", "math.Float32bits", "math.Float32frombits"], apart := false }
def FnNumber32BackSaid : Prop := fnNumber32BackRow.holds Try.pinned (OpenSpec.ofChange fnNumber32BackSpec)

/-- ITS FALSE NEIGHBOUR: 'it returns false'. Refute it at one input. -/
def fnNumber32BackWrong : ChangeSpec := { name := "fnNumber32Back", fn := fun _ => fun
  | [d] => { results := [.lit (.bool false)], args := [d] }
  | _ => none }
def FnNumber32BackWrongFalsely : Prop := fnNumber32BackRow.holds Try.pinned (OpenSpec.ofChange fnNumber32BackWrong)

/-- 'laws.FnDimValue': WHATEVER THE INPUT: true; the input reads as it did. -/
def fnDimValueSpec : ChangeSpec := { name := "fnDimValue", fn := fun _ => fun
  | [d1, d2] => { results := [.lit (.bool true)], args := [d1, d2] }
  | _ => none }
def fnDimValueRow : OpenClaim := { program := "ytjijlkegndkjbaa", sum := "75f6b3172961a60537becd509f217d670b6e08e89b004e7128b26d0d387f756a", func := "loop.example/lib-g01186/laws.FnDimValue", spec := "fnDimValue", apart := false }
def FnDimValueSaid : Prop := fnDimValueRow.holds Try.pinned (OpenSpec.ofChange fnDimValueSpec)

/-- ITS FALSE NEIGHBOUR: 'it returns false'. Refute it at one input. -/
def fnDimValueWrong : ChangeSpec := { name := "fnDimValue", fn := fun _ => fun
  | [d1, d2] => { results := [.lit (.bool false)], args := [d1, d2] }
  | _ => none }
def FnDimValueWrongFalsely : Prop := fnDimValueRow.holds Try.pinned (OpenSpec.ofChange fnDimValueWrong)

/-- 'laws.FnExactDim': WHATEVER THE INPUT: true; the input reads as it did. -/
def fnExactDimSpec : ChangeSpec := { name := "fnExactDim", fn := fun _ => fun
  | [d1, d2] => { results := [.lit (.bool true)], args := [d1, d2] }
  | _ => none }
def fnExactDimRow : OpenClaim := { program := "ytjijlkegndkjbaa", sum := "75f6b3172961a60537becd509f217d670b6e08e89b004e7128b26d0d387f756a", func := "loop.example/lib-g01186/laws.FnExactDim", spec := "fnExactDim", apart := false }
def FnExactDimSaid : Prop := fnExactDimRow.holds Try.pinned (OpenSpec.ofChange fnExactDimSpec)

/-- ITS FALSE NEIGHBOUR: 'it returns false'. Refute it at one input. -/
def fnExactDimWrong : ChangeSpec := { name := "fnExactDim", fn := fun _ => fun
  | [d1, d2] => { results := [.lit (.bool false)], args := [d1, d2] }
  | _ => none }
def FnExactDimWrongFalsely : Prop := fnExactDimRow.holds Try.pinned (OpenSpec.ofChange fnExactDimWrong)

/-- 'laws.FnSignbitCopied': WHATEVER THE INPUT: true; the input reads as it did. -/
def fnSignbitCopiedSpec : ChangeSpec := { name := "fnSignbitCopied", fn := fun _ => fun
  | [d1, d2] => { results := [.lit (.bool true)], args := [d1, d2] }
  | _ => none }
def fnSignbitCopiedRow : OpenClaim := { program := "ytjijlkegndkjbaa", sum := "75f6b3172961a60537becd509f217d670b6e08e89b004e7128b26d0d387f756a", func := "loop.example/lib-g01186/laws.FnSignbitCopied", spec := "fnSignbitCopied", inPlace := ["math.Float64frombits", "math.Float64bits"], apart := false }
def FnSignbitCopiedSaid : Prop := fnSignbitCopiedRow.holds Try.pinned (OpenSpec.ofChange fnSignbitCopiedSpec)

/-- ITS FALSE NEIGHBOUR: 'it returns false'. Refute it at one input. -/
def fnSignbitCopiedWrong : ChangeSpec := { name := "fnSignbitCopied", fn := fun _ => fun
  | [d1, d2] => { results := [.lit (.bool false)], args := [d1, d2] }
  | _ => none }
def FnSignbitCopiedWrongFalsely : Prop := fnSignbitCopiedRow.holds Try.pinned (OpenSpec.ofChange fnSignbitCopiedWrong)

/-- 'laws.FnExactIsInf': WHATEVER THE INPUT: true; the input reads as it did. -/
def fnExactIsInfSpec : ChangeSpec := { name := "fnExactIsInf", fn := fun _ => fun
  | [d1, d2] => { results := [.lit (.bool true)], args := [d1, d2] }
  | _ => none }
def fnExactIsInfRow : OpenClaim := { program := "ytjijlkegndkjbaa", sum := "75f6b3172961a60537becd509f217d670b6e08e89b004e7128b26d0d387f756a", func := "loop.example/lib-g01186/laws.FnExactIsInf", spec := "fnExactIsInf", inPlace := ["math.Float64bits", "math.Float64frombits"], apart := false }
def FnExactIsInfSaid : Prop := fnExactIsInfRow.holds Try.pinned (OpenSpec.ofChange fnExactIsInfSpec)

/-- ITS FALSE NEIGHBOUR: 'it returns false'. Refute it at one input. -/
def fnExactIsInfWrong : ChangeSpec := { name := "fnExactIsInf", fn := fun _ => fun
  | [d1, d2] => { results := [.lit (.bool false)], args := [d1, d2] }
  | _ => none }
def FnExactIsInfWrongFalsely : Prop := fnExactIsInfRow.holds Try.pinned (OpenSpec.ofChange fnExactIsInfWrong)

/-- 'laws.FnInfSign': WHATEVER THE INPUT: true; the input reads as it did. -/
def fnInfSignSpec : ChangeSpec := { name := "fnInfSign", fn := fun _ => fun
  | [d] => { results := [.lit (.bool true)], args := [d] }
  | _ => none }
def fnInfSignRow : OpenClaim := { program := "ytjijlkegndkjbaa", sum := "75f6b3172961a60537becd509f217d670b6e08e89b004e7128b26d0d387f756a", func := "loop.example/lib-g01186/laws.FnInfSign", spec := "fnInfSign", inPlace := ["math.Float64frombits", "math.Float64bits"], apart := false }
def FnInfSignSaid : Prop := fnInfSignRow.holds Try.pinned (OpenSpec.ofChange fnInfSignSpec)

/-- ITS FALSE NEIGHBOUR: 'it returns false'. Refute it at one input. -/
def fnInfSignWrong : ChangeSpec := { name := "fnInfSign", fn := fun _ => fun
  | [d] => { results := [.lit (.bool false)], args := [d] }
  | _ => none }
def FnInfSignWrongFalsely : Prop := fnInfSignRow.holds Try.pinned (OpenSpec.ofChange fnInfSignWrong)

/-- 'laws.FnKindOfBits': WHATEVER THE INPUT: true; the input reads as it did. -/
def fnKindOfBitsSpec : ChangeSpec := { name := "fnKindOfBits", fn := fun _ => fun
  | [d] => { results := [.lit (.bool true)], args := [d] }
  | _ => none }
def fnKindOfBitsRow : OpenClaim := { program := "ytjijlkegndkjbaa", sum := "75f6b3172961a60537becd509f217d670b6e08e89b004e7128b26d0d387f756a", func := "loop.example/lib-g01186/laws.FnKindOfBits", spec := "fnKindOfBits", inPlace := ["math.Float64frombits", "math.Float64bits"], apart := false }
def FnKindOfBitsSaid : Prop := fnKindOfBitsRow.holds Try.pinned (OpenSpec.ofChange fnKindOfBitsSpec)

/-- ITS FALSE NEIGHBOUR: 'it returns false'. Refute it at one input. -/
def fnKindOfBitsWrong : ChangeSpec := { name := "fnKindOfBits", fn := fun _ => fun
  | [d] => { results := [.lit (.bool false)], args := [d] }
  | _ => none }
def FnKindOfBitsWrongFalsely : Prop := fnKindOfBitsRow.holds Try.pinned (OpenSpec.ofChange fnKindOfBitsWrong)

/-- 'laws.FnKindOfBits32': WHATEVER THE INPUT: true; the input reads as it did. -/
def fnKindOfBits32Spec : ChangeSpec := { name := "fnKindOfBits32", fn := fun _ => fun
  | [d] => { results := [.lit (.bool true)], args := [d] }
  | _ => none }
def fnKindOfBits32Row : OpenClaim := { program := "ytjijlkegndkjbaa", sum := "75f6b3172961a60537becd509f217d670b6e08e89b004e7128b26d0d387f756a", func := "loop.example/lib-g01186/laws.FnKindOfBits32", spec := "fnKindOfBits32", inPlace := ["math.Float32frombits", "math.Float64bits", "math.Float64frombits", "math.Float32bits"], apart := false }
def FnKindOfBits32Said : Prop := fnKindOfBits32Row.holds Try.pinned (OpenSpec.ofChange fnKindOfBits32Spec)

/-- ITS FALSE NEIGHBOUR: 'it returns false'. Refute it at one input. -/
def fnKindOfBits32Wrong : ChangeSpec := { name := "fnKindOfBits32", fn := fun _ => fun
  | [d] => { results := [.lit (.bool false)], args := [d] }
  | _ => none }
def FnKindOfBits32WrongFalsely : Prop := fnKindOfBits32Row.holds Try.pinned (OpenSpec.ofChange fnKindOfBits32Wrong)

/-- 'laws.FnKinds': WHATEVER THE INPUT: true; the input reads as it did. -/
def fnKindsSpec : ChangeSpec := { name := "fnKinds", fn := fun _ => fun
  | [d] => { results := [.lit (.bool true)], args := [d] }
  | _ => none }
def fnKindsRow : OpenClaim := { program := "ytjijlkegndkjbaa", sum := "75f6b3172961a60537becd509f217d670b6e08e89b004e7128b26d0d387f756a", func := "loop.example/lib-g01186/laws.FnKinds", spec := "fnKinds", inPlace := ["math.Float64bits", "math.Float64frombits"], apart := false }
def FnKindsSaid : Prop := fnKindsRow.holds Try.pinned (OpenSpec.ofChange fnKindsSpec)

/-- ITS FALSE NEIGHBOUR: 'it returns false'. Refute it at one input. -/
def fnKindsWrong : ChangeSpec := { name := "fnKinds", fn := fun _ => fun
  | [d] => { results := [.lit (.bool false)], args := [d] }
  | _ => none }
def FnKindsWrongFalsely : Prop := fnKindsRow.holds Try.pinned (OpenSpec.ofChange fnKindsWrong)

/- THE SECOND FORM. 'bulk': how many values and letters a reading holds, each counted each time it is reached (what is shared counts as often as it is met; a slice's spare places count too). A statement '..UptoSaid' is the law's where the arguments, and the package variables that the reading takes, are together of bulk at most 1048576: NARROWER than '..Said'. Prove '..Said' where nothing that the law and all that it calls make is longer than what came in: it says more and counts as full. Else prove '..UptoSaid'. A law counts once. -/
mutual
def uptoBulk {H : Type} : DataW H → Nat
  | .lit (.string bytes) => bytes.length + 1
  | .lit _ => 1
  | .nil => 1
  | .ptr d => uptoBulk d + 1
  | .slice elems spare => uptoBulkAll elems + uptoBulkAll spare + 1
  | .agg parts => uptoBulkAll parts + 1
  | .iface _ d => uptoBulk d + 1
  | .map entries => uptoBulkEntries entries + 1
  | .held _ => 1
def uptoBulkAll {H : Type} : List (DataW H) → Nat
  | [] => 0
  | d :: r => uptoBulk d + uptoBulkAll r
def uptoBulkEntries {H : Type} : List (Lit × DataW H) → Nat
  | [] => 0
  | x :: r => uptoBulkEntry x + uptoBulkEntries r
def uptoBulkEntry {H : Type} : Lit × DataW H → Nat
  | (.string bytes, d) => bytes.length + uptoBulk d + 1
  | (_, d) => uptoBulk d + 1
 end
def uptoSmall : (H : Type) → List (DataW H) → Bool := fun _ ds => decide (uptoBulkAll ds ≤ 1048576)
def OpenSpec.upto (s : _root_.Go.ChangeSpec) : _root_.Go.OpenSpec := { _root_.Go.OpenSpec.ofChange s with cond := some uptoSmall }

/-- 'laws.FnAbsBits', WHERE WHAT IT READS IS OF BULK AT MOST 1048576: true; the input reads as it did. -/
def fnAbsBitsUptoRow : OpenClaim := { program := "ytjijlkegndkjbaa", sum := "75f6b3172961a60537becd509f217d670b6e08e89b004e7128b26d0d387f756a", func := "loop.example/lib-g01186/laws.FnAbsBits", spec := "fnAbsBits", inPlace := ["math.Float64frombits", "math.Float64bits"], apart := false, narrowed := true }
def FnAbsBitsUptoSaid : Prop := fnAbsBitsUptoRow.holds Try.pinned (OpenSpec.upto fnAbsBitsSpec)

/-- 'laws.FnCopysignBack', WHERE WHAT IT READS IS OF BULK AT MOST 1048576: true; the input reads as it did. -/
def fnCopysignBackUptoRow : OpenClaim := { program := "ytjijlkegndkjbaa", sum := "75f6b3172961a60537becd509f217d670b6e08e89b004e7128b26d0d387f756a", func := "loop.example/lib-g01186/laws.FnCopysignBack", spec := "fnCopysignBack", inPlace := ["math.Float64bits", "math.Float64frombits"], apart := false, narrowed := true }
def FnCopysignBackUptoSaid : Prop := fnCopysignBackUptoRow.holds Try.pinned (OpenSpec.upto fnCopysignBackSpec)

/-- 'laws.FnCopysignBits', WHERE WHAT IT READS IS OF BULK AT MOST 1048576: true; the input reads as it did. -/
def fnCopysignBitsUptoRow : OpenClaim := { program := "ytjijlkegndkjbaa", sum := "75f6b3172961a60537becd509f217d670b6e08e89b004e7128b26d0d387f756a", func := "loop.example/lib-g01186/laws.FnCopysignBits", spec := "fnCopysignBits", inPlace := ["math.Float64frombits", "math.Float64bits"], apart := false, narrowed := true }
def FnCopysignBitsUptoSaid : Prop := fnCopysignBitsUptoRow.holds Try.pinned (OpenSpec.upto fnCopysignBitsSpec)

/-- 'laws.FnNumber32Back', WHERE WHAT IT READS IS OF BULK AT MOST 1048576: true; the input reads as it did. -/
def fnNumber32BackUptoRow : OpenClaim := { program := "ytjijlkegndkjbaa", sum := "75f6b3172961a60537becd509f217d670b6e08e89b004e7128b26d0d387f756a", func := "loop.example/lib-g01186/laws.FnNumber32Back", spec := "fnNumber32Back", inPlace := ["math.Float64bits", "math.Float64frombits", "math.Float32bits", "math.Float32frombits"], apart := false, narrowed := true }
def FnNumber32BackUptoSaid : Prop := fnNumber32BackUptoRow.holds Try.pinned (OpenSpec.upto fnNumber32BackSpec)

/-- 'laws.FnDimValue', WHERE WHAT IT READS IS OF BULK AT MOST 1048576: true; the input reads as it did. -/
def fnDimValueUptoRow : OpenClaim := { program := "ytjijlkegndkjbaa", sum := "75f6b3172961a60537becd509f217d670b6e08e89b004e7128b26d0d387f756a", func := "loop.example/lib-g01186/laws.FnDimValue", spec := "fnDimValue", apart := false, narrowed := true }
def FnDimValueUptoSaid : Prop := fnDimValueUptoRow.holds Try.pinned (OpenSpec.upto fnDimValueSpec)

/-- 'laws.FnExactDim', WHERE WHAT IT READS IS OF BULK AT MOST 1048576: true; the input reads as it did. -/
def fnExactDimUptoRow : OpenClaim := { program := "ytjijlkegndkjbaa", sum := "75f6b3172961a60537becd509f217d670b6e08e89b004e7128b26d0d387f756a", func := "loop.example/lib-g01186/laws.FnExactDim", spec := "fnExactDim", apart := false, narrowed := true }
def FnExactDimUptoSaid : Prop := fnExactDimUptoRow.holds Try.pinned (OpenSpec.upto fnExactDimSpec)

/-- 'laws.FnSignbitCopied', WHERE WHAT IT READS IS OF BULK AT MOST 1048576: true; the input reads as it did. -/
def fnSignbitCopiedUptoRow : OpenClaim := { program := "ytjijlkegndkjbaa", sum := "75f6b3172961a60537becd509f217d670b6e08e89b004e7128b26d0d387f756a", func := "loop.example/lib-g01186/laws.FnSignbitCopied", spec := "fnSignbitCopied", inPlace := ["math.Float64frombits", "math.Float64bits"], apart := false, narrowed := true }
def FnSignbitCopiedUptoSaid : Prop := fnSignbitCopiedUptoRow.holds Try.pinned (OpenSpec.upto fnSignbitCopiedSpec)

/-- 'laws.FnExactIsInf', WHERE WHAT IT READS IS OF BULK AT MOST 1048576: true; the input reads as it did. -/
def fnExactIsInfUptoRow : OpenClaim := { program := "ytjijlkegndkjbaa", sum := "75f6b3172961a60537becd509f217d670b6e08e89b004e7128b26d0d387f756a", func := "loop.example/lib-g01186/laws.FnExactIsInf", spec := "fnExactIsInf", inPlace := ["math.Float64bits", "math.Float64frombits"], apart := false, narrowed := true }
def FnExactIsInfUptoSaid : Prop := fnExactIsInfUptoRow.holds Try.pinned (OpenSpec.upto fnExactIsInfSpec)

/-- 'laws.FnInfSign', WHERE WHAT IT READS IS OF BULK AT MOST 1048576: true; the input reads as it did. -/
def fnInfSignUptoRow : OpenClaim := { program := "ytjijlkegndkjbaa", sum := "75f6b3172961a60537becd509f217d670b6e08e89b004e7128b26d0d387f756a", func := "loop.example/lib-g01186/laws.FnInfSign", spec := "fnInfSign", inPlace := ["math.Float64frombits", "math.Float64bits"], apart := false, narrowed := true }
def FnInfSignUptoSaid : Prop := fnInfSignUptoRow.holds Try.pinned (OpenSpec.upto fnInfSignSpec)

/-- 'laws.FnKindOfBits', WHERE WHAT IT READS IS OF BULK AT MOST 1048576: true; the input reads as it did. -/
def fnKindOfBitsUptoRow : OpenClaim := { program := "ytjijlkegndkjbaa", sum := "75f6b3172961a60537becd509f217d670b6e08e89b004e7128b26d0d387f756a", func := "loop.example/lib-g01186/laws.FnKindOfBits", spec := "fnKindOfBits", inPlace := ["math.Float64frombits", "math.Float64bits"], apart := false, narrowed := true }
def FnKindOfBitsUptoSaid : Prop := fnKindOfBitsUptoRow.holds Try.pinned (OpenSpec.upto fnKindOfBitsSpec)

/-- 'laws.FnKindOfBits32', WHERE WHAT IT READS IS OF BULK AT MOST 1048576: true; the input reads as it did. -/
def fnKindOfBits32UptoRow : OpenClaim := { program := "ytjijlkegndkjbaa", sum := "75f6b3172961a60537becd509f217d670b6e08e89b004e7128b26d0d387f756a", func := "loop.example/lib-g01186/laws.FnKindOfBits32", spec := "fnKindOfBits32", inPlace := ["math.Float32frombits", "math.Float64bits", "math.Float64frombits", "math.Float32bits"], apart := false, narrowed := true }
def FnKindOfBits32UptoSaid : Prop := fnKindOfBits32UptoRow.holds Try.pinned (OpenSpec.upto fnKindOfBits32Spec)

/-- 'laws.FnKinds', WHERE WHAT IT READS IS OF BULK AT MOST 1048576: true; the input reads as it did. -/
def fnKindsUptoRow : OpenClaim := { program := "ytjijlkegndkjbaa", sum := "75f6b3172961a60537becd509f217d670b6e08e89b004e7128b26d0d387f756a", func := "loop.example/lib-g01186/laws.FnKinds", spec := "fnKinds", inPlace := ["math.Float64bits", "math.Float64frombits"], apart := false, narrowed := true }
def FnKindsUptoSaid : Prop := fnKindsUptoRow.holds Try.pinned (OpenSpec.upto fnKindsSpec)

end Rows
end Go.Proofs.Ytjijlkegndkjbaa
