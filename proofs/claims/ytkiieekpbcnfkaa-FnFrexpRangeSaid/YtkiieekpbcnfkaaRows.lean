/-
  No cell of these rows narrows 'for every input' (looked for: loops, veiled, ifaces, maps, wideKeys, modest, calm, conditions, laid).
  DERIVED. THE GIVEN ROWS OF THIS SEAT. 12 by the template 'for every input the law returns true; each argument reads behind the call as it read before'; 0 by the template 'total and deterministic' (their statements: YtkiieekpbcnfkaaTotals.lean).
  GIVEN WITH THE SEED: the statements are not yours to turn. If you find one false, say at which input.
  Laid BY PROGRAM, IN A SANDBOX (cutbox-rows.mjs): the forced cells as the released guide's own fill.sh prints them over the translation 308eda2b4477b068… (all of the seat's roots in one cut). By AI agents, Wed Nov 11 2026. No macro, syntax, notation, axiom, sorry.
-/
import Derived.Test.YtkiieekpbcnfkaaChecked
import GoSem.Claim
import GoSem.ClaimJoined
import GoSem.ClaimMapViews
import Derived.JoinedTies
import Derived.KernelRfl
namespace Go.Proofs.Ytkiieekpbcnfkaa
/- THE CELL 'sum', in the pinned program and in every row, IS THE sha256 OF THE DUMP (.gsa) THAT YtkiieekpbcnfkaaProg.lean LOADS. Nothing in Lean hashes anything: it is a label: what it is worth is what the hold of that sum in a sandbox is worth. -/
noncomputable def Try.pinned : Pinned := { name := "ytkiieekpbcnfkaa", sum := "308eda2b4477b06822e29ff68ce6d0adaa55aa29862456539c19fa3e28566a0e", checked := Try.checked }
namespace Rows
def none {H : Type} : Left H := { results := [], args := [] }

/-- 'laws.FnBits32Value': WHATEVER THE INPUT: true; the input reads as it did. -/
def fnBits32ValueSpec : ChangeSpec := { name := "fnBits32Value", fn := fun _ => fun
  | [d] => { results := [.lit (.bool true)], args := [d] }
  | _ => none }
def fnBits32ValueRow : OpenClaim := { program := "ytkiieekpbcnfkaa", sum := "308eda2b4477b06822e29ff68ce6d0adaa55aa29862456539c19fa3e28566a0e", func := "loop.example/lib-g01186/laws.FnBits32Value", spec := "fnBits32Value", inPlace := ["math.Float32bits"], apart := false }
def FnBits32ValueSaid : Prop := fnBits32ValueRow.holds Try.pinned (OpenSpec.ofChange fnBits32ValueSpec)

/-- ITS FALSE NEIGHBOUR: 'it returns false'. Refute it at one input. -/
def fnBits32ValueWrong : ChangeSpec := { name := "fnBits32Value", fn := fun _ => fun
  | [d] => { results := [.lit (.bool false)], args := [d] }
  | _ => none }
def FnBits32ValueWrongFalsely : Prop := fnBits32ValueRow.holds Try.pinned (OpenSpec.ofChange fnBits32ValueWrong)

/-- 'laws.FnBitsValue': WHATEVER THE INPUT: true; the input reads as it did. -/
def fnBitsValueSpec : ChangeSpec := { name := "fnBitsValue", fn := fun _ => fun
  | [d] => { results := [.lit (.bool true)], args := [d] }
  | _ => none }
def fnBitsValueRow : OpenClaim := { program := "ytkiieekpbcnfkaa", sum := "308eda2b4477b06822e29ff68ce6d0adaa55aa29862456539c19fa3e28566a0e", func := "loop.example/lib-g01186/laws.FnBitsValue", spec := "fnBitsValue", inPlace := ["math.Float64bits"], apart := false }
def FnBitsValueSaid : Prop := fnBitsValueRow.holds Try.pinned (OpenSpec.ofChange fnBitsValueSpec)

/-- ITS FALSE NEIGHBOUR: 'it returns false'. Refute it at one input. -/
def fnBitsValueWrong : ChangeSpec := { name := "fnBitsValue", fn := fun _ => fun
  | [d] => { results := [.lit (.bool false)], args := [d] }
  | _ => none }
def FnBitsValueWrongFalsely : Prop := fnBitsValueRow.holds Try.pinned (OpenSpec.ofChange fnBitsValueWrong)

/-- 'laws.FnExactFloat32frombits': WHATEVER THE INPUT: true; the input reads as it did. -/
def fnExactFloat32frombitsSpec : ChangeSpec := { name := "fnExactFloat32frombits", fn := fun _ => fun
  | [d] => { results := [.lit (.bool true)], args := [d] }
  | _ => none }
def fnExactFloat32frombitsRow : OpenClaim := { program := "ytkiieekpbcnfkaa", sum := "308eda2b4477b06822e29ff68ce6d0adaa55aa29862456539c19fa3e28566a0e", func := "loop.example/lib-g01186/laws.FnExactFloat32frombits", spec := "fnExactFloat32frombits", inPlace := ["math.Float32frombits"], apart := false }
def FnExactFloat32frombitsSaid : Prop := fnExactFloat32frombitsRow.holds Try.pinned (OpenSpec.ofChange fnExactFloat32frombitsSpec)

/-- ITS FALSE NEIGHBOUR: 'it returns false'. Refute it at one input. -/
def fnExactFloat32frombitsWrong : ChangeSpec := { name := "fnExactFloat32frombits", fn := fun _ => fun
  | [d] => { results := [.lit (.bool false)], args := [d] }
  | _ => none }
def FnExactFloat32frombitsWrongFalsely : Prop := fnExactFloat32frombitsRow.holds Try.pinned (OpenSpec.ofChange fnExactFloat32frombitsWrong)

/-- 'laws.FnExactFloat64frombits': WHATEVER THE INPUT: true; the input reads as it did. -/
def fnExactFloat64frombitsSpec : ChangeSpec := { name := "fnExactFloat64frombits", fn := fun _ => fun
  | [d] => { results := [.lit (.bool true)], args := [d] }
  | _ => none }
def fnExactFloat64frombitsRow : OpenClaim := { program := "ytkiieekpbcnfkaa", sum := "308eda2b4477b06822e29ff68ce6d0adaa55aa29862456539c19fa3e28566a0e", func := "loop.example/lib-g01186/laws.FnExactFloat64frombits", spec := "fnExactFloat64frombits", inPlace := ["math.Float64frombits"], apart := false }
def FnExactFloat64frombitsSaid : Prop := fnExactFloat64frombitsRow.holds Try.pinned (OpenSpec.ofChange fnExactFloat64frombitsSpec)

/-- ITS FALSE NEIGHBOUR: 'it returns false'. Refute it at one input. -/
def fnExactFloat64frombitsWrong : ChangeSpec := { name := "fnExactFloat64frombits", fn := fun _ => fun
  | [d] => { results := [.lit (.bool false)], args := [d] }
  | _ => none }
def FnExactFloat64frombitsWrongFalsely : Prop := fnExactFloat64frombitsRow.holds Try.pinned (OpenSpec.ofChange fnExactFloat64frombitsWrong)

/-- 'laws.FnExactNextafter': WHATEVER THE INPUT: true; the input reads as it did. -/
def fnExactNextafterSpec : ChangeSpec := { name := "fnExactNextafter", fn := fun _ => fun
  | [d1, d2] => { results := [.lit (.bool true)], args := [d1, d2] }
  | _ => none }
def fnExactNextafterRow : OpenClaim := { program := "ytkiieekpbcnfkaa", sum := "308eda2b4477b06822e29ff68ce6d0adaa55aa29862456539c19fa3e28566a0e", func := "loop.example/lib-g01186/laws.FnExactNextafter", spec := "fnExactNextafter", inPlace := ["math.Float64frombits", "math.Float64bits"], apart := false }
def FnExactNextafterSaid : Prop := fnExactNextafterRow.holds Try.pinned (OpenSpec.ofChange fnExactNextafterSpec)

/-- ITS FALSE NEIGHBOUR: 'it returns false'. Refute it at one input. -/
def fnExactNextafterWrong : ChangeSpec := { name := "fnExactNextafter", fn := fun _ => fun
  | [d1, d2] => { results := [.lit (.bool false)], args := [d1, d2] }
  | _ => none }
def FnExactNextafterWrongFalsely : Prop := fnExactNextafterRow.holds Try.pinned (OpenSpec.ofChange fnExactNextafterWrong)

/-- 'laws.FnExactNextafter32': WHATEVER THE INPUT: true; the input reads as it did. -/
def fnExactNextafter32Spec : ChangeSpec := { name := "fnExactNextafter32", fn := fun _ => fun
  | [d1, d2] => { results := [.lit (.bool true)], args := [d1, d2] }
  | _ => none }
def fnExactNextafter32Row : OpenClaim := { program := "ytkiieekpbcnfkaa", sum := "308eda2b4477b06822e29ff68ce6d0adaa55aa29862456539c19fa3e28566a0e", func := "loop.example/lib-g01186/laws.FnExactNextafter32", spec := "fnExactNextafter32", inPlace := ["math.Float64frombits", "math.Float32frombits", "math.Float64bits", "math.Float32bits"], apart := false }
def FnExactNextafter32Said : Prop := fnExactNextafter32Row.holds Try.pinned (OpenSpec.ofChange fnExactNextafter32Spec)

/-- ITS FALSE NEIGHBOUR: 'it returns false'. Refute it at one input. -/
def fnExactNextafter32Wrong : ChangeSpec := { name := "fnExactNextafter32", fn := fun _ => fun
  | [d1, d2] => { results := [.lit (.bool false)], args := [d1, d2] }
  | _ => none }
def FnExactNextafter32WrongFalsely : Prop := fnExactNextafter32Row.holds Try.pinned (OpenSpec.ofChange fnExactNextafter32Wrong)

/-- 'laws.FnNextBits': WHATEVER THE INPUT: true; the input reads as it did. -/
def fnNextBitsSpec : ChangeSpec := { name := "fnNextBits", fn := fun _ => fun
  | [d] => { results := [.lit (.bool true)], args := [d] }
  | _ => none }
def fnNextBitsRow : OpenClaim := { program := "ytkiieekpbcnfkaa", sum := "308eda2b4477b06822e29ff68ce6d0adaa55aa29862456539c19fa3e28566a0e", func := "loop.example/lib-g01186/laws.FnNextBits", spec := "fnNextBits", inPlace := ["math.Float64frombits", "math.Float64bits"], apart := false }
def FnNextBitsSaid : Prop := fnNextBitsRow.holds Try.pinned (OpenSpec.ofChange fnNextBitsSpec)

/-- ITS FALSE NEIGHBOUR: 'it returns false'. Refute it at one input. -/
def fnNextBitsWrong : ChangeSpec := { name := "fnNextBits", fn := fun _ => fun
  | [d] => { results := [.lit (.bool false)], args := [d] }
  | _ => none }
def FnNextBitsWrongFalsely : Prop := fnNextBitsRow.holds Try.pinned (OpenSpec.ofChange fnNextBitsWrong)

/-- 'laws.FnNext32Bits': WHATEVER THE INPUT: true; the input reads as it did. -/
def fnNext32BitsSpec : ChangeSpec := { name := "fnNext32Bits", fn := fun _ => fun
  | [d] => { results := [.lit (.bool true)], args := [d] }
  | _ => none }
def fnNext32BitsRow : OpenClaim := { program := "ytkiieekpbcnfkaa", sum := "308eda2b4477b06822e29ff68ce6d0adaa55aa29862456539c19fa3e28566a0e", func := "loop.example/lib-g01186/laws.FnNext32Bits", spec := "fnNext32Bits", inPlace := ["math.Float64frombits", "math.Float32frombits", "math.Float64bits", "math.Float32bits"], apart := false }
def FnNext32BitsSaid : Prop := fnNext32BitsRow.holds Try.pinned (OpenSpec.ofChange fnNext32BitsSpec)

/-- ITS FALSE NEIGHBOUR: 'it returns false'. Refute it at one input. -/
def fnNext32BitsWrong : ChangeSpec := { name := "fnNext32Bits", fn := fun _ => fun
  | [d] => { results := [.lit (.bool false)], args := [d] }
  | _ => none }
def FnNext32BitsWrongFalsely : Prop := fnNext32BitsRow.holds Try.pinned (OpenSpec.ofChange fnNext32BitsWrong)

/-- 'laws.FnExactIlogb': WHATEVER THE INPUT: true; the input reads as it did. -/
def fnExactIlogbSpec : ChangeSpec := { name := "fnExactIlogb", fn := fun _ => fun
  | [d] => { results := [.lit (.bool true)], args := [d] }
  | _ => none }
def fnExactIlogbRow : OpenClaim := { program := "ytkiieekpbcnfkaa", sum := "308eda2b4477b06822e29ff68ce6d0adaa55aa29862456539c19fa3e28566a0e", func := "loop.example/lib-g01186/laws.FnExactIlogb", spec := "fnExactIlogb", inPlace := ["math.Float64bits", "math.Float64frombits"], apart := false }
def FnExactIlogbSaid : Prop := fnExactIlogbRow.holds Try.pinned (OpenSpec.ofChange fnExactIlogbSpec)

/-- ITS FALSE NEIGHBOUR: 'it returns false'. Refute it at one input. -/
def fnExactIlogbWrong : ChangeSpec := { name := "fnExactIlogb", fn := fun _ => fun
  | [d] => { results := [.lit (.bool false)], args := [d] }
  | _ => none }
def FnExactIlogbWrongFalsely : Prop := fnExactIlogbRow.holds Try.pinned (OpenSpec.ofChange fnExactIlogbWrong)

/-- 'laws.FnExactLogb': WHATEVER THE INPUT: true; the input reads as it did. -/
def fnExactLogbSpec : ChangeSpec := { name := "fnExactLogb", fn := fun _ => fun
  | [d] => { results := [.lit (.bool true)], args := [d] }
  | _ => none }
def fnExactLogbRow : OpenClaim := { program := "ytkiieekpbcnfkaa", sum := "308eda2b4477b06822e29ff68ce6d0adaa55aa29862456539c19fa3e28566a0e", func := "loop.example/lib-g01186/laws.FnExactLogb", spec := "fnExactLogb", inPlace := ["math.Float64frombits", "math.Float64bits"], apart := false }
def FnExactLogbSaid : Prop := fnExactLogbRow.holds Try.pinned (OpenSpec.ofChange fnExactLogbSpec)

/-- ITS FALSE NEIGHBOUR: 'it returns false'. Refute it at one input. -/
def fnExactLogbWrong : ChangeSpec := { name := "fnExactLogb", fn := fun _ => fun
  | [d] => { results := [.lit (.bool false)], args := [d] }
  | _ => none }
def FnExactLogbWrongFalsely : Prop := fnExactLogbRow.holds Try.pinned (OpenSpec.ofChange fnExactLogbWrong)

/-- 'laws.FnExactFrexp': WHATEVER THE INPUT: true; the input reads as it did. -/
def fnExactFrexpSpec : ChangeSpec := { name := "fnExactFrexp", fn := fun _ => fun
  | [d] => { results := [.lit (.bool true)], args := [d] }
  | _ => none }
def fnExactFrexpRow : OpenClaim := { program := "ytkiieekpbcnfkaa", sum := "308eda2b4477b06822e29ff68ce6d0adaa55aa29862456539c19fa3e28566a0e", func := "loop.example/lib-g01186/laws.FnExactFrexp", spec := "fnExactFrexp", inPlace := ["math.Float64bits", "math.Float64frombits"], apart := false }
def FnExactFrexpSaid : Prop := fnExactFrexpRow.holds Try.pinned (OpenSpec.ofChange fnExactFrexpSpec)

/-- ITS FALSE NEIGHBOUR: 'it returns false'. Refute it at one input. -/
def fnExactFrexpWrong : ChangeSpec := { name := "fnExactFrexp", fn := fun _ => fun
  | [d] => { results := [.lit (.bool false)], args := [d] }
  | _ => none }
def FnExactFrexpWrongFalsely : Prop := fnExactFrexpRow.holds Try.pinned (OpenSpec.ofChange fnExactFrexpWrong)

/-- 'laws.FnFrexpRange': WHATEVER THE INPUT: true; the input reads as it did. -/
def fnFrexpRangeSpec : ChangeSpec := { name := "fnFrexpRange", fn := fun _ => fun
  | [d] => { results := [.lit (.bool true)], args := [d] }
  | _ => none }
def fnFrexpRangeRow : OpenClaim := { program := "ytkiieekpbcnfkaa", sum := "308eda2b4477b06822e29ff68ce6d0adaa55aa29862456539c19fa3e28566a0e", func := "loop.example/lib-g01186/laws.FnFrexpRange", spec := "fnFrexpRange", inPlace := ["math.Float64bits", "math.Float64frombits"], apart := false }
def FnFrexpRangeSaid : Prop := fnFrexpRangeRow.holds Try.pinned (OpenSpec.ofChange fnFrexpRangeSpec)

/-- ITS FALSE NEIGHBOUR: 'it returns false'. Refute it at one input. -/
def fnFrexpRangeWrong : ChangeSpec := { name := "fnFrexpRange", fn := fun _ => fun
  | [d] => { results := [.lit (.bool false)], args := [d] }
  | _ => none }
def FnFrexpRangeWrongFalsely : Prop := fnFrexpRangeRow.holds Try.pinned (OpenSpec.ofChange fnFrexpRangeWrong)

/- THE SECOND FORM. 'bulk': how many values and letters a reading holds, each counted each time it is reached (what is shared counts as often as it is met; a slice's spare places count too). A statement '..UptoSaid' is the law's where the arguments, and the package variables that the reading takes, are together of bulk at most 1048576: NARROWER than '..Said'. Prove '..Said' where nothing that the law and all that it calls make is longer than what came in: it says more and counts as full. Else prove '..UptoSaid'. A law counts once. -/
mutual
def uptoBulk {H : Type} : DataW H → Nat
  | .lit (.string bytes) => bytes.length + 1
  | .lit _ => 1
  | .nil => 1
  | .ptr d => uptoBulk d + 1
  | .slice elems spare => uptoBulkAll elems + uptoBulkAll spare + 1
  | .agg parts => uptoBulkAll parts + 1
  | .iface _ d => uptoBulk d + 1
  | .map entries => uptoBulkEntries entries + 1
  | .held _ => 1
def uptoBulkAll {H : Type} : List (DataW H) → Nat
  | [] => 0
  | d :: r => uptoBulk d + uptoBulkAll r
def uptoBulkEntries {H : Type} : List (Lit × DataW H) → Nat
  | [] => 0
  | x :: r => uptoBulkEntry x + uptoBulkEntries r
def uptoBulkEntry {H : Type} : Lit × DataW H → Nat
  | (.string bytes, d) => bytes.length + uptoBulk d + 1
  | (_, d) => uptoBulk d + 1
 end
def uptoSmall : (H : Type) → List (DataW H) → Bool := fun _ ds => decide (uptoBulkAll ds ≤ 1048576)
def OpenSpec.upto (s : _root_.Go.ChangeSpec) : _root_.Go.OpenSpec := { _root_.Go.OpenSpec.ofChange s with cond := some uptoSmall }

/-- 'laws.FnBits32Value', WHERE WHAT IT READS IS OF BULK AT MOST 1048576: true; the input reads as it did. -/
def fnBits32ValueUptoRow : OpenClaim := { program := "ytkiieekpbcnfkaa", sum := "308eda2b4477b06822e29ff68ce6d0adaa55aa29862456539c19fa3e28566a0e", func := "loop.example/lib-g01186/laws.FnBits32Value", spec := "fnBits32Value", inPlace := ["math.Float32bits"], apart := false, narrowed := true }
def FnBits32ValueUptoSaid : Prop := fnBits32ValueUptoRow.holds Try.pinned (OpenSpec.upto fnBits32ValueSpec)

/-- 'laws.FnBitsValue', WHERE WHAT IT READS IS OF BULK AT MOST 1048576: true; the input reads as it did. -/
def fnBitsValueUptoRow : OpenClaim := { program := "ytkiieekpbcnfkaa", sum := "308eda2b4477b06822e29ff68ce6d0adaa55aa29862456539c19fa3e28566a0e", func := "loop.example/lib-g01186/laws.FnBitsValue", spec := "fnBitsValue", inPlace := ["math.Float64bits"], apart := false, narrowed := true }
def FnBitsValueUptoSaid : Prop := fnBitsValueUptoRow.holds Try.pinned (OpenSpec.upto fnBitsValueSpec)

/-- 'laws.FnExactFloat32frombits', WHERE WHAT IT READS IS OF BULK AT MOST 1048576: true; the input reads as it did. -/
def fnExactFloat32frombitsUptoRow : OpenClaim := { program := "ytkiieekpbcnfkaa", sum := "308eda2b4477b06822e29ff68ce6d0adaa55aa29862456539c19fa3e28566a0e", func := "loop.example/lib-g01186/laws.FnExactFloat32frombits", spec := "fnExactFloat32frombits", inPlace := ["math.Float32frombits"], apart := false, narrowed := true }
def FnExactFloat32frombitsUptoSaid : Prop := fnExactFloat32frombitsUptoRow.holds Try.pinned (OpenSpec.upto fnExactFloat32frombitsSpec)

/-- 'laws.FnExactFloat64frombits', WHERE WHAT IT READS IS OF BULK AT MOST 1048576: true; the input reads as it did. -/
def fnExactFloat64frombitsUptoRow : OpenClaim := { program := "ytkiieekpbcnfkaa", sum := "308eda2b4477b06822e29ff68ce6d0adaa55aa29862456539c19fa3e28566a0e", func := "loop.example/lib-g01186/laws.FnExactFloat64frombits", spec := "fnExactFloat64frombits", inPlace := ["math.Float64frombits"], apart := false, narrowed := true }
def FnExactFloat64frombitsUptoSaid : Prop := fnExactFloat64frombitsUptoRow.holds Try.pinned (OpenSpec.upto fnExactFloat64frombitsSpec)

/-- 'laws.FnExactNextafter', WHERE WHAT IT READS IS OF BULK AT MOST 1048576: true; the input reads as it did. -/
def fnExactNextafterUptoRow : OpenClaim := { program := "ytkiieekpbcnfkaa", sum := "308eda2b4477b06822e29ff68ce6d0adaa55aa29862456539c19fa3e28566a0e", func := "loop.example/lib-g01186/laws.FnExactNextafter", spec := "fnExactNextafter", inPlace := ["math.Float64frombits", "math.Float64bits"], apart := false, narrowed := true }
def FnExactNextafterUptoSaid : Prop := fnExactNextafterUptoRow.holds Try.pinned (OpenSpec.upto fnExactNextafterSpec)

/-- 'laws.FnExactNextafter32', WHERE WHAT IT READS IS OF BULK AT MOST 1048576: true; the input reads as it did. -/
def fnExactNextafter32UptoRow : OpenClaim := { program := "ytkiieekpbcnfkaa", sum := "308eda2b4477b06822e29ff68ce6d0adaa55aa29862456539c19fa3e28566a0e", func := "loop.example/lib-g01186/laws.FnExactNextafter32", spec := "fnExactNextafter32", inPlace := ["math.Float64frombits", "math.Float32frombits", "math.Float64bits", "math.Float32bits"], apart := false, narrowed := true }
def FnExactNextafter32UptoSaid : Prop := fnExactNextafter32UptoRow.holds Try.pinned (OpenSpec.upto fnExactNextafter32Spec)

/-- 'laws.FnNextBits', WHERE WHAT IT READS IS OF BULK AT MOST 1048576: true; the input reads as it did. -/
def fnNextBitsUptoRow : OpenClaim := { program := "ytkiieekpbcnfkaa", sum := "308eda2b4477b06822e29ff68ce6d0adaa55aa29862456539c19fa3e28566a0e", func := "loop.example/lib-g01186/laws.FnNextBits", spec := "fnNextBits", inPlace := ["math.Float64frombits", "math.Float64bits"], apart := false, narrowed := true }
def FnNextBitsUptoSaid : Prop := fnNextBitsUptoRow.holds Try.pinned (OpenSpec.upto fnNextBitsSpec)

/-- 'laws.FnNext32Bits', WHERE WHAT IT READS IS OF BULK AT MOST 1048576: true; the input reads as it did. -/
def fnNext32BitsUptoRow : OpenClaim := { program := "ytkiieekpbcnfkaa", sum := "308eda2b4477b06822e29ff68ce6d0adaa55aa29862456539c19fa3e28566a0e", func := "loop.example/lib-g01186/laws.FnNext32Bits", spec := "fnNext32Bits", inPlace := ["math.Float64frombits", "math.Float32frombits", "math.Float64bits", "math.Float32bits"], apart := false, narrowed := true }
def FnNext32BitsUptoSaid : Prop := fnNext32BitsUptoRow.holds Try.pinned (OpenSpec.upto fnNext32BitsSpec)

/-- 'laws.FnExactIlogb', WHERE WHAT IT READS IS OF BULK AT MOST 1048576: true; the input reads as it did. -/
def fnExactIlogbUptoRow : OpenClaim := { program := "ytkiieekpbcnfkaa", sum := "308eda2b4477b06822e29ff68ce6d0adaa55aa29862456539c19fa3e28566a0e", func := "loop.example/lib-g01186/laws.FnExactIlogb", spec := "fnExactIlogb", inPlace := ["math.Float64bits", "math.Float64frombits"], apart := false, narrowed := true }
def FnExactIlogbUptoSaid : Prop := fnExactIlogbUptoRow.holds Try.pinned (OpenSpec.upto fnExactIlogbSpec)

/-- 'laws.FnExactLogb', WHERE WHAT IT READS IS OF BULK AT MOST 1048576: true; the input reads as it did. -/
def fnExactLogbUptoRow : OpenClaim := { program := "ytkiieekpbcnfkaa", sum := "308eda2b4477b06822e29ff68ce6d0adaa55aa29862456539c19fa3e28566a0e", func := "loop.example/lib-g01186/laws.FnExactLogb", spec := "fnExactLogb", inPlace := ["math.Float64frombits", "math.Float64bits"], apart := false, narrowed := true }
def FnExactLogbUptoSaid : Prop := fnExactLogbUptoRow.holds Try.pinned (OpenSpec.upto fnExactLogbSpec)

/-- 'laws.FnExactFrexp', WHERE WHAT IT READS IS OF BULK AT MOST 1048576: true; the input reads as it did. -/
def fnExactFrexpUptoRow : OpenClaim := { program := "ytkiieekpbcnfkaa", sum := "308eda2b4477b06822e29ff68ce6d0adaa55aa29862456539c19fa3e28566a0e", func := "loop.example/lib-g01186/laws.FnExactFrexp", spec := "fnExactFrexp", inPlace := ["math.Float64bits", "math.Float64frombits"], apart := false, narrowed := true }
def FnExactFrexpUptoSaid : Prop := fnExactFrexpUptoRow.holds Try.pinned (OpenSpec.upto fnExactFrexpSpec)

/-- 'laws.FnFrexpRange', WHERE WHAT IT READS IS OF BULK AT MOST 1048576: true; the input reads as it did. -/
def fnFrexpRangeUptoRow : OpenClaim := { program := "ytkiieekpbcnfkaa", sum := "308eda2b4477b06822e29ff68ce6d0adaa55aa29862456539c19fa3e28566a0e", func := "loop.example/lib-g01186/laws.FnFrexpRange", spec := "fnFrexpRange", inPlace := ["math.Float64bits", "math.Float64frombits"], apart := false, narrowed := true }
def FnFrexpRangeUptoSaid : Prop := fnFrexpRangeUptoRow.holds Try.pinned (OpenSpec.upto fnFrexpRangeSpec)

end Rows
end Go.Proofs.Ytkiieekpbcnfkaa
