/-
  No cell of these rows narrows 'for every input' (looked for: loops, veiled, ifaces, maps, wideKeys, modest, calm, conditions, laid).
  DERIVED. THE GIVEN ROWS OF THIS SEAT. 12 by the template 'for every input the law returns true; each argument reads behind the call as it read before'; 0 by the template 'total and deterministic' (their statements: YtmdenmldbmafgaaTotals.lean).
  GIVEN WITH THE SEED: the statements are not yours to turn. If you find one false, say at which input.
  Laid BY PROGRAM, IN A SANDBOX (cutbox-rows.mjs): the forced cells as the released guide's own fill.sh prints them over the translation 9456327573c42e9c… (all of the seat's roots in one cut). By AI agents, Wed Nov 11 2026. No macro, syntax, notation, axiom, sorry.
-/
import Derived.Test.YtmdenmldbmafgaaChecked
import GoSem.Claim
import GoSem.ClaimJoined
import GoSem.ClaimMapViews
import Derived.JoinedTies
import Derived.KernelRfl
namespace Go.Proofs.Ytmdenmldbmafgaa
/- THE CELL 'sum', in the pinned program and in every row, IS THE sha256 OF THE DUMP (.gsa) THAT YtmdenmldbmafgaaProg.lean LOADS. Nothing in Lean hashes anything: it is a label: what it is worth is what the hold of that sum in a sandbox is worth. -/
noncomputable def Try.pinned : Pinned := { name := "ytmdenmldbmafgaa", sum := "9456327573c42e9c3e0fa49fcd245110084d7523550bd749314fbb25f14ddf87", checked := Try.checked }
namespace Rows
def none {H : Type} : Left H := { results := [], args := [] }

/-- 'laws.FnLdexpExact': WHATEVER THE INPUT: true; the input reads as it did. -/
def fnLdexpExactSpec : ChangeSpec := { name := "fnLdexpExact", fn := fun _ => fun
  | [d1, d2] => { results := [.lit (.bool true)], args := [d1, d2] }
  | _ => none }
def fnLdexpExactRow : OpenClaim := { program := "ytmdenmldbmafgaa", sum := "9456327573c42e9c3e0fa49fcd245110084d7523550bd749314fbb25f14ddf87", func := "loop.example/lib-g01186/laws.FnLdexpExact", spec := "fnLdexpExact", inPlace := ["math.Float64bits", "math.Float64frombits"], apart := false }
def FnLdexpExactSaid : Prop := fnLdexpExactRow.holds Try.pinned (OpenSpec.ofChange fnLdexpExactSpec)

/-- ITS FALSE NEIGHBOUR: 'it returns false'. Refute it at one input. -/
def fnLdexpExactWrong : ChangeSpec := { name := "fnLdexpExact", fn := fun _ => fun
  | [d1, d2] => { results := [.lit (.bool false)], args := [d1, d2] }
  | _ => none }
def FnLdexpExactWrongFalsely : Prop := fnLdexpExactRow.holds Try.pinned (OpenSpec.ofChange fnLdexpExactWrong)

/-- 'laws.FnLdexpGreat': WHATEVER THE INPUT: true; the input reads as it did. -/
def fnLdexpGreatSpec : ChangeSpec := { name := "fnLdexpGreat", fn := fun _ => fun
  | [d1, d2] => { results := [.lit (.bool true)], args := [d1, d2] }
  | _ => none }
def fnLdexpGreatRow : OpenClaim := { program := "ytmdenmldbmafgaa", sum := "9456327573c42e9c3e0fa49fcd245110084d7523550bd749314fbb25f14ddf87", func := "loop.example/lib-g01186/laws.FnLdexpGreat", spec := "fnLdexpGreat", inPlace := ["math.Float64bits", "math.Float64frombits"], apart := false }
def FnLdexpGreatSaid : Prop := fnLdexpGreatRow.holds Try.pinned (OpenSpec.ofChange fnLdexpGreatSpec)

/-- ITS FALSE NEIGHBOUR: 'it returns false'. Refute it at one input. -/
def fnLdexpGreatWrong : ChangeSpec := { name := "fnLdexpGreat", fn := fun _ => fun
  | [d1, d2] => { results := [.lit (.bool false)], args := [d1, d2] }
  | _ => none }
def FnLdexpGreatWrongFalsely : Prop := fnLdexpGreatRow.holds Try.pinned (OpenSpec.ofChange fnLdexpGreatWrong)

/-- 'laws.FnLdexpSmall': WHATEVER THE INPUT: true; the input reads as it did. -/
def fnLdexpSmallSpec : ChangeSpec := { name := "fnLdexpSmall", fn := fun _ => fun
  | [d] => { results := [.lit (.bool true)], args := [d] }
  | _ => none }
def fnLdexpSmallRow : OpenClaim := { program := "ytmdenmldbmafgaa", sum := "9456327573c42e9c3e0fa49fcd245110084d7523550bd749314fbb25f14ddf87", func := "loop.example/lib-g01186/laws.FnLdexpSmall", spec := "fnLdexpSmall", inPlace := ["math.Float64bits", "math.Float64frombits"], apart := false }
def FnLdexpSmallSaid : Prop := fnLdexpSmallRow.holds Try.pinned (OpenSpec.ofChange fnLdexpSmallSpec)

/-- ITS FALSE NEIGHBOUR: 'it returns false'. Refute it at one input. -/
def fnLdexpSmallWrong : ChangeSpec := { name := "fnLdexpSmall", fn := fun _ => fun
  | [d] => { results := [.lit (.bool false)], args := [d] }
  | _ => none }
def FnLdexpSmallWrongFalsely : Prop := fnLdexpSmallRow.holds Try.pinned (OpenSpec.ofChange fnLdexpSmallWrong)

/-- 'laws.FnLdexpSum': WHATEVER THE INPUT: true; the input reads as it did. -/
def fnLdexpSumSpec : ChangeSpec := { name := "fnLdexpSum", fn := fun _ => fun
  | [d1, d2, d3] => { results := [.lit (.bool true)], args := [d1, d2, d3] }
  | _ => none }
def fnLdexpSumRow : OpenClaim := { program := "ytmdenmldbmafgaa", sum := "9456327573c42e9c3e0fa49fcd245110084d7523550bd749314fbb25f14ddf87", func := "loop.example/lib-g01186/laws.FnLdexpSum", spec := "fnLdexpSum", inPlace := ["math.Float64bits", "math.Float64frombits"], apart := false }
def FnLdexpSumSaid : Prop := fnLdexpSumRow.holds Try.pinned (OpenSpec.ofChange fnLdexpSumSpec)

/-- ITS FALSE NEIGHBOUR: 'it returns false'. Refute it at one input. -/
def fnLdexpSumWrong : ChangeSpec := { name := "fnLdexpSum", fn := fun _ => fun
  | [d1, d2, d3] => { results := [.lit (.bool false)], args := [d1, d2, d3] }
  | _ => none }
def FnLdexpSumWrongFalsely : Prop := fnLdexpSumRow.holds Try.pinned (OpenSpec.ofChange fnLdexpSumWrong)

/-- 'laws.FnLdexpValue': WHATEVER THE INPUT: true; the input reads as it did. -/
def fnLdexpValueSpec : ChangeSpec := { name := "fnLdexpValue", fn := fun _ => fun
  | [d1, d2] => { results := [.lit (.bool true)], args := [d1, d2] }
  | _ => none }
def fnLdexpValueRow : OpenClaim := { program := "ytmdenmldbmafgaa", sum := "9456327573c42e9c3e0fa49fcd245110084d7523550bd749314fbb25f14ddf87", func := "loop.example/lib-g01186/laws.FnLdexpValue", spec := "fnLdexpValue", inPlace := ["math.Float64bits", "math.Float64frombits"], apart := false }
def FnLdexpValueSaid : Prop := fnLdexpValueRow.holds Try.pinned (OpenSpec.ofChange fnLdexpValueSpec)

/-- ITS FALSE NEIGHBOUR: 'it returns false'. Refute it at one input. -/
def fnLdexpValueWrong : ChangeSpec := { name := "fnLdexpValue", fn := fun _ => fun
  | [d1, d2] => { results := [.lit (.bool false)], args := [d1, d2] }
  | _ => none }
def FnLdexpValueWrongFalsely : Prop := fnLdexpValueRow.holds Try.pinned (OpenSpec.ofChange fnLdexpValueWrong)

/-- 'laws.FnLogbValue': WHATEVER THE INPUT: true; the input reads as it did. -/
def fnLogbValueSpec : ChangeSpec := { name := "fnLogbValue", fn := fun _ => fun
  | [d] => { results := [.lit (.bool true)], args := [d] }
  | _ => none }
def fnLogbValueRow : OpenClaim := { program := "ytmdenmldbmafgaa", sum := "9456327573c42e9c3e0fa49fcd245110084d7523550bd749314fbb25f14ddf87", func := "loop.example/lib-g01186/laws.FnLogbValue", spec := "fnLogbValue", inPlace := ["math.Float64frombits", "math.Float64bits"], apart := false }
def FnLogbValueSaid : Prop := fnLogbValueRow.holds Try.pinned (OpenSpec.ofChange fnLogbValueSpec)

/-- ITS FALSE NEIGHBOUR: 'it returns false'. Refute it at one input. -/
def fnLogbValueWrong : ChangeSpec := { name := "fnLogbValue", fn := fun _ => fun
  | [d] => { results := [.lit (.bool false)], args := [d] }
  | _ => none }
def FnLogbValueWrongFalsely : Prop := fnLogbValueRow.holds Try.pinned (OpenSpec.ofChange fnLogbValueWrong)

/-- 'laws.FnFrexpBack': WHATEVER THE INPUT: true; the input reads as it did. -/
def fnFrexpBackSpec : ChangeSpec := { name := "fnFrexpBack", fn := fun _ => fun
  | [d] => { results := [.lit (.bool true)], args := [d] }
  | _ => none }
def fnFrexpBackRow : OpenClaim := { program := "ytmdenmldbmafgaa", sum := "9456327573c42e9c3e0fa49fcd245110084d7523550bd749314fbb25f14ddf87", func := "loop.example/lib-g01186/laws.FnFrexpBack", spec := "fnFrexpBack", inPlace := ["math.Float64bits", "math.Float64frombits"], apart := false }
def FnFrexpBackSaid : Prop := fnFrexpBackRow.holds Try.pinned (OpenSpec.ofChange fnFrexpBackSpec)

/-- ITS FALSE NEIGHBOUR: 'it returns false'. Refute it at one input. -/
def fnFrexpBackWrong : ChangeSpec := { name := "fnFrexpBack", fn := fun _ => fun
  | [d] => { results := [.lit (.bool false)], args := [d] }
  | _ => none }
def FnFrexpBackWrongFalsely : Prop := fnFrexpBackRow.holds Try.pinned (OpenSpec.ofChange fnFrexpBackWrong)

/-- 'laws.FnFrexpScaled': WHATEVER THE INPUT: true; the input reads as it did. -/
def fnFrexpScaledSpec : ChangeSpec := { name := "fnFrexpScaled", fn := fun _ => fun
  | [d1, d2] => { results := [.lit (.bool true)], args := [d1, d2] }
  | _ => none }
def fnFrexpScaledRow : OpenClaim := { program := "ytmdenmldbmafgaa", sum := "9456327573c42e9c3e0fa49fcd245110084d7523550bd749314fbb25f14ddf87", func := "loop.example/lib-g01186/laws.FnFrexpScaled", spec := "fnFrexpScaled", inPlace := ["math.Float64bits", "math.Float64frombits"], apart := false }
def FnFrexpScaledSaid : Prop := fnFrexpScaledRow.holds Try.pinned (OpenSpec.ofChange fnFrexpScaledSpec)

/-- ITS FALSE NEIGHBOUR: 'it returns false'. Refute it at one input. -/
def fnFrexpScaledWrong : ChangeSpec := { name := "fnFrexpScaled", fn := fun _ => fun
  | [d1, d2] => { results := [.lit (.bool false)], args := [d1, d2] }
  | _ => none }
def FnFrexpScaledWrongFalsely : Prop := fnFrexpScaledRow.holds Try.pinned (OpenSpec.ofChange fnFrexpScaledWrong)

/-- 'laws.FnIlogbPower': WHATEVER THE INPUT: true; the input reads as it did. -/
def fnIlogbPowerSpec : ChangeSpec := { name := "fnIlogbPower", fn := fun _ => fun
  | [d] => { results := [.lit (.bool true)], args := [d] }
  | _ => none }
def fnIlogbPowerRow : OpenClaim := { program := "ytmdenmldbmafgaa", sum := "9456327573c42e9c3e0fa49fcd245110084d7523550bd749314fbb25f14ddf87", func := "loop.example/lib-g01186/laws.FnIlogbPower", spec := "fnIlogbPower", inPlace := ["math.Float64bits", "math.Float64frombits"], apart := false }
def FnIlogbPowerSaid : Prop := fnIlogbPowerRow.holds Try.pinned (OpenSpec.ofChange fnIlogbPowerSpec)

/-- ITS FALSE NEIGHBOUR: 'it returns false'. Refute it at one input. -/
def fnIlogbPowerWrong : ChangeSpec := { name := "fnIlogbPower", fn := fun _ => fun
  | [d] => { results := [.lit (.bool false)], args := [d] }
  | _ => none }
def FnIlogbPowerWrongFalsely : Prop := fnIlogbPowerRow.holds Try.pinned (OpenSpec.ofChange fnIlogbPowerWrong)

/-- 'laws.FnSqrtValue': WHATEVER THE INPUT: true; the input reads as it did. -/
def fnSqrtValueSpec : ChangeSpec := { name := "fnSqrtValue", fn := fun _ => fun
  | [d] => { results := [.lit (.bool true)], args := [d] }
  | _ => none }
def fnSqrtValueRow : OpenClaim := { program := "ytmdenmldbmafgaa", sum := "9456327573c42e9c3e0fa49fcd245110084d7523550bd749314fbb25f14ddf87", func := "loop.example/lib-g01186/laws.FnSqrtValue", spec := "fnSqrtValue", inPlace := ["math.sqrt"], apart := false }
def FnSqrtValueSaid : Prop := fnSqrtValueRow.holds Try.pinned (OpenSpec.ofChange fnSqrtValueSpec)

/-- ITS FALSE NEIGHBOUR: 'it returns false'. Refute it at one input. -/
def fnSqrtValueWrong : ChangeSpec := { name := "fnSqrtValue", fn := fun _ => fun
  | [d] => { results := [.lit (.bool false)], args := [d] }
  | _ => none }
def FnSqrtValueWrongFalsely : Prop := fnSqrtValueRow.holds Try.pinned (OpenSpec.ofChange fnSqrtValueWrong)

/-- 'laws.FnSqrtWhole': WHATEVER THE INPUT: true; the input reads as it did. -/
def fnSqrtWholeSpec : ChangeSpec := { name := "fnSqrtWhole", fn := fun _ => fun
  | [d] => { results := [.lit (.bool true)], args := [d] }
  | _ => none }
def fnSqrtWholeRow : OpenClaim := { program := "ytmdenmldbmafgaa", sum := "9456327573c42e9c3e0fa49fcd245110084d7523550bd749314fbb25f14ddf87", func := "loop.example/lib-g01186/laws.FnSqrtWhole", spec := "fnSqrtWhole", inPlace := ["math.sqrt"], apart := false }
def FnSqrtWholeSaid : Prop := fnSqrtWholeRow.holds Try.pinned (OpenSpec.ofChange fnSqrtWholeSpec)

/-- ITS FALSE NEIGHBOUR: 'it returns false'. Refute it at one input. -/
def fnSqrtWholeWrong : ChangeSpec := { name := "fnSqrtWhole", fn := fun _ => fun
  | [d] => { results := [.lit (.bool false)], args := [d] }
  | _ => none }
def FnSqrtWholeWrongFalsely : Prop := fnSqrtWholeRow.holds Try.pinned (OpenSpec.ofChange fnSqrtWholeWrong)

/-- 'laws.FnSqrtRises': WHATEVER THE INPUT: true; the input reads as it did. -/
def fnSqrtRisesSpec : ChangeSpec := { name := "fnSqrtRises", fn := fun _ => fun
  | [d1, d2] => { results := [.lit (.bool true)], args := [d1, d2] }
  | _ => none }
def fnSqrtRisesRow : OpenClaim := { program := "ytmdenmldbmafgaa", sum := "9456327573c42e9c3e0fa49fcd245110084d7523550bd749314fbb25f14ddf87", func := "loop.example/lib-g01186/laws.FnSqrtRises", spec := "fnSqrtRises", inPlace := ["math.sqrt"], apart := false }
def FnSqrtRisesSaid : Prop := fnSqrtRisesRow.holds Try.pinned (OpenSpec.ofChange fnSqrtRisesSpec)

/-- ITS FALSE NEIGHBOUR: 'it returns false'. Refute it at one input. -/
def fnSqrtRisesWrong : ChangeSpec := { name := "fnSqrtRises", fn := fun _ => fun
  | [d1, d2] => { results := [.lit (.bool false)], args := [d1, d2] }
  | _ => none }
def FnSqrtRisesWrongFalsely : Prop := fnSqrtRisesRow.holds Try.pinned (OpenSpec.ofChange fnSqrtRisesWrong)

/- THE SECOND FORM. 'bulk': how many values and letters a reading holds, each counted each time it is reached (what is shared counts as often as it is met; a slice's spare places count too). A statement '..UptoSaid' is the law's where the arguments, and the package variables that the reading takes, are together of bulk at most 1048576: NARROWER than '..Said'. Prove '..Said' where nothing that the law and all that it calls make is longer than what came in: it says more and counts as full. Else prove '..UptoSaid'. A law counts once. -/
mutual
def uptoBulk {H : Type} : DataW H → Nat
  | .lit (.string bytes) => bytes.length + 1
  | .lit _ => 1
  | .nil => 1
  | .ptr d => uptoBulk d + 1
  | .slice elems spare => uptoBulkAll elems + uptoBulkAll spare + 1
  | .agg parts => uptoBulkAll parts + 1
  | .iface _ d => uptoBulk d + 1
  | .map entries => uptoBulkEntries entries + 1
  | .held _ => 1
def uptoBulkAll {H : Type} : List (DataW H) → Nat
  | [] => 0
  | d :: r => uptoBulk d + uptoBulkAll r
def uptoBulkEntries {H : Type} : List (Lit × DataW H) → Nat
  | [] => 0
  | x :: r => uptoBulkEntry x + uptoBulkEntries r
def uptoBulkEntry {H : Type} : Lit × DataW H → Nat
  | (.string bytes, d) => bytes.length + uptoBulk d + 1
  | (_, d) => uptoBulk d + 1
 end
def uptoSmall : (H : Type) → List (DataW H) → Bool := fun _ ds => decide (uptoBulkAll ds ≤ 1048576)
def OpenSpec.upto (s : _root_.Go.ChangeSpec) : _root_.Go.OpenSpec := { _root_.Go.OpenSpec.ofChange s with cond := some uptoSmall }

/-- 'laws.FnLdexpExact', WHERE WHAT IT READS IS OF BULK AT MOST 1048576: true; the input reads as it did. -/
def fnLdexpExactUptoRow : OpenClaim := { program := "ytmdenmldbmafgaa", sum := "9456327573c42e9c3e0fa49fcd245110084d7523550bd749314fbb25f14ddf87", func := "loop.example/lib-g01186/laws.FnLdexpExact", spec := "fnLdexpExact", inPlace := ["math.Float64bits", "math.Float64frombits"], apart := false, narrowed := true }
def FnLdexpExactUptoSaid : Prop := fnLdexpExactUptoRow.holds Try.pinned (OpenSpec.upto fnLdexpExactSpec)

/-- 'laws.FnLdexpGreat', WHERE WHAT IT READS IS OF BULK AT MOST 1048576: true; the input reads as it did. -/
def fnLdexpGreatUptoRow : OpenClaim := { program := "ytmdenmldbmafgaa", sum := "9456327573c42e9c3e0fa49fcd245110084d7523550bd749314fbb25f14ddf87", func := "loop.example/lib-g01186/laws.FnLdexpGreat", spec := "fnLdexpGreat", inPlace := ["math.Float64bits", "math.Float64frombits"], apart := false, narrowed := true }
def FnLdexpGreatUptoSaid : Prop := fnLdexpGreatUptoRow.holds Try.pinned (OpenSpec.upto fnLdexpGreatSpec)

/-- 'laws.FnLdexpSmall', WHERE WHAT IT READS IS OF BULK AT MOST 1048576: true; the input reads as it did. -/
def fnLdexpSmallUptoRow : OpenClaim := { program := "ytmdenmldbmafgaa", sum := "9456327573c42e9c3e0fa49fcd245110084d7523550bd749314fbb25f14ddf87", func := "loop.example/lib-g01186/laws.FnLdexpSmall", spec := "fnLdexpSmall", inPlace := ["math.Float64bits", "math.Float64frombits"], apart := false, narrowed := true }
def FnLdexpSmallUptoSaid : Prop := fnLdexpSmallUptoRow.holds Try.pinned (OpenSpec.upto fnLdexpSmallSpec)

/-- 'laws.FnLdexpSum', WHERE WHAT IT READS IS OF BULK AT MOST 1048576: true; the input reads as it did. -/
def fnLdexpSumUptoRow : OpenClaim := { program := "ytmdenmldbmafgaa", sum := "9456327573c42e9c3e0fa49fcd245110084d7523550bd749314fbb25f14ddf87", func := "loop.example/lib-g01186/laws.FnLdexpSum", spec := "fnLdexpSum", inPlace := ["math.Float64bits", "math.Float64frombits"], apart := false, narrowed := true }
def FnLdexpSumUptoSaid : Prop := fnLdexpSumUptoRow.holds Try.pinned (OpenSpec.upto fnLdexpSumSpec)

/-- 'laws.FnLdexpValue', WHERE WHAT IT READS IS OF BULK AT MOST 1048576: true; the input reads as it did. -/
def fnLdexpValueUptoRow : OpenClaim := { program := "ytmdenmldbmafgaa", sum := "9456327573c42e9c3e0fa49fcd245110084d7523550bd749314fbb25f14ddf87", func := "loop.example/lib-g01186/laws.FnLdexpValue", spec := "fnLdexpValue", inPlace := ["math.Float64bits", "math.Float64frombits"], apart := false, narrowed := true }
def FnLdexpValueUptoSaid : Prop := fnLdexpValueUptoRow.holds Try.pinned (OpenSpec.upto fnLdexpValueSpec)

/-- 'laws.FnLogbValue', WHERE WHAT IT READS IS OF BULK AT MOST 1048576: true; the input reads as it did. -/
def fnLogbValueUptoRow : OpenClaim := { program := "ytmdenmldbmafgaa", sum := "9456327573c42e9c3e0fa49fcd245110084d7523550bd749314fbb25f14ddf87", func := "loop.example/lib-g01186/laws.FnLogbValue", spec := "fnLogbValue", inPlace := ["math.Float64frombits", "math.Float64bits"], apart := false, narrowed := true }
def FnLogbValueUptoSaid : Prop := fnLogbValueUptoRow.holds Try.pinned (OpenSpec.upto fnLogbValueSpec)

/-- 'laws.FnFrexpBack', WHERE WHAT IT READS IS OF BULK AT MOST 1048576: true; the input reads as it did. -/
def fnFrexpBackUptoRow : OpenClaim := { program := "ytmdenmldbmafgaa", sum := "9456327573c42e9c3e0fa49fcd245110084d7523550bd749314fbb25f14ddf87", func := "loop.example/lib-g01186/laws.FnFrexpBack", spec := "fnFrexpBack", inPlace := ["math.Float64bits", "math.Float64frombits"], apart := false, narrowed := true }
def FnFrexpBackUptoSaid : Prop := fnFrexpBackUptoRow.holds Try.pinned (OpenSpec.upto fnFrexpBackSpec)

/-- 'laws.FnFrexpScaled', WHERE WHAT IT READS IS OF BULK AT MOST 1048576: true; the input reads as it did. -/
def fnFrexpScaledUptoRow : OpenClaim := { program := "ytmdenmldbmafgaa", sum := "9456327573c42e9c3e0fa49fcd245110084d7523550bd749314fbb25f14ddf87", func := "loop.example/lib-g01186/laws.FnFrexpScaled", spec := "fnFrexpScaled", inPlace := ["math.Float64bits", "math.Float64frombits"], apart := false, narrowed := true }
def FnFrexpScaledUptoSaid : Prop := fnFrexpScaledUptoRow.holds Try.pinned (OpenSpec.upto fnFrexpScaledSpec)

/-- 'laws.FnIlogbPower', WHERE WHAT IT READS IS OF BULK AT MOST 1048576: true; the input reads as it did. -/
def fnIlogbPowerUptoRow : OpenClaim := { program := "ytmdenmldbmafgaa", sum := "9456327573c42e9c3e0fa49fcd245110084d7523550bd749314fbb25f14ddf87", func := "loop.example/lib-g01186/laws.FnIlogbPower", spec := "fnIlogbPower", inPlace := ["math.Float64bits", "math.Float64frombits"], apart := false, narrowed := true }
def FnIlogbPowerUptoSaid : Prop := fnIlogbPowerUptoRow.holds Try.pinned (OpenSpec.upto fnIlogbPowerSpec)

/-- 'laws.FnSqrtValue', WHERE WHAT IT READS IS OF BULK AT MOST 1048576: true; the input reads as it did. -/
def fnSqrtValueUptoRow : OpenClaim := { program := "ytmdenmldbmafgaa", sum := "9456327573c42e9c3e0fa49fcd245110084d7523550bd749314fbb25f14ddf87", func := "loop.example/lib-g01186/laws.FnSqrtValue", spec := "fnSqrtValue", inPlace := ["math.sqrt"], apart := false, narrowed := true }
def FnSqrtValueUptoSaid : Prop := fnSqrtValueUptoRow.holds Try.pinned (OpenSpec.upto fnSqrtValueSpec)

/-- 'laws.FnSqrtWhole', WHERE WHAT IT READS IS OF BULK AT MOST 1048576: true; the input reads as it did. -/
def fnSqrtWholeUptoRow : OpenClaim := { program := "ytmdenmldbmafgaa", sum := "9456327573c42e9c3e0fa49fcd245110084d7523550bd749314fbb25f14ddf87", func := "loop.example/lib-g01186/laws.FnSqrtWhole", spec := "fnSqrtWhole", inPlace := ["math.sqrt"], apart := false, narrowed := true }
def FnSqrtWholeUptoSaid : Prop := fnSqrtWholeUptoRow.holds Try.pinned (OpenSpec.upto fnSqrtWholeSpec)

/-- 'laws.FnSqrtRises', WHERE WHAT IT READS IS OF BULK AT MOST 1048576: true; the input reads as it did. -/
def fnSqrtRisesUptoRow : OpenClaim := { program := "ytmdenmldbmafgaa", sum := "9456327573c42e9c3e0fa49fcd245110084d7523550bd749314fbb25f14ddf87", func := "loop.example/lib-g01186/laws.FnSqrtRises", spec := "fnSqrtRises", inPlace := ["math.sqrt"], apart := false, narrowed := true }
def FnSqrtRisesUptoSaid : Prop := fnSqrtRisesUptoRow.holds Try.pinned (OpenSpec.upto fnSqrtRisesSpec)

end Rows
end Go.Proofs.Ytmdenmldbmafgaa
