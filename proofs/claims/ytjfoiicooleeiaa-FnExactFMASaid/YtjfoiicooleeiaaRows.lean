/-
  No cell of these rows narrows 'for every input' (looked for: loops, veiled, ifaces, maps, wideKeys, modest, calm, conditions, laid).
  DERIVED. THE GIVEN ROWS OF THIS SEAT. 9 by the template 'for every input the law returns true; each argument reads behind the call as it read before'; 0 by the template 'total and deterministic' (their statements: YtjfoiicooleeiaaTotals.lean).
  GIVEN WITH THE SEED: the statements are not yours to turn. If you find one false, say at which input.
  Laid BY PROGRAM, IN A SANDBOX (cutbox-rows.mjs): the forced cells as the released guide's own fill.sh prints them over the translation accf47e58360e79b… (all of the seat's roots in one cut). By AI agents, Wed Nov 11 2026. No macro, syntax, notation, axiom, sorry.
-/
import Derived.Test.YtjfoiicooleeiaaChecked
import GoSem.Claim
import GoSem.ClaimJoined
import GoSem.ClaimMapViews
import Derived.JoinedTies
import Derived.KernelRfl
namespace Go.Proofs.Ytjfoiicooleeiaa
/- THE CELL 'sum', in the pinned program and in every row, IS THE sha256 OF THE DUMP (.gsa) THAT YtjfoiicooleeiaaProg.lean LOADS. Nothing in Lean hashes anything: it is a label: what it is worth is what the hold of that sum in a sandbox is worth. -/
noncomputable def Try.pinned : Pinned := { name := "ytjfoiicooleeiaa", sum := "accf47e58360e79be44c929d6d513782f2d3bcb2d005d2b6474b2a3f3edeeb27", checked := Try.checked }
namespace Rows
def none {H : Type} : Left H := { results := [], args := [] }

/-- 'laws.FnExactSqrt': WHATEVER THE INPUT: true; the input reads as it did. -/
def fnExactSqrtSpec : ChangeSpec := { name := "fnExactSqrt", fn := fun _ => fun
  | [d] => { results := [.lit (.bool true)], args := [d] }
  | _ => none }
def fnExactSqrtRow : OpenClaim := { program := "ytjfoiicooleeiaa", sum := "accf47e58360e79be44c929d6d513782f2d3bcb2d005d2b6474b2a3f3edeeb27", func := "loop.example/lib-g01186/laws.FnExactSqrt", spec := "fnExactSqrt", inPlace := ["math.sqrt"], apart := false }
def FnExactSqrtSaid : Prop := fnExactSqrtRow.holds Try.pinned (OpenSpec.ofChange fnExactSqrtSpec)

/-- ITS FALSE NEIGHBOUR: 'it returns false'. Refute it at one input. -/
def fnExactSqrtWrong : ChangeSpec := { name := "fnExactSqrt", fn := fun _ => fun
  | [d] => { results := [.lit (.bool false)], args := [d] }
  | _ => none }
def FnExactSqrtWrongFalsely : Prop := fnExactSqrtRow.holds Try.pinned (OpenSpec.ofChange fnExactSqrtWrong)

/-- 'laws.FnSqrtSquare': WHATEVER THE INPUT: true; the input reads as it did. -/
def fnSqrtSquareSpec : ChangeSpec := { name := "fnSqrtSquare", fn := fun _ => fun
  | [d] => { results := [.lit (.bool true)], args := [d] }
  | _ => none }
def fnSqrtSquareRow : OpenClaim := { program := "ytjfoiicooleeiaa", sum := "accf47e58360e79be44c929d6d513782f2d3bcb2d005d2b6474b2a3f3edeeb27", func := "loop.example/lib-g01186/laws.FnSqrtSquare", spec := "fnSqrtSquare", inPlace := ["math.sqrt"], apart := false }
def FnSqrtSquareSaid : Prop := fnSqrtSquareRow.holds Try.pinned (OpenSpec.ofChange fnSqrtSquareSpec)

/-- ITS FALSE NEIGHBOUR: 'it returns false'. Refute it at one input. -/
def fnSqrtSquareWrong : ChangeSpec := { name := "fnSqrtSquare", fn := fun _ => fun
  | [d] => { results := [.lit (.bool false)], args := [d] }
  | _ => none }
def FnSqrtSquareWrongFalsely : Prop := fnSqrtSquareRow.holds Try.pinned (OpenSpec.ofChange fnSqrtSquareWrong)

/-- 'laws.FnSqrtScaled': WHATEVER THE INPUT: true; the input reads as it did. -/
def fnSqrtScaledSpec : ChangeSpec := { name := "fnSqrtScaled", fn := fun _ => fun
  | [d1, d2] => { results := [.lit (.bool true)], args := [d1, d2] }
  | _ => none }
def fnSqrtScaledRow : OpenClaim := { program := "ytjfoiicooleeiaa", sum := "accf47e58360e79be44c929d6d513782f2d3bcb2d005d2b6474b2a3f3edeeb27", func := "loop.example/lib-g01186/laws.FnSqrtScaled", spec := "fnSqrtScaled", inPlace := ["math.sqrt", "math.Float64bits", "math.Float64frombits"], apart := false }
def FnSqrtScaledSaid : Prop := fnSqrtScaledRow.holds Try.pinned (OpenSpec.ofChange fnSqrtScaledSpec)

/-- ITS FALSE NEIGHBOUR: 'it returns false'. Refute it at one input. -/
def fnSqrtScaledWrong : ChangeSpec := { name := "fnSqrtScaled", fn := fun _ => fun
  | [d1, d2] => { results := [.lit (.bool false)], args := [d1, d2] }
  | _ => none }
def FnSqrtScaledWrongFalsely : Prop := fnSqrtScaledRow.holds Try.pinned (OpenSpec.ofChange fnSqrtScaledWrong)

/-- 'laws.FnSqrtNearest': WHATEVER THE INPUT: true; the input reads as it did. -/
def fnSqrtNearestSpec : ChangeSpec := { name := "fnSqrtNearest", fn := fun _ => fun
  | [d] => { results := [.lit (.bool true)], args := [d] }
  | _ => none }
def fnSqrtNearestRow : OpenClaim := { program := "ytjfoiicooleeiaa", sum := "accf47e58360e79be44c929d6d513782f2d3bcb2d005d2b6474b2a3f3edeeb27", func := "loop.example/lib-g01186/laws.FnSqrtNearest", spec := "fnSqrtNearest", inPlace := ["math.sqrt", "math.Float64frombits", "math.Float64bits", "math.FMA"], apart := false }
def FnSqrtNearestSaid : Prop := fnSqrtNearestRow.holds Try.pinned (OpenSpec.ofChange fnSqrtNearestSpec)

/-- ITS FALSE NEIGHBOUR: 'it returns false'. Refute it at one input. -/
def fnSqrtNearestWrong : ChangeSpec := { name := "fnSqrtNearest", fn := fun _ => fun
  | [d] => { results := [.lit (.bool false)], args := [d] }
  | _ => none }
def FnSqrtNearestWrongFalsely : Prop := fnSqrtNearestRow.holds Try.pinned (OpenSpec.ofChange fnSqrtNearestWrong)

/-- 'laws.FnFMASum': WHATEVER THE INPUT: true; the input reads as it did. -/
def fnFMASumSpec : ChangeSpec := { name := "fnFMASum", fn := fun _ => fun
  | [d1, d2] => { results := [.lit (.bool true)], args := [d1, d2] }
  | _ => none }
def fnFMASumRow : OpenClaim := { program := "ytjfoiicooleeiaa", sum := "accf47e58360e79be44c929d6d513782f2d3bcb2d005d2b6474b2a3f3edeeb27", func := "loop.example/lib-g01186/laws.FnFMASum", spec := "fnFMASum", inPlace := ["math.FMA"], apart := false }
def FnFMASumSaid : Prop := fnFMASumRow.holds Try.pinned (OpenSpec.ofChange fnFMASumSpec)

/-- ITS FALSE NEIGHBOUR: 'it returns false'. Refute it at one input. -/
def fnFMASumWrong : ChangeSpec := { name := "fnFMASum", fn := fun _ => fun
  | [d1, d2] => { results := [.lit (.bool false)], args := [d1, d2] }
  | _ => none }
def FnFMASumWrongFalsely : Prop := fnFMASumRow.holds Try.pinned (OpenSpec.ofChange fnFMASumWrong)

/-- 'laws.FnFMAScaled': WHATEVER THE INPUT: true; the input reads as it did. -/
def fnFMAScaledSpec : ChangeSpec := { name := "fnFMAScaled", fn := fun _ => fun
  | [d1, d2, d3, d4] => { results := [.lit (.bool true)], args := [d1, d2, d3, d4] }
  | _ => none }
def fnFMAScaledRow : OpenClaim := { program := "ytjfoiicooleeiaa", sum := "accf47e58360e79be44c929d6d513782f2d3bcb2d005d2b6474b2a3f3edeeb27", func := "loop.example/lib-g01186/laws.FnFMAScaled", spec := "fnFMAScaled", inPlace := ["math.FMA", "math.Float64bits", "math.Float64frombits"], apart := false }
def FnFMAScaledSaid : Prop := fnFMAScaledRow.holds Try.pinned (OpenSpec.ofChange fnFMAScaledSpec)

/-- ITS FALSE NEIGHBOUR: 'it returns false'. Refute it at one input. -/
def fnFMAScaledWrong : ChangeSpec := { name := "fnFMAScaled", fn := fun _ => fun
  | [d1, d2, d3, d4] => { results := [.lit (.bool false)], args := [d1, d2, d3, d4] }
  | _ => none }
def FnFMAScaledWrongFalsely : Prop := fnFMAScaledRow.holds Try.pinned (OpenSpec.ofChange fnFMAScaledWrong)

/-- 'laws.FnExactFMA': WHATEVER THE INPUT: true; the input reads as it did. -/
def fnExactFMASpec : ChangeSpec := { name := "fnExactFMA", fn := fun _ => fun
  | [d1, d2, d3] => { results := [.lit (.bool true)], args := [d1, d2, d3] }
  | _ => none }
def fnExactFMARow : OpenClaim := { program := "ytjfoiicooleeiaa", sum := "accf47e58360e79be44c929d6d513782f2d3bcb2d005d2b6474b2a3f3edeeb27", func := "loop.example/lib-g01186/laws.FnExactFMA", spec := "fnExactFMA", inPlace := ["math.FMA"], apart := false }
def FnExactFMASaid : Prop := fnExactFMARow.holds Try.pinned (OpenSpec.ofChange fnExactFMASpec)

/-- ITS FALSE NEIGHBOUR: 'it returns false'. Refute it at one input. -/
def fnExactFMAWrong : ChangeSpec := { name := "fnExactFMA", fn := fun _ => fun
  | [d1, d2, d3] => { results := [.lit (.bool false)], args := [d1, d2, d3] }
  | _ => none }
def FnExactFMAWrongFalsely : Prop := fnExactFMARow.holds Try.pinned (OpenSpec.ofChange fnExactFMAWrong)

/-- 'laws.FnFMARest': WHATEVER THE INPUT: true; the input reads as it did. -/
def fnFMARestSpec : ChangeSpec := { name := "fnFMARest", fn := fun _ => fun
  | [d1, d2] => { results := [.lit (.bool true)], args := [d1, d2] }
  | _ => none }
def fnFMARestRow : OpenClaim := { program := "ytjfoiicooleeiaa", sum := "accf47e58360e79be44c929d6d513782f2d3bcb2d005d2b6474b2a3f3edeeb27", func := "loop.example/lib-g01186/laws.FnFMARest", spec := "fnFMARest", inPlace := ["math.FMA"], apart := false }
def FnFMARestSaid : Prop := fnFMARestRow.holds Try.pinned (OpenSpec.ofChange fnFMARestSpec)

/-- ITS FALSE NEIGHBOUR: 'it returns false'. Refute it at one input. -/
def fnFMARestWrong : ChangeSpec := { name := "fnFMARest", fn := fun _ => fun
  | [d1, d2] => { results := [.lit (.bool false)], args := [d1, d2] }
  | _ => none }
def FnFMARestWrongFalsely : Prop := fnFMARestRow.holds Try.pinned (OpenSpec.ofChange fnFMARestWrong)

/-- 'laws.FnFMASigns': WHATEVER THE INPUT: true; the input reads as it did. -/
def fnFMASignsSpec : ChangeSpec := { name := "fnFMASigns", fn := fun _ => fun
  | [d1, d2, d3] => { results := [.lit (.bool true)], args := [d1, d2, d3] }
  | _ => none }
def fnFMASignsRow : OpenClaim := { program := "ytjfoiicooleeiaa", sum := "accf47e58360e79be44c929d6d513782f2d3bcb2d005d2b6474b2a3f3edeeb27", func := "loop.example/lib-g01186/laws.FnFMASigns", spec := "fnFMASigns", inPlace := ["math.FMA"], apart := false }
def FnFMASignsSaid : Prop := fnFMASignsRow.holds Try.pinned (OpenSpec.ofChange fnFMASignsSpec)

/-- ITS FALSE NEIGHBOUR: 'it returns false'. Refute it at one input. -/
def fnFMASignsWrong : ChangeSpec := { name := "fnFMASigns", fn := fun _ => fun
  | [d1, d2, d3] => { results := [.lit (.bool false)], args := [d1, d2, d3] }
  | _ => none }
def FnFMASignsWrongFalsely : Prop := fnFMASignsRow.holds Try.pinned (OpenSpec.ofChange fnFMASignsWrong)

/- THE SECOND FORM. 'bulk': how many values and letters a reading holds, each counted each time it is reached (what is shared counts as often as it is met; a slice's spare places count too). A statement '..UptoSaid' is the law's where the arguments, and the package variables that the reading takes, are together of bulk at most 1048576: NARROWER than '..Said'. Prove '..Said' where nothing that the law and all that it calls make is longer than what came in: it says more and counts as full. Else prove '..UptoSaid'. A law counts once. -/
mutual
def uptoBulk {H : Type} : DataW H → Nat
  | .lit (.string bytes) => bytes.length + 1
  | .lit _ => 1
  | .nil => 1
  | .ptr d => uptoBulk d + 1
  | .slice elems spare => uptoBulkAll elems + uptoBulkAll spare + 1
  | .agg parts => uptoBulkAll parts + 1
  | .iface _ d => uptoBulk d + 1
  | .map entries => uptoBulkEntries entries + 1
  | .held _ => 1
def uptoBulkAll {H : Type} : List (DataW H) → Nat
  | [] => 0
  | d :: r => uptoBulk d + uptoBulkAll r
def uptoBulkEntries {H : Type} : List (Lit × DataW H) → Nat
  | [] => 0
  | x :: r => uptoBulkEntry x + uptoBulkEntries r
def uptoBulkEntry {H : Type} : Lit × DataW H → Nat
  | (.string bytes, d) => bytes.length + uptoBulk d + 1
  | (_, d) => uptoBulk d + 1
 end
def uptoSmall : (H : Type) → List (DataW H) → Bool := fun _ ds => decide (uptoBulkAll ds ≤ 1048576)
def OpenSpec.upto (s : _root_.Go.ChangeSpec) : _root_.Go.OpenSpec := { _root_.Go.OpenSpec.ofChange s with cond := some uptoSmall }

/-- 'laws.FnExactSqrt', WHERE WHAT IT READS IS OF BULK AT MOST 1048576: true; the input reads as it did. -/
def fnExactSqrtUptoRow : OpenClaim := { program := "ytjfoiicooleeiaa", sum := "accf47e58360e79be44c929d6d513782f2d3bcb2d005d2b6474b2a3f3edeeb27", func := "loop.example/lib-g01186/laws.FnExactSqrt", spec := "fnExactSqrt", inPlace := ["math.sqrt"], apart := false, narrowed := true }
def FnExactSqrtUptoSaid : Prop := fnExactSqrtUptoRow.holds Try.pinned (OpenSpec.upto fnExactSqrtSpec)

/-- 'laws.FnSqrtSquare', WHERE WHAT IT READS IS OF BULK AT MOST 1048576: true; the input reads as it did. -/
def fnSqrtSquareUptoRow : OpenClaim := { program := "ytjfoiicooleeiaa", sum := "accf47e58360e79be44c929d6d513782f2d3bcb2d005d2b6474b2a3f3edeeb27", func := "loop.example/lib-g01186/laws.FnSqrtSquare", spec := "fnSqrtSquare", inPlace := ["math.sqrt"], apart := false, narrowed := true }
def FnSqrtSquareUptoSaid : Prop := fnSqrtSquareUptoRow.holds Try.pinned (OpenSpec.upto fnSqrtSquareSpec)

/-- 'laws.FnSqrtScaled', WHERE WHAT IT READS IS OF BULK AT MOST 1048576: true; the input reads as it did. -/
def fnSqrtScaledUptoRow : OpenClaim := { program := "ytjfoiicooleeiaa", sum := "accf47e58360e79be44c929d6d513782f2d3bcb2d005d2b6474b2a3f3edeeb27", func := "loop.example/lib-g01186/laws.FnSqrtScaled", spec := "fnSqrtScaled", inPlace := ["math.sqrt", "math.Float64bits", "math.Float64frombits"], apart := false, narrowed := true }
def FnSqrtScaledUptoSaid : Prop := fnSqrtScaledUptoRow.holds Try.pinned (OpenSpec.upto fnSqrtScaledSpec)

/-- 'laws.FnSqrtNearest', WHERE WHAT IT READS IS OF BULK AT MOST 1048576: true; the input reads as it did. -/
def fnSqrtNearestUptoRow : OpenClaim := { program := "ytjfoiicooleeiaa", sum := "accf47e58360e79be44c929d6d513782f2d3bcb2d005d2b6474b2a3f3edeeb27", func := "loop.example/lib-g01186/laws.FnSqrtNearest", spec := "fnSqrtNearest", inPlace := ["math.sqrt", "math.Float64frombits", "math.Float64bits", "math.FMA"], apart := false, narrowed := true }
def FnSqrtNearestUptoSaid : Prop := fnSqrtNearestUptoRow.holds Try.pinned (OpenSpec.upto fnSqrtNearestSpec)

/-- 'laws.FnFMASum', WHERE WHAT IT READS IS OF BULK AT MOST 1048576: true; the input reads as it did. -/
def fnFMASumUptoRow : OpenClaim := { program := "ytjfoiicooleeiaa", sum := "accf47e58360e79be44c929d6d513782f2d3bcb2d005d2b6474b2a3f3edeeb27", func := "loop.example/lib-g01186/laws.FnFMASum", spec := "fnFMASum", inPlace := ["math.FMA"], apart := false, narrowed := true }
def FnFMASumUptoSaid : Prop := fnFMASumUptoRow.holds Try.pinned (OpenSpec.upto fnFMASumSpec)

/-- 'laws.FnFMAScaled', WHERE WHAT IT READS IS OF BULK AT MOST 1048576: true; the input reads as it did. -/
def fnFMAScaledUptoRow : OpenClaim := { program := "ytjfoiicooleeiaa", sum := "accf47e58360e79be44c929d6d513782f2d3bcb2d005d2b6474b2a3f3edeeb27", func := "loop.example/lib-g01186/laws.FnFMAScaled", spec := "fnFMAScaled", inPlace := ["math.FMA", "math.Float64bits", "math.Float64frombits"], apart := false, narrowed := true }
def FnFMAScaledUptoSaid : Prop := fnFMAScaledUptoRow.holds Try.pinned (OpenSpec.upto fnFMAScaledSpec)

/-- 'laws.FnExactFMA', WHERE WHAT IT READS IS OF BULK AT MOST 1048576: true; the input reads as it did. -/
def fnExactFMAUptoRow : OpenClaim := { program := "ytjfoiicooleeiaa", sum := "accf47e58360e79be44c929d6d513782f2d3bcb2d005d2b6474b2a3f3edeeb27", func := "loop.example/lib-g01186/laws.FnExactFMA", spec := "fnExactFMA", inPlace := ["math.FMA"], apart := false, narrowed := true }
def FnExactFMAUptoSaid : Prop := fnExactFMAUptoRow.holds Try.pinned (OpenSpec.upto fnExactFMASpec)

/-- 'laws.FnFMARest', WHERE WHAT IT READS IS OF BULK AT MOST 1048576: true; the input reads as it did. -/
def fnFMARestUptoRow : OpenClaim := { program := "ytjfoiicooleeiaa", sum := "accf47e58360e79be44c929d6d513782f2d3bcb2d005d2b6474b2a3f3edeeb27", func := "loop.example/lib-g01186/laws.FnFMARest", spec := "fnFMARest", inPlace := ["math.FMA"], apart := false, narrowed := true }
def FnFMARestUptoSaid : Prop := fnFMARestUptoRow.holds Try.pinned (OpenSpec.upto fnFMARestSpec)

/-- 'laws.FnFMASigns', WHERE WHAT IT READS IS OF BULK AT MOST 1048576: true; the input reads as it did. -/
def fnFMASignsUptoRow : OpenClaim := { program := "ytjfoiicooleeiaa", sum := "accf47e58360e79be44c929d6d513782f2d3bcb2d005d2b6474b2a3f3edeeb27", func := "loop.example/lib-g01186/laws.FnFMASigns", spec := "fnFMASigns", inPlace := ["math.FMA"], apart := false, narrowed := true }
def FnFMASignsUptoSaid : Prop := fnFMASignsUptoRow.holds Try.pinned (OpenSpec.upto fnFMASignsSpec)

end Rows
end Go.Proofs.Ytjfoiicooleeiaa
