/- The walk's laws for floats: comparisons, arithmetic and the sign, as plain functions of the operands' bits; no condition. -/
import Derived.Test.YtjfoiicooleeiaaRows
import Derived.Test.YtjfoiicooleeiaaFd
import Derived.Test.YtjfoiicooleeiaaFs
import Derived.WalkKit
import Derived.WalkSpells
import Derived.Deep.Draws
namespace Go.Proofs.Ytjfoiicooleeiaa
open Go.RowKit

/-- a fact that the walk shall not use -/
structure Hd (p : Prop) : Prop where
  out : p

def eqF (k : FloatKind) (a b : Nat) : Bool := k.format.order a b == some .eq
def ltF (k : FloatKind) (a b : Nat) : Bool := k.format.order a b == some .lt
def leF (k : FloatKind) (a b : Nat) : Bool := k.format.order a b == some .lt || k.format.order a b == some .eq

theorem cmpI_swap (a b : Int) : (Fd.cmpI a b = .gt) ↔ (Fd.cmpI b a = .lt) := by
  unfold Fd.cmpI; (repeat' split) <;> first | omega | simp
theorem cmpI_swap_s (a b : Int) : (Fs.cmpI a b = .gt) ↔ (Fs.cmpI b a = .lt) := by
  unfold Fs.cmpI; (repeat' split) <;> first | omega | simp
theorem cmpI_eq (a b : Int) : (Fd.cmpI a b = .eq) ↔ (Fd.cmpI b a = .eq) := by
  unfold Fd.cmpI; (repeat' split) <;> first | omega | simp
theorem cmpI_eq_s (a b : Int) : (Fs.cmpI a b = .eq) ↔ (Fs.cmpI b a = .eq) := by
  unfold Fs.cmpI; (repeat' split) <;> first | omega | simp

theorem order_gt (k : FloatKind) (a b : Nat) : (k.format.order a b == some .gt) = ltF k b a := by
  unfold ltF
  cases k
  · show (Ieee.single.order a b == some .gt) = (Ieee.single.order b a == some .lt)
    rw [Fs.order_eq, Fs.order_eq]
    rw [Bool.eq_iff_iff]
    cases Fs.nan a <;> cases Fs.nan b <;> simp [cmpI_swap_s]
  · show (Ieee.double.order a b == some .gt) = (Ieee.double.order b a == some .lt)
    rw [Fd.order_eq, Fd.order_eq]
    rw [Bool.eq_iff_iff]
    cases Fd.nan a <;> cases Fd.nan b <;> simp [cmpI_swap]
theorem eqF_comm (k : FloatKind) (a b : Nat) : eqF k a b = eqF k b a := by
  unfold eqF
  cases k
  · show (Ieee.single.order a b == some .eq) = (Ieee.single.order b a == some .eq)
    rw [Fs.order_eq, Fs.order_eq]
    rw [Bool.eq_iff_iff]
    cases Fs.nan a <;> cases Fs.nan b <;> simp
    exact cmpI_eq_s _ _
  · show (Ieee.double.order a b == some .eq) = (Ieee.double.order b a == some .eq)
    rw [Fd.order_eq, Fd.order_eq]
    rw [Bool.eq_iff_iff]
    cases Fd.nan a <;> cases Fd.nan b <;> simp
    exact cmpI_eq _ _

@[go_sem] theorem binOp_f_eql (t : TypeId) (k : FloatKind) (a b : Nat) : binOp .eql t (.float k a) (.float k b) = pure (.bool (eqF k a b)) := by simp [binOp, Op.floatCmp, eqF]
@[go_sem] theorem binOp_f_neq (t : TypeId) (k : FloatKind) (a b : Nat) : binOp .neq t (.float k a) (.float k b) = pure (.bool (!eqF k a b)) := by simp [binOp, Op.floatCmp, eqF]; rfl
@[go_sem] theorem binOp_f_lss (t : TypeId) (k : FloatKind) (a b : Nat) : binOp .lss t (.float k a) (.float k b) = pure (.bool (ltF k a b)) := by simp [binOp, Op.floatCmp, ltF]
@[go_sem] theorem binOp_f_leq (t : TypeId) (k : FloatKind) (a b : Nat) : binOp .leq t (.float k a) (.float k b) = pure (.bool (leF k a b)) := by simp [binOp, Op.floatCmp, leF]
@[go_sem] theorem binOp_f_gtr (t : TypeId) (k : FloatKind) (a b : Nat) : binOp .gtr t (.float k a) (.float k b) = pure (.bool (ltF k b a)) := by simp [binOp, Op.floatCmp, order_gt]
@[go_sem] theorem binOp_f_geq (t : TypeId) (k : FloatKind) (a b : Nat) : binOp .geq t (.float k a) (.float k b) = pure (.bool (leF k b a)) := by
  have h1 := order_gt k a b
  have h2 := eqF_comm k a b
  unfold eqF at h2
  simp [binOp, Op.floatCmp, h1, h2, leF]; rfl
@[go_sem] theorem unary_f_neg (k : FloatKind) (b : Nat) : Op.unary .neg (.float k b) = pure (.float k (Op.negFloat k b)) := rfl

/-- a result of an operation: the bits, or any not-a-number where it has no answer -/
def arith (op : BinOp) (k : FloatKind) (x y : Nat) : Option Nat :=
  match op with
  | .add => k.format.add x y
  | .sub => k.format.sub x y
  | .mul => k.format.mul x y
  | .quo => k.format.div x y
  | _ => none

def nb (k : FloatKind) (x y : Nat) (w : World) : Nat := (Question.nanBits k x y).cut (w.tape w.drawn (.nanBits k x y))

theorem nb64 (x y : Nat) (w : World) : Fd.nan (nb .f64 x y w) = true ∧ nb .f64 x y w < 18446744073709551616 := by
  unfold nb Question.cut Fd.nan Fd.rg
  simp only [decide_eq_true_eq]
  generalize w.tape _ _ = t
  have h1 : t % 2 < 2 := Nat.mod_lt _ (by decide)
  have h2 : t / 2 % (2 ^ 52 - 1) < 2 ^ 52 - 1 := Nat.mod_lt _ (by decide)
  generalize t % 2 = a at *
  generalize t / 2 % (2 ^ 52 - 1) = b at *
  omega

theorem run_some {P : Program} (op : BinOp) (t : TypeId) (k : FloatKind) (x y r : Nat) (h : arith op k x y = some r) (w : World) : (binOp op t (.float k x) (.float k y)).run P w = .ok (.float k r) w := by
  unfold arith at h
  cases op <;> simp only at h <;> first | (cases h; done) | skip
  all_goals simp [binOp, Op.floatArith, h]

theorem run_none {P : Program} (op : BinOp) (hop : op = .add ∨ op = .sub ∨ op = .mul ∨ op = .quo) (t : TypeId) (k : FloatKind) (x y : Nat) (h : arith op k x y = none) (w : World) : (binOp op t (.float k x) (.float k y)).run P w = .ok (.float k (nb k x y w)) w.drew := by
  unfold arith at h
  rcases hop with rfl | rfl | rfl | rfl <;> simp only at h
  all_goals
    simp only [binOp, Op.floatArith, h, ne_eq, not_true_eq_false, if_false]
    rfl

/-- the bits of what an operation gives, in a world -/
def res (op : BinOp) (k : FloatKind) (x y : Nat) (w : World) : Nat :=
  match arith op k x y with
  | some r => r
  | none => nb k x y w
def cnt (op : BinOp) (k : FloatKind) (x y : Nat) : Nat := if (arith op k x y).isSome then 0 else 1

theorem run_any {P : Program} (op : BinOp) (hop : op = .add ∨ op = .sub ∨ op = .mul ∨ op = .quo) (t : TypeId) (k : FloatKind) (x y : Nat) (w : World) : (binOp op t (.float k x) (.float k y)).run P w = .ok (.float k (res op k x y w)) (w.drewN (cnt op k x y)) := by
  unfold res cnt
  cases h : arith op k x y with
  | some r => rw [run_some op t k x y r h]; rfl
  | none => rw [run_none op hop t k x y h]; rfl
@[go_sem] theorem run_f_add {P : Program} (t : TypeId) (k : FloatKind) (x y : Nat) (w : World) : (binOp .add t (.float k x) (.float k y)).run P w = .ok (.float k (res .add k x y w)) (w.drewN (cnt .add k x y)) := run_any .add (by simp) t k x y w
@[go_sem] theorem run_f_sub {P : Program} (t : TypeId) (k : FloatKind) (x y : Nat) (w : World) : (binOp .sub t (.float k x) (.float k y)).run P w = .ok (.float k (res .sub k x y w)) (w.drewN (cnt .sub k x y)) := run_any .sub (by simp) t k x y w
@[go_sem] theorem run_f_mul {P : Program} (t : TypeId) (k : FloatKind) (x y : Nat) (w : World) : (binOp .mul t (.float k x) (.float k y)).run P w = .ok (.float k (res .mul k x y w)) (w.drewN (cnt .mul k x y)) := run_any .mul (by simp) t k x y w
@[go_sem] theorem run_f_quo {P : Program} (t : TypeId) (k : FloatKind) (x y : Nat) (w : World) : (binOp .quo t (.float k x) (.float k y)).run P w = .ok (.float k (res .quo k x y w)) (w.drewN (cnt .quo k x y)) := run_any .quo (by simp) t k x y w

/-- a word of 64 bits; of 32 bits; an int -/
def W64 (x : Nat) : Prop := x < 18446744073709551616
def W32 (x : Nat) : Prop := x < 4294967296
def I64 (n : Int) : Prop := -9223372036854775808 ≤ n ∧ n ≤ 9223372036854775807

theorem nb32 (x y : Nat) (w : World) : Fs.nan (nb .f32 x y w) = true ∧ nb .f32 x y w < 4294967296 := by
  unfold nb Question.cut Fs.nan Fs.rg
  simp only [decide_eq_true_eq]
  generalize w.tape _ _ = t
  have h1 : t % 2 < 2 := Nat.mod_lt _ (by decide)
  have h2 : t / 2 % (2 ^ 23 - 1) < 2 ^ 23 - 1 := Nat.mod_lt _ (by decide)
  generalize t % 2 = a at *
  generalize t / 2 % (2 ^ 23 - 1) = b at *
  omega

theorem eq64 (a b : Nat) : eqF .f64 a b = (!Fd.nan a && !Fd.nan b && decide (Fd.key a = Fd.key b)) := by
  unfold eqF
  show (Ieee.double.order a b == some .eq) = _
  rw [Fd.order_eq]
  cases Fd.nan a <;> cases Fd.nan b <;> simp [Fd.cmpI]
  rw [Bool.eq_iff_iff]
  (repeat' split) <;> simp <;> omega
theorem lt64 (a b : Nat) : ltF .f64 a b = (!Fd.nan a && !Fd.nan b && decide (Fd.key a < Fd.key b)) := by
  unfold ltF
  show (Ieee.double.order a b == some .lt) = _
  rw [Fd.order_eq]
  cases Fd.nan a <;> cases Fd.nan b <;> simp [Fd.cmpI]
  rw [Bool.eq_iff_iff]
  (repeat' split) <;> simp <;> omega
theorem le64 (a b : Nat) : leF .f64 a b = (!Fd.nan a && !Fd.nan b && decide (Fd.key a ≤ Fd.key b)) := by
  unfold leF
  show (Ieee.double.order a b == some .lt || Ieee.double.order a b == some .eq) = _
  rw [Fd.order_eq]
  cases Fd.nan a <;> cases Fd.nan b <;> simp [Fd.cmpI]
  rw [Bool.eq_iff_iff]
  (repeat' split) <;> simp <;> omega
theorem eq32 (a b : Nat) : eqF .f32 a b = (!Fs.nan a && !Fs.nan b && decide (Fs.key a = Fs.key b)) := by
  unfold eqF
  show (Ieee.single.order a b == some .eq) = _
  rw [Fs.order_eq]
  cases Fs.nan a <;> cases Fs.nan b <;> simp [Fs.cmpI]
  rw [Bool.eq_iff_iff]
  (repeat' split) <;> simp <;> omega
theorem lt32 (a b : Nat) : ltF .f32 a b = (!Fs.nan a && !Fs.nan b && decide (Fs.key a < Fs.key b)) := by
  unfold ltF
  show (Ieee.single.order a b == some .lt) = _
  rw [Fs.order_eq]
  cases Fs.nan a <;> cases Fs.nan b <;> simp [Fs.cmpI]
  rw [Bool.eq_iff_iff]
  (repeat' split) <;> simp <;> omega
theorem le32 (a b : Nat) : leF .f32 a b = (!Fs.nan a && !Fs.nan b && decide (Fs.key a ≤ Fs.key b)) := by
  unfold leF
  show (Ieee.single.order a b == some .lt || Ieee.single.order a b == some .eq) = _
  rw [Fs.order_eq]
  cases Fs.nan a <;> cases Fs.nan b <;> simp [Fs.cmpI]
  rw [Bool.eq_iff_iff]
  (repeat' split) <;> simp <;> omega

/-- what a call gives back: a bool, a number of 64 bits or of 32, an integer; but for draws the world is as it was -/
def RB (b : Bool) (w : World) (e : Ending) (w' : World) : Prop := e = .returned (.bool b) ∧ ∃ n, w' = w.drewN n
def RV (v : Value) (w : World) (e : Ending) (w' : World) : Prop := e = .returned v ∧ ∃ n, w' = w.drewN n
def RF (Q : Nat → Prop) (w : World) (e : Ending) (w' : World) : Prop := ∃ r, Q r ∧ W64 r ∧ e = .returned (.float .f64 r) ∧ ∃ n, w' = w.drewN n
def RG (Q : Nat → Prop) (w : World) (e : Ending) (w' : World) : Prop := ∃ r, Q r ∧ W32 r ∧ e = .returned (.float .f32 r) ∧ ∃ n, w' = w.drewN n
def RI (k : IntKind) (i : Int) (w : World) (e : Ending) (w' : World) : Prop := e = .returned (.int k i) ∧ ∃ n, w' = w.drewN n

theorem res_some {op : BinOp} {k : FloatKind} {x y r : Nat} (h : arith op k x y = some r) (w : World) : res op k x y w = r := by unfold res; rw [h]
theorem res_none64 {op : BinOp} {x y : Nat} (h : arith op .f64 x y = none) (w : World) : Fd.nan (res op .f64 x y w) = true := by unfold res; rw [h]; exact (nb64 x y w).1
theorem arith_lt {op : BinOp} {k : FloatKind} {x y r : Nat} (h : arith op k x y = some r) : r < 2 ^ k.format.width := by
  unfold arith at h
  split at h
  · exact k.format.add_lt h
  · exact k.format.sub_lt h
  · exact k.format.mul_lt h
  · exact k.format.div_lt h
  · cases h
theorem res_W (op : BinOp) (x y : Nat) (w : World) : W64 (res op .f64 x y w) := by
  unfold res W64
  cases h : arith op .f64 x y with
  | some r => exact arith_lt h
  | none => exact (nb64 x y w).2

end Go.Proofs.Ytjfoiicooleeiaa
