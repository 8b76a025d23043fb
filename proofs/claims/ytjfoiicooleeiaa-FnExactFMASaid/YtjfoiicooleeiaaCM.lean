/- Contracts of Ilogb, Logb and the reference's Ilogb, Logb, Frexp; no condition but that the arguments are words. -/
import Derived.Test.YtjfoiicooleeiaaCL
namespace Go.Proofs.Ytjfoiicooleeiaa
open Go.RowKit

/-- the four kinds of a word, with the tests' answers -/
theorem kind4 (x : Nat) :
    (0 < Fd.rg x ∧ Fd.rg x < 9218868437227405312 ∧ eqF .f64 x 0 = false ∧ Fd.infV x 0 = false ∧ Fd.nan x = false ∧ Fd.fin x = true ∧ Fd.isInf x = false) ∨
    (Fd.rg x = 0 ∧ eqF .f64 x 0 = true ∧ Fd.infV x 0 = false ∧ Fd.nan x = false ∧ Fd.fin x = true ∧ Fd.isInf x = false) ∨
    (Fd.rg x = 9218868437227405312 ∧ eqF .f64 x 0 = false ∧ Fd.infV x 0 = true ∧ Fd.nan x = false ∧ Fd.fin x = false ∧ Fd.isInf x = true) ∨
    (9218868437227405312 < Fd.rg x ∧ eqF .f64 x 0 = false ∧ Fd.infV x 0 = false ∧ Fd.nan x = true ∧ Fd.fin x = false ∧ Fd.isInf x = false) := by
  have k0 : Fd.key 0 = 0 := by decide
  have n0 : Fd.nan 0 = false := by decide
  have i0 : Fd.infV x 0 = decide (Fd.rg x = 9218868437227405312) := rfl
  have fi : Fd.fin x = decide (Fd.rg x < 9218868437227405312) := rfl
  have ii : Fd.isInf x = decide (Fd.rg x = 9218868437227405312) := rfl
  have ni : Fd.nan x = decide (9218868437227405312 < Fd.rg x) := rfl
  have kx : Fd.key x = if Fd.sg x then -(Fd.rg x : Int) else Fd.rg x := rfl
  rw [i0, fi, ii, eq64, n0, k0, ni, kx]
  cases Fd.sg x <;> simp <;> omega


end Go.Proofs.Ytjfoiicooleeiaa
