/- FnKinds: the call returns true; no condition but that the arguments are words. -/
import Derived.Test.YtjijlkegndkjbaaC2
namespace Go.Proofs.Ytjijlkegndkjbaa
open Go.RowKit
theorem kinds_facts (x : Nat) :
    (Fd.nan x = true ∧ Fd.infV x 0 = false ∧ Fd.infV x 1 = false ∧ Fd.infV x (-1) = false ∧ eqF .f64 x (Fd.infW 1) = false ∧ eqF .f64 x (Fd.infW (-1)) = false ∧ Fd.fin x = false) ∨
    (Fd.nan x = false ∧ Fd.infV x 0 = true ∧ Fd.infV x 1 = true ∧ eqF .f64 x (Fd.infW 1) = true ∧ Fd.fin x = false) ∨
    (Fd.nan x = false ∧ Fd.infV x 0 = true ∧ Fd.infV x 1 = false ∧ Fd.infV x (-1) = true ∧ eqF .f64 x (Fd.infW 1) = false ∧ eqF .f64 x (Fd.infW (-1)) = true ∧ Fd.fin x = false) ∨
    (Fd.nan x = false ∧ Fd.infV x 0 = false ∧ Fd.infV x 1 = false ∧ Fd.infV x (-1) = false ∧ eqF .f64 x (Fd.infW 1) = false ∧ eqF .f64 x (Fd.infW (-1)) = false ∧ Fd.fin x = true) := by
  have n1 : Fd.nan (Fd.infW 1) = false := by decide
  have n2 : Fd.nan (Fd.infW (-1)) = false := by decide
  have k1 : Fd.key (Fd.infW 1) = 9218868437227405312 := by decide
  have k2 : Fd.key (Fd.infW (-1)) = -9218868437227405312 := by decide
  have i0 : Fd.infV x 0 = decide (Fd.rg x = 9218868437227405312) := rfl
  have i1 : Fd.infV x 1 = decide (Fd.key x = 9218868437227405312) := rfl
  have i2 : Fd.infV x (-1) = decide (Fd.key x = -9218868437227405312) := rfl
  have fi : Fd.fin x = decide (Fd.rg x < 9218868437227405312) := rfl
  rw [i0, i1, i2, fi, eq64, eq64, n1, n2, k1, k2]
  have kx : Fd.key x = if Fd.sg x then -(Fd.rg x : Int) else Fd.rg x := rfl
  cases nx : Fd.nan x
  · have := nx
    unfold Fd.nan at this; simp at this
    cases s : Fd.sg x <;> simp only [s, Bool.false_eq_true, if_false, if_true] at kx <;> simp <;> omega
  · have := nx
    unfold Fd.nan at this; simp at this
    left
    cases s : Fd.sg x <;> simp only [s, Bool.false_eq_true, if_false, if_true] at kx <;> simp <;> omega
set_option maxHeartbeats 1000000 in
theorem law_FnKinds (x : Nat) (hx : W64 x) (w : World) : Calls Try.prog 14 #[.float .f64 x] w (RB true w) := by
  have f1 : ∀ w, eqF .f64 (res .sub .f64 x x w) 0 = Fd.fin x := sub_self_res _
  have g1 : Fd.nan 9221120237041090561 = true := by decide
  have g2 : ltF .f64 0 (Fd.infW 0) = true := by decide +kernel
  rcases kinds_facts x with ⟨q1, q2, q3, q4, q5, q6, q7⟩ | ⟨q1, q2, q3, q4, q5⟩ | ⟨q1, q2, q3, q4, q5, q6, q7⟩ | ⟨q1, q2, q3, q4, q5, q6, q7⟩
  · have f2 := nan_eq q1
    go_enter Try.func14, Try.ntmps14
    go_wp2_with (first | (go_at_call 29; refine (iInf_c _ _).mono ?_; rintro e w' ⟨rfl, n, rfl⟩) | (go_at_call 28; refine (iIsInf_c _ _ hx _).mono ?_; rintro e w' ⟨rfl, n, rfl⟩) | (go_at_call 30; refine (iIsNaN_c _ _).mono ?_; rintro e w' ⟨rfl, n, rfl⟩) | (go_at_call 31; refine (iNaN_c _).mono ?_; rintro e w' ⟨rfl, n, rfl⟩))
    go_ret
    exact ⟨rfl, _, rfl⟩
  all_goals
    have f2 := num_eq q1
    go_enter Try.func14, Try.ntmps14
    go_wp2_with (first | (go_at_call 29; refine (iInf_c _ _).mono ?_; rintro e w' ⟨rfl, n, rfl⟩) | (go_at_call 28; refine (iIsInf_c _ _ hx _).mono ?_; rintro e w' ⟨rfl, n, rfl⟩) | (go_at_call 30; refine (iIsNaN_c _ _).mono ?_; rintro e w' ⟨rfl, n, rfl⟩) | (go_at_call 31; refine (iNaN_c _).mono ?_; rintro e w' ⟨rfl, n, rfl⟩))
    go_ret
    exact ⟨rfl, _, rfl⟩
end Go.Proofs.Ytjijlkegndkjbaa
