/- FnKindOfBits: the call returns true; no condition but that the arguments are words. -/
import Derived.Test.YtjijlkegndkjbaaC2
namespace Go.Proofs.Ytjijlkegndkjbaa
open Go.RowKit
theorem kind_bits (b : Nat) (hb : W64 b) :
    ((bits .and .u64 ((b : Int) / 4503599627370496) 2047 == 2047) = false ∧ Fd.nan b = false ∧ Fd.infV b 0 = false ∧ Fd.infV b 1 = false ∧ Fd.infV b (-1) = false) ∨
    ((bits .and .u64 ((b : Int) / 4503599627370496) 2047 == 2047) = true ∧ (bits .and .u64 (b : Int) 4503599627370495 == 0) = false ∧ Fd.nan b = true ∧ Fd.infV b 0 = false ∧ Fd.infV b 1 = false ∧ Fd.infV b (-1) = false) ∨
    ((bits .and .u64 ((b : Int) / 4503599627370496) 2047 == 2047) = true ∧ (bits .and .u64 (b : Int) 4503599627370495 == 0) = true ∧ ((b : Int) / 9223372036854775808 == 0) = true ∧ Fd.nan b = false ∧ Fd.infV b 0 = true ∧ Fd.infV b 1 = true ∧ Fd.infV b (-1) = false) ∨
    ((bits .and .u64 ((b : Int) / 4503599627370496) 2047 == 2047) = true ∧ (bits .and .u64 (b : Int) 4503599627370495 == 0) = true ∧ ((b : Int) / 9223372036854775808 == 0) = false ∧ Fd.nan b = false ∧ Fd.infV b 0 = true ∧ Fd.infV b 1 = false ∧ Fd.infV b (-1) = true) := by
  have hb' : b < 18446744073709551616 := hb
  have d : ((b : Int) / 4503599627370496) = ((b / 4503599627370496 : Nat) : Int) := by omega
  have i0 : Fd.infV b 0 = decide (Fd.rg b = 9218868437227405312) := rfl
  have i1 : Fd.infV b 1 = decide (Fd.key b = 9218868437227405312) := rfl
  have i2 : Fd.infV b (-1) = decide (Fd.key b = -9218868437227405312) := rfl
  have ni : Fd.nan b = decide (9218868437227405312 < Fd.rg b) := rfl
  have kx : Fd.key b = if Fd.sg b then -(Fd.rg b : Int) else Fd.rg b := rfl
  rw [d, b_low11 _ (by omega), b_low52 b hb', i0, i1, i2, ni]
  have e : Fd.rg b = b % 9223372036854775808 := rfl
  cases s : Fd.sg b
  · have := (Fd.sg_false hb').1 s
    simp only [s, Bool.false_eq_true, if_false] at kx
    simp; omega
  · have := (Fd.sg_iff hb').1 s
    simp only [s, if_true] at kx
    simp; omega
set_option maxHeartbeats 1000000 in
theorem law_FnKindOfBits (b : Nat) (hb : W64 b) (w : World) : Calls Try.prog 12 #[.int .u64 (b : Int)] w (RB true w) := by
  rcases kind_bits b hb with ⟨q1, q2, q3, q4, q5⟩ | ⟨q1, q2, q3, q4, q5, q6⟩ | ⟨q1, q2, q3, q4, q5, q6, q7⟩ | ⟨q1, q2, q3, q4, q5, q6, q7⟩
  all_goals
    go_enter Try.func12, Try.ntmps12
    go_wp2_with (first | (go_at_call 28; refine (iIsInf_c _ _ hb _).mono ?_; rintro e w' ⟨rfl, n, rfl⟩) | (go_at_call 30; refine (iIsNaN_c _ _).mono ?_; rintro e w' ⟨rfl, n, rfl⟩) | (go_at_call 15; refine (iB64_c _ _).mono ?_; rintro e w' ⟨rfl, n, rfl⟩) | (go_at_call 17; refine (iF64_c _ _).mono ?_; rintro e w' ⟨rfl, n, rfl⟩))
    go_ret
    exact ⟨ret_bool (by simp), _, rfl⟩
end Go.Proofs.Ytjijlkegndkjbaa
