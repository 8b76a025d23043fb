/- Contract of the reference's Low: a whole number's 64 least binary digits; conditions: the number is whole and less than 2^110. -/
import Derived.Test.YtjfoiicooleeiaaCS
import Derived.Test.YtjfoiicooleeiaaDJ
namespace Go.Proofs.Ytjfoiicooleeiaa
open Go.RowKit
theorem low_shr {m Q j : Nat} (h : m = Q * 2 ^ j) : (m : Int) / 2 ^ j = (Q : Int) := by
  rw [h, Int.natCast_mul, Int.natCast_pow]
  exact Int.mul_ediv_cancel _ (Int.pow_ne_zero (by decide))
theorem low_shl {m Q j : Nat} (h : Q = m * 2 ^ j) : (m : Int) * 2 ^ j = (Q : Int) := by
  rw [h, Int.natCast_mul, Int.natCast_pow]; rfl
def lowV (s : Bool) (Q : Nat) : Int := Fd.sm s Q % 18446744073709551616
set_option maxHeartbeats 1000000 in
theorem low_c (x Q : Nat) (hx : W64 x) (hf : Fd.rg x < 9218868437227405312) (hQ : Fd.mg (Fd.rg x) = Q * 2 ^ Fd.LL) (hb : Q < 2 ^ 110) (w : World) :
    Calls Try.prog 26 #[.float .f64 x] w (RV (.int .u64 (lowV (Fd.sg x) Q)) w) := by
  have nx : Fd.nan x = false := Fd.num_of (by omega)
  have hs := Fd.negV_num nx
  have hr := Fd.sizeV_num nx
  rcases Nat.eq_zero_or_pos (Fd.rg x) with z | z
  · have hz : eqF .f64 x 0 = true := eq_in nx nan0 (by rw [key0]; unfold Fd.key; rw [z]; cases Fd.sg x <;> decide)
    have R : Hd (lowV (Fd.sg x) Q = 0) := by
      constructor
      have : Q = 0 := by
        rw [z, Fd.mg_zero] at hQ
        rcases Nat.eq_zero_or_pos Q with q | q
        · exact q
        · have := Nat.mul_pos q (Nat.two_pow_pos Fd.LL); omega
      rw [this]; unfold lowV Fd.sm; simp
    clear nx hs hr z hQ hb hf
    go_enter Try.func26, Try.ntmps26
    go_wp2
    go_ret
    exact ⟨ret_int R.out.symm, 0, rfl⟩
  · have hz : eqF .f64 x 0 = false := eq_not (by rw [key0]; unfold Fd.key; cases Fd.sg x <;> simp <;> omega)
    have Q0 : 0 < Q := by
      rcases Nat.eq_zero_or_pos Q with q | q
      · have := Fd.mg_lt z; rw [hQ, q, Fd.mg_zero] at this; omega
      · exact q
    have HQ := Hd.mk hQ
    have HB := Hd.mk hb
    have H0 := Hd.mk Q0
    clear nx hb hQ Q0
    go_enter Try.func26, Try.ntmps26
    go_wp2_with (go_at_call 40; refine (size_c _ hx _).mono ?_; rintro e w' ⟨rfl, n, rfl⟩)
    refine (parts_c _ z hf _).mono ?_
    rintro e w' ⟨m, k, pq, rfl, n, rfl⟩
    have c := Fd.pq_whole pq HQ.out H0.out HB.out
    have ml : m < 9007199254740992 := pq.high
    clear pq HQ HB H0 z hf
    rcases c with ⟨j, rfl, j1, j2, em⟩ | ⟨j, rfl, j1, em⟩
    · cases s : Fd.sg x
      all_goals
        rw [s] at hs
        have EM := Hd.mk em
        clear em
        go_wp2_with (go_at_call 42; refine (isNegative_c _ hx _).mono ?_; rintro e w' ⟨rfl, n, rfl⟩)
        go_ret
        refine ⟨ret_int ?_, _, rfl⟩
        rw [low_shr EM.out, s]; unfold lowV Fd.sm; simp only [IntKind.wrap_u64, Bool.false_eq_true, if_true, if_false] <;> omega
    · cases s : Fd.sg x
      all_goals
        rw [s] at hs
        have EM := Hd.mk em
        clear em
        go_wp2_with (go_at_call 42; refine (isNegative_c _ hx _).mono ?_; rintro e w' ⟨rfl, n, rfl⟩)
        go_ret
        refine ⟨ret_int ?_, _, rfl⟩
        rw [low_shl EM.out, s]; unfold lowV Fd.sm; simp only [IntKind.wrap_u64, Bool.false_eq_true, if_true, if_false] <;> omega
end Go.Proofs.Ytjfoiicooleeiaa
