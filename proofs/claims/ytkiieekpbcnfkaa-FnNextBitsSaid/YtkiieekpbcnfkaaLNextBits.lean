/- FnNextBits: the call returns true; no condition but that the arguments are words. -/
import Derived.Test.YtkiieekpbcnfkaaC8
import Derived.Test.YtkiieekpbcnfkaaC4
namespace Go.Proofs.Ytkiieekpbcnfkaa
open Go.RowKit
theorem next_up {x r : Nat} (hx : W64 x) (nx : Fd.nan x = false) (sx : Fd.sg x = false) (hi : x ≠ 9218868437227405312) (h : Fd.nextQ x (Fd.infW 1) r) : r = x + 1 ∧ x + 1 < 18446744073709551615 := by
  have ni : Fd.nan (Fd.infW 1) = false := by decide
  unfold Fd.nextQ at h
  rw [nx, ni, if_neg (by decide)] at h
  have hx' : x < 9223372036854775808 := (Fd.sg_false hx).1 sx
  have kx : Fd.key x = x := Fd.key_of_lt' hx'
  have ki : Fd.key (Fd.infW 1) = 9218868437227405312 := by decide
  have b := Fd.key_bound nx
  refine ⟨?_, by omega⟩
  rw [h]; unfold Fd.nxtV; rw [kx, ki, if_neg (by omega)]
  by_cases z : (x : Int) = 0
  · rw [if_pos z]
    have : x = 0 := by omega
    subst this; decide
  · rw [if_neg z, if_pos (by simp; omega)]
theorem next_down {x r : Nat} (hx : W64 x) (nx : Fd.nan x = false) (sx : Fd.sg x = false) (h0 : x ≠ 0) (h : Fd.nextQ x (Fd.infW (-1)) r) : r = x - 1 ∧ 0 < x := by
  have ni : Fd.nan (Fd.infW (-1)) = false := by decide
  unfold Fd.nextQ at h
  rw [nx, ni, if_neg (by decide)] at h
  have hx' : x < 9223372036854775808 := (Fd.sg_false hx).1 sx
  have kx : Fd.key x = x := Fd.key_of_lt' hx'
  have ki : Fd.key (Fd.infW (-1)) = -9218868437227405312 := by decide
  refine ⟨?_, by omega⟩
  rw [h]; unfold Fd.nxtV; rw [kx, ki, if_neg (by omega), if_neg (by omega), if_neg (by simp; omega)]
set_option maxHeartbeats 1000000 in
theorem law_FnNextBits (x : Nat) (hx : W64 x) (w : World) : Calls Try.prog 9 #[.float .f64 x] w (RB true w) := by
  have HI : W64 (Fd.infW 1) := W_inf 1
  have HJ : W64 (Fd.infW (-1)) := W_inf (-1)
  cases nx : Fd.nan x
  · have f1 := num_eq nx
    cases sx : Fd.sg x
    · have f2 : Fd.negV x = false := by rw [Fd.negV_num nx, sx]
      have hx' : x < 9223372036854775808 := (Fd.sg_false hx).1 sx
      have kx : Fd.key x = x := Fd.key_of_lt' hx'
      have ki : Fd.key (Fd.infW 1) = 9218868437227405312 := by decide
      have ni : Fd.nan (Fd.infW 1) = false := by decide
      have kz : Fd.key 0 = 0 := by decide
      have nz : Fd.nan 0 = false := by decide
      by_cases e : x = 9218868437227405312
      · have f3 : eqF .f64 x (Fd.infW 1) = true := by rw [eq64, nx, ni, kx, ki]; simp; omega
        clear e kx ki ni kz nz sx hx'
        go_enter Try.func9, Try.ntmps9
        go_wp2_with (first | (go_at_call 28; refine (sSignbit_c _ hx _).mono ?_; rintro e w' ⟨rfl, n, rfl⟩) | (go_at_call 29; refine (sInf_c _ _).mono ?_; rintro e w' ⟨rfl, n, rfl⟩))
        go_ret
        exact ⟨rfl, _, rfl⟩
      · have f3 : eqF .f64 x (Fd.infW 1) = false := by rw [eq64, nx, ni, kx, ki]; simp; omega
        have U : Hd (∀ r, Fd.nextQ x (Fd.infW 1) r → r = x + 1 ∧ x + 1 < 18446744073709551615) := ⟨fun r h => next_up hx nx sx e h⟩
        have f4 : eqF .f64 x 0 = decide (x = 0) := by rw [eq64, nx, nz, kx, kz, Bool.eq_iff_iff]; simp
        have D : Hd (x ≠ 0 → ∀ r, Fd.nextQ x (Fd.infW (-1)) r → r = x - 1 ∧ 0 < x) := ⟨fun z r h => next_down hx nx sx z h⟩
        clear e kx ki ni kz nz sx hx'
        go_enter Try.func9, Try.ntmps9
        go_wp2_with (first | (go_at_call 28; refine (sSignbit_c _ hx _).mono ?_; rintro e w' ⟨rfl, n, rfl⟩) | (go_at_call 29; refine (sInf_c _ _).mono ?_; rintro e w' ⟨rfl, n, rfl⟩) | (go_at_call 18; refine (bitsOf_c _ hx nx _).mono ?_; rintro e w' ⟨rfl, n, rfl⟩))
        refine (iNext_c _ _ hx HI _).mono ?_
        rintro e w' ⟨r, hr, hW, rfl, n, rfl⟩
        obtain ⟨g1, g2⟩ := U.out r hr
        have t1 : ((r : Int) != IntKind.u64.wrap ((x : Int) + 1)) = false := by rw [IntKind.wrap_u64, g1]; simp; omega
        clear g1 g2 U hr
        by_cases z : x = 0
        · have f5 : eqF .f64 x 0 = true := by rw [f4]; simp; exact z
          clear z f4 D
          go_wp2_with (first | (go_at_call 17; refine (iB64_c _ _).mono ?_; rintro e w' ⟨rfl, n, rfl⟩))
          go_ret
          exact ⟨rfl, _, rfl⟩
        · have f5 : eqF .f64 x 0 = false := by rw [f4]; simp; exact z
          have D' := Hd.mk (D.out z)
          clear z f4 D
          go_wp2_with (first | (go_at_call 17; refine (iB64_c _ _).mono ?_; rintro e w' ⟨rfl, n, rfl⟩) | (go_at_call 29; refine (sInf_c _ _).mono ?_; rintro e w' ⟨rfl, n, rfl⟩))
          refine (iNext_c _ _ hx HJ _).mono ?_
          rintro e w' ⟨r2, hr2, hW2, rfl, n, rfl⟩
          obtain ⟨g1, g2⟩ := D'.out r2 hr2
          have t2 : ((r2 : Int) == IntKind.u64.wrap ((x : Int) - 1)) = true := by rw [IntKind.wrap_u64, g1]; unfold W64 at hx; simp; omega
          clear g1 g2 D' hr2 t1
          go_wp2_with (first | (go_at_call 17; refine (iB64_c _ _).mono ?_; rintro e w' ⟨rfl, n, rfl⟩))
          go_ret
          exact ⟨rfl, _, rfl⟩
    · have f2 : Fd.negV x = true := by rw [Fd.negV_num nx, sx]
      go_enter Try.func9, Try.ntmps9
      go_wp2_with (first | (go_at_call 28; refine (sSignbit_c _ hx _).mono ?_; rintro e w' ⟨rfl, n, rfl⟩))
      go_ret
      exact ⟨rfl, _, rfl⟩
  · have f1 := nan_eq nx
    go_enter Try.func9, Try.ntmps9
    go_wp2
    go_ret
    exact ⟨rfl, 0, rfl⟩
end Go.Proofs.Ytkiieekpbcnfkaa
