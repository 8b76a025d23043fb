/- FnBitsRise: the call returns true; no condition but that the arguments are words. -/
import Derived.Test.YtndnjibaamgcfaaC
namespace Go.Proofs.Ytndnjibaamgcfaa
open Go.RowKit
set_option maxHeartbeats 1000000 in
theorem law_FnBitsRise (x y : Nat) (hx : W64 x) (hy : W64 y) (w : World) : Calls Try.prog 3 #[.float .f64 x, .float .f64 y] w (RB true w) := by
  cases nx : Fd.nan x
  · have f1 := num_eq nx
    cases ny : Fd.nan y
    · have f2 := num_eq ny
      cases sx : Fd.sg x
      · have q1 : Fd.negV x = false := by rw [Fd.negV_num nx, sx]
        cases sy : Fd.sg y
        · have q2 : Fd.negV y = false := by rw [Fd.negV_num ny, sy]
          have kx : Fd.key x = x := by unfold Fd.key; rw [sx, Fd.rg_of_pos hx sx]; rfl
          have ky : Fd.key y = y := by unfold Fd.key; rw [sy, Fd.rg_of_pos hy sy]; rfl
          have k0 : Fd.key 0 = 0 := by decide
          have n0 : Fd.nan 0 = false := by decide
          have e1 : ltF .f64 x y = decide (x < y) := by rw [lt64, nx, ny, kx, ky]; simp
          have e2 : eqF .f64 x y = ((x : Int) == (y : Int)) := by rw [eq64, nx, ny, kx, ky]; rfl
          have e3 : eqF .f64 x 0 = ((x : Int) == 0) := by rw [eq64, nx, n0, kx, k0]; rfl
          clear nx ny kx ky k0 n0 sx sy
          go_enter Try.func3, Try.ntmps3
          go_wp2_with (first | (go_at_call 15; refine (sSignbit_c _ (by assumption) _).mono ?_; rintro e w' ⟨rfl, n, rfl⟩) | (go_at_call 16; refine (iB64_c _ _).mono ?_; rintro e w' ⟨rfl, n, rfl⟩))
          go_ret
          exact ⟨ret_bool (by simp), _, rfl⟩
        · have q2 : Fd.negV y = true := by rw [Fd.negV_num ny, sy]
          clear nx ny sx sy
          go_enter Try.func3, Try.ntmps3
          go_wp2_with (first | (go_at_call 15; refine (sSignbit_c _ (by assumption) _).mono ?_; rintro e w' ⟨rfl, n, rfl⟩))
          go_ret
          exact ⟨rfl, _, rfl⟩
      · have q1 : Fd.negV x = true := by rw [Fd.negV_num nx, sx]
        clear nx ny sx
        go_enter Try.func3, Try.ntmps3
        go_wp2_with (first | (go_at_call 15; refine (sSignbit_c _ (by assumption) _).mono ?_; rintro e w' ⟨rfl, n, rfl⟩))
        go_ret
        exact ⟨rfl, _, rfl⟩
    · have f2 := nan_eq ny
      clear nx ny hx hy
      go_enter Try.func3, Try.ntmps3
      go_wp2
      go_ret
      exact ⟨rfl, 0, rfl⟩
  · have f1 := nan_eq nx
    clear nx hx hy
    go_enter Try.func3, Try.ntmps3
    go_wp2
    go_ret
    exact ⟨rfl, 0, rfl⟩
end Go.Proofs.Ytndnjibaamgcfaa
