/- FnBitsValue: the call returns true; no condition but that the arguments are words. -/
import Derived.Test.YtkiieekpbcnfkaaC8
namespace Go.Proofs.Ytkiieekpbcnfkaa
open Go.RowKit
theorem b_xor63' (a : Nat) (h : W64 a) : (((Fd.ng a : Nat) : Int) == bits .xor .u64 (a : Int) 9223372036854775808) = true := by rw [b_xor63 a h]; simp
set_option maxHeartbeats 400000 in
theorem law_FnBitsValue (x : Nat) (hx : W64 x) (w : World) : Calls Try.prog 4 #[.float .f64 x] w (RB true w) := by
  cases nx : Fd.nan x
  · have f1 := num_eq nx
    have R := Hd.mk (b_xor63' x hx)
    have g1 : Op.negFloat .f64 x = Fd.ng x := negF_W hx
    go_enter Try.func4, Try.ntmps4
    go_wp2_with (first | (go_at_call 17; refine (iB64_c _ _).mono ?_; rintro e w' ⟨rfl, n, rfl⟩) | (go_at_call 18; refine (bitsOf_c _ hx nx _).mono ?_; rintro e w' ⟨rfl, n, rfl⟩))
    go_ret
    exact ⟨ret_bool R.out, _, rfl⟩
  · have f1 := nan_eq nx
    go_enter Try.func4, Try.ntmps4
    go_wp2
    go_ret
    exact ⟨rfl, 0, rfl⟩
end Go.Proofs.Ytkiieekpbcnfkaa
