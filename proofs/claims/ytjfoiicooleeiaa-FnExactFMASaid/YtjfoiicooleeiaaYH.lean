/- Contract of the reference's FMA, way by way; no condition but that the arguments are words. -/
import Derived.Test.YtjfoiicooleeiaaYG
import Derived.Test.YtjfoiicooleeiaaYC
import Derived.Test.YtjfoiicooleeiaaCF
import Derived.Test.YtjfoiicooleeiaaCM
namespace Go.Proofs.Ytjfoiicooleeiaa
open Go.RowKit
/-- a call gives a number; what was there before is as it was -/
def RFM (x y z : Nat) (w : World) (e : Ending) (w' : World) : Prop := ∃ r, FQ x y z r ∧ W64 r ∧ e = .returned (.float .f64 r) ∧ Below w.heap.size w w'
set_option maxHeartbeats 2000000 in
set_option maxRecDepth 100000 in
theorem fma_nan1 (x y z : Nat) (_hx : W64 x) (_hy : W64 y) (_hz : W64 z) (w : World) (nx : Fd.nan x = true) (Q : Hd (Ieee.double.fma x y z = none)) : Calls Try.prog 25 #[.float .f64 x, .float .f64 y, .float .f64 z] w (RFM x y z w) := by
  go_enter Try.func25, Try.ntmps25
  go_wp2_with (first | (go_at_call 27; refine (isNothing_c _ _).mono ?_; rintro e w' ⟨rfl, n, rfl⟩) | (go_at_call 29; refine (isInfinity_c _ _).mono ?_; rintro e w' ⟨rfl, n, rfl⟩) | (go_at_call 42; refine (isNegative_c _ (by with_reducible assumption) _).mono ?_; rintro e w' ⟨rfl, n, rfl⟩) | (go_at_call 28; refine (nothing_c _).mono ?_; rintro e w' ⟨r, hr, hW, rfl, n, rfl⟩) | (go_at_call 47; refine (infinity_c _ _).mono ?_; rintro e w' ⟨rfl, n, rfl⟩) | (go_at_call 41; refine (signed_c _ 0 (by unfold W64; omega) _).mono ?_; rintro e w' ⟨rfl, n, rfl⟩))
  go_ret
  exact ⟨_, Or.inr ⟨Q.out, hr⟩, hW, rfl, below_drewN (Below.refl _ _) _⟩
set_option maxHeartbeats 2000000 in
set_option maxRecDepth 100000 in
theorem fma_nan2 (x y z : Nat) (_hx : W64 x) (_hy : W64 y) (_hz : W64 z) (w : World) (nx : Fd.nan x = false) (ny : Fd.nan y = true) (Q : Hd (Ieee.double.fma x y z = none)) : Calls Try.prog 25 #[.float .f64 x, .float .f64 y, .float .f64 z] w (RFM x y z w) := by
  go_enter Try.func25, Try.ntmps25
  go_wp2_with (first | (go_at_call 27; refine (isNothing_c _ _).mono ?_; rintro e w' ⟨rfl, n, rfl⟩) | (go_at_call 29; refine (isInfinity_c _ _).mono ?_; rintro e w' ⟨rfl, n, rfl⟩) | (go_at_call 42; refine (isNegative_c _ (by with_reducible assumption) _).mono ?_; rintro e w' ⟨rfl, n, rfl⟩) | (go_at_call 28; refine (nothing_c _).mono ?_; rintro e w' ⟨r, hr, hW, rfl, n, rfl⟩) | (go_at_call 47; refine (infinity_c _ _).mono ?_; rintro e w' ⟨rfl, n, rfl⟩) | (go_at_call 41; refine (signed_c _ 0 (by unfold W64; omega) _).mono ?_; rintro e w' ⟨rfl, n, rfl⟩))
  go_ret
  exact ⟨_, Or.inr ⟨Q.out, hr⟩, hW, rfl, below_drewN (Below.refl _ _) _⟩
set_option maxHeartbeats 2000000 in
set_option maxRecDepth 100000 in
theorem fma_nan3 (x y z : Nat) (_hx : W64 x) (_hy : W64 y) (_hz : W64 z) (w : World) (nx : Fd.nan x = false) (ny : Fd.nan y = false) (nz : Fd.nan z = true) (Q : Hd (Ieee.double.fma x y z = none)) : Calls Try.prog 25 #[.float .f64 x, .float .f64 y, .float .f64 z] w (RFM x y z w) := by
  go_enter Try.func25, Try.ntmps25
  go_wp2_with (first | (go_at_call 27; refine (isNothing_c _ _).mono ?_; rintro e w' ⟨rfl, n, rfl⟩) | (go_at_call 29; refine (isInfinity_c _ _).mono ?_; rintro e w' ⟨rfl, n, rfl⟩) | (go_at_call 42; refine (isNegative_c _ (by with_reducible assumption) _).mono ?_; rintro e w' ⟨rfl, n, rfl⟩) | (go_at_call 28; refine (nothing_c _).mono ?_; rintro e w' ⟨r, hr, hW, rfl, n, rfl⟩) | (go_at_call 47; refine (infinity_c _ _).mono ?_; rintro e w' ⟨rfl, n, rfl⟩) | (go_at_call 41; refine (signed_c _ 0 (by unfold W64; omega) _).mono ?_; rintro e w' ⟨rfl, n, rfl⟩))
  go_ret
  exact ⟨_, Or.inr ⟨Q.out, hr⟩, hW, rfl, below_drewN (Below.refl _ _) _⟩
set_option maxHeartbeats 2000000 in
set_option maxRecDepth 100000 in
theorem fma_inf_x_a (x y z : Nat) (_hx : W64 x) (_hy : W64 y) (_hz : W64 z) (w : World) (nx : Fd.nan x = false) (ny : Fd.nan y = false) (nz : Fd.nan z = false) (ix : Fd.isInf x = true) (zx : eqF .f64 x 0 = false) (zy : eqF .f64 y 0 = true) (Q : Hd (Ieee.double.fma x y z = none)) : Calls Try.prog 25 #[.float .f64 x, .float .f64 y, .float .f64 z] w (RFM x y z w) := by
  go_enter Try.func25, Try.ntmps25
  go_wp2_with (first | (go_at_call 27; refine (isNothing_c _ _).mono ?_; rintro e w' ⟨rfl, n, rfl⟩) | (go_at_call 29; refine (isInfinity_c _ _).mono ?_; rintro e w' ⟨rfl, n, rfl⟩) | (go_at_call 42; refine (isNegative_c _ (by with_reducible assumption) _).mono ?_; rintro e w' ⟨rfl, n, rfl⟩) | (go_at_call 28; refine (nothing_c _).mono ?_; rintro e w' ⟨r, hr, hW, rfl, n, rfl⟩) | (go_at_call 47; refine (infinity_c _ _).mono ?_; rintro e w' ⟨rfl, n, rfl⟩) | (go_at_call 41; refine (signed_c _ 0 (by unfold W64; omega) _).mono ?_; rintro e w' ⟨rfl, n, rfl⟩))
  go_ret
  exact ⟨_, Or.inr ⟨Q.out, hr⟩, hW, rfl, below_drewN (Below.refl _ _) _⟩
set_option maxHeartbeats 2000000 in
set_option maxRecDepth 100000 in
theorem fma_inf_x_b_true_true (x y z : Nat) (_hx : W64 x) (_hy : W64 y) (_hz : W64 z) (w : World) (nx : Fd.nan x = false) (ny : Fd.nan y = false) (nz : Fd.nan z = false) (ix : Fd.isInf x = true) (zx : eqF .f64 x 0 = false) (zy : eqF .f64 y 0 = false) (iz : Fd.isInf z = true) (en : (Fd.negV x == Fd.negV y) = true) (sz : Fd.negV z = true) (Q : Hd (Ieee.double.fma x y z = none)) : Calls Try.prog 25 #[.float .f64 x, .float .f64 y, .float .f64 z] w (RFM x y z w) := by
  go_enter Try.func25, Try.ntmps25
  go_wp2_with (first | (go_at_call 27; refine (isNothing_c _ _).mono ?_; rintro e w' ⟨rfl, n, rfl⟩) | (go_at_call 29; refine (isInfinity_c _ _).mono ?_; rintro e w' ⟨rfl, n, rfl⟩) | (go_at_call 42; refine (isNegative_c _ (by with_reducible assumption) _).mono ?_; rintro e w' ⟨rfl, n, rfl⟩) | (go_at_call 28; refine (nothing_c _).mono ?_; rintro e w' ⟨r, hr, hW, rfl, n, rfl⟩) | (go_at_call 47; refine (infinity_c _ _).mono ?_; rintro e w' ⟨rfl, n, rfl⟩) | (go_at_call 41; refine (signed_c _ 0 (by unfold W64; omega) _).mono ?_; rintro e w' ⟨rfl, n, rfl⟩))
  go_ret
  exact ⟨_, Or.inr ⟨Q.out, hr⟩, hW, rfl, below_drewN (Below.refl _ _) _⟩
set_option maxHeartbeats 2000000 in
set_option maxRecDepth 100000 in
theorem fma_inf_x_b_true_false (x y z : Nat) (_hx : W64 x) (_hy : W64 y) (_hz : W64 z) (w : World) (nx : Fd.nan x = false) (ny : Fd.nan y = false) (nz : Fd.nan z = false) (ix : Fd.isInf x = true) (zx : eqF .f64 x 0 = false) (zy : eqF .f64 y 0 = false) (iz : Fd.isInf z = true) (en : (Fd.negV x == Fd.negV y) = true) (sz : Fd.negV z = false) (Q : Hd (Ieee.double.fma x y z = some (Fd.sgnV false 9218868437227405312))) : Calls Try.prog 25 #[.float .f64 x, .float .f64 y, .float .f64 z] w (RFM x y z w) := by
  go_enter Try.func25, Try.ntmps25
  go_wp2_with (first | (go_at_call 27; refine (isNothing_c _ _).mono ?_; rintro e w' ⟨rfl, n, rfl⟩) | (go_at_call 29; refine (isInfinity_c _ _).mono ?_; rintro e w' ⟨rfl, n, rfl⟩) | (go_at_call 42; refine (isNegative_c _ (by with_reducible assumption) _).mono ?_; rintro e w' ⟨rfl, n, rfl⟩) | (go_at_call 28; refine (nothing_c _).mono ?_; rintro e w' ⟨r, hr, hW, rfl, n, rfl⟩) | (go_at_call 47; refine (infinity_c _ _).mono ?_; rintro e w' ⟨rfl, n, rfl⟩) | (go_at_call 41; refine (signed_c _ 0 (by unfold W64; omega) _).mono ?_; rintro e w' ⟨rfl, n, rfl⟩))
  go_ret
  exact ⟨_, Or.inl Q.out, Fd.sgnV_W (by omega), rfl, below_drewN (Below.refl _ _) _⟩
set_option maxHeartbeats 2000000 in
set_option maxRecDepth 100000 in
theorem fma_inf_x_d_true (x y z : Nat) (_hx : W64 x) (_hy : W64 y) (_hz : W64 z) (w : World) (nx : Fd.nan x = false) (ny : Fd.nan y = false) (nz : Fd.nan z = false) (ix : Fd.isInf x = true) (zx : eqF .f64 x 0 = false) (zy : eqF .f64 y 0 = false) (iz : Fd.isInf z = false) (en : (Fd.negV x == Fd.negV y) = true) (Q : Hd (Ieee.double.fma x y z = some (Fd.sgnV false 9218868437227405312))) : Calls Try.prog 25 #[.float .f64 x, .float .f64 y, .float .f64 z] w (RFM x y z w) := by
  go_enter Try.func25, Try.ntmps25
  go_wp2_with (first | (go_at_call 27; refine (isNothing_c _ _).mono ?_; rintro e w' ⟨rfl, n, rfl⟩) | (go_at_call 29; refine (isInfinity_c _ _).mono ?_; rintro e w' ⟨rfl, n, rfl⟩) | (go_at_call 42; refine (isNegative_c _ (by with_reducible assumption) _).mono ?_; rintro e w' ⟨rfl, n, rfl⟩) | (go_at_call 28; refine (nothing_c _).mono ?_; rintro e w' ⟨r, hr, hW, rfl, n, rfl⟩) | (go_at_call 47; refine (infinity_c _ _).mono ?_; rintro e w' ⟨rfl, n, rfl⟩) | (go_at_call 41; refine (signed_c _ 0 (by unfold W64; omega) _).mono ?_; rintro e w' ⟨rfl, n, rfl⟩))
  go_ret
  exact ⟨_, Or.inl Q.out, Fd.sgnV_W (by omega), rfl, below_drewN (Below.refl _ _) _⟩
set_option maxHeartbeats 2000000 in
set_option maxRecDepth 100000 in
theorem fma_inf_x_b_false_true (x y z : Nat) (_hx : W64 x) (_hy : W64 y) (_hz : W64 z) (w : World) (nx : Fd.nan x = false) (ny : Fd.nan y = false) (nz : Fd.nan z = false) (ix : Fd.isInf x = true) (zx : eqF .f64 x 0 = false) (zy : eqF .f64 y 0 = false) (iz : Fd.isInf z = true) (en : (Fd.negV x == Fd.negV y) = false) (sz : Fd.negV z = true) (Q : Hd (Ieee.double.fma x y z = some (Fd.sgnV true 9218868437227405312))) : Calls Try.prog 25 #[.float .f64 x, .float .f64 y, .float .f64 z] w (RFM x y z w) := by
  go_enter Try.func25, Try.ntmps25
  go_wp2_with (first | (go_at_call 27; refine (isNothing_c _ _).mono ?_; rintro e w' ⟨rfl, n, rfl⟩) | (go_at_call 29; refine (isInfinity_c _ _).mono ?_; rintro e w' ⟨rfl, n, rfl⟩) | (go_at_call 42; refine (isNegative_c _ (by with_reducible assumption) _).mono ?_; rintro e w' ⟨rfl, n, rfl⟩) | (go_at_call 28; refine (nothing_c _).mono ?_; rintro e w' ⟨r, hr, hW, rfl, n, rfl⟩) | (go_at_call 47; refine (infinity_c _ _).mono ?_; rintro e w' ⟨rfl, n, rfl⟩) | (go_at_call 41; refine (signed_c _ 0 (by unfold W64; omega) _).mono ?_; rintro e w' ⟨rfl, n, rfl⟩))
  go_ret
  exact ⟨_, Or.inl Q.out, Fd.sgnV_W (by omega), rfl, below_drewN (Below.refl _ _) _⟩
set_option maxHeartbeats 2000000 in
set_option maxRecDepth 100000 in
theorem fma_inf_x_b_false_false (x y z : Nat) (_hx : W64 x) (_hy : W64 y) (_hz : W64 z) (w : World) (nx : Fd.nan x = false) (ny : Fd.nan y = false) (nz : Fd.nan z = false) (ix : Fd.isInf x = true) (zx : eqF .f64 x 0 = false) (zy : eqF .f64 y 0 = false) (iz : Fd.isInf z = true) (en : (Fd.negV x == Fd.negV y) = false) (sz : Fd.negV z = false) (Q : Hd (Ieee.double.fma x y z = none)) : Calls Try.prog 25 #[.float .f64 x, .float .f64 y, .float .f64 z] w (RFM x y z w) := by
  go_enter Try.func25, Try.ntmps25
  go_wp2_with (first | (go_at_call 27; refine (isNothing_c _ _).mono ?_; rintro e w' ⟨rfl, n, rfl⟩) | (go_at_call 29; refine (isInfinity_c _ _).mono ?_; rintro e w' ⟨rfl, n, rfl⟩) | (go_at_call 42; refine (isNegative_c _ (by with_reducible assumption) _).mono ?_; rintro e w' ⟨rfl, n, rfl⟩) | (go_at_call 28; refine (nothing_c _).mono ?_; rintro e w' ⟨r, hr, hW, rfl, n, rfl⟩) | (go_at_call 47; refine (infinity_c _ _).mono ?_; rintro e w' ⟨rfl, n, rfl⟩) | (go_at_call 41; refine (signed_c _ 0 (by unfold W64; omega) _).mono ?_; rintro e w' ⟨rfl, n, rfl⟩))
  go_ret
  exact ⟨_, Or.inr ⟨Q.out, hr⟩, hW, rfl, below_drewN (Below.refl _ _) _⟩
set_option maxHeartbeats 2000000 in
set_option maxRecDepth 100000 in
theorem fma_inf_x_d_false (x y z : Nat) (_hx : W64 x) (_hy : W64 y) (_hz : W64 z) (w : World) (nx : Fd.nan x = false) (ny : Fd.nan y = false) (nz : Fd.nan z = false) (ix : Fd.isInf x = true) (zx : eqF .f64 x 0 = false) (zy : eqF .f64 y 0 = false) (iz : Fd.isInf z = false) (en : (Fd.negV x == Fd.negV y) = false) (Q : Hd (Ieee.double.fma x y z = some (Fd.sgnV true 9218868437227405312))) : Calls Try.prog 25 #[.float .f64 x, .float .f64 y, .float .f64 z] w (RFM x y z w) := by
  go_enter Try.func25, Try.ntmps25
  go_wp2_with (first | (go_at_call 27; refine (isNothing_c _ _).mono ?_; rintro e w' ⟨rfl, n, rfl⟩) | (go_at_call 29; refine (isInfinity_c _ _).mono ?_; rintro e w' ⟨rfl, n, rfl⟩) | (go_at_call 42; refine (isNegative_c _ (by with_reducible assumption) _).mono ?_; rintro e w' ⟨rfl, n, rfl⟩) | (go_at_call 28; refine (nothing_c _).mono ?_; rintro e w' ⟨r, hr, hW, rfl, n, rfl⟩) | (go_at_call 47; refine (infinity_c _ _).mono ?_; rintro e w' ⟨rfl, n, rfl⟩) | (go_at_call 41; refine (signed_c _ 0 (by unfold W64; omega) _).mono ?_; rintro e w' ⟨rfl, n, rfl⟩))
  go_ret
  exact ⟨_, Or.inl Q.out, Fd.sgnV_W (by omega), rfl, below_drewN (Below.refl _ _) _⟩
set_option maxHeartbeats 2000000 in
set_option maxRecDepth 100000 in
theorem fma_inf_y_a (x y z : Nat) (_hx : W64 x) (_hy : W64 y) (_hz : W64 z) (w : World) (nx : Fd.nan x = false) (ny : Fd.nan y = false) (nz : Fd.nan z = false) (ix : Fd.isInf x = false) (iy : Fd.isInf y = true) (zx : eqF .f64 x 0 = true) (Q : Hd (Ieee.double.fma x y z = none)) : Calls Try.prog 25 #[.float .f64 x, .float .f64 y, .float .f64 z] w (RFM x y z w) := by
  go_enter Try.func25, Try.ntmps25
  go_wp2_with (first | (go_at_call 27; refine (isNothing_c _ _).mono ?_; rintro e w' ⟨rfl, n, rfl⟩) | (go_at_call 29; refine (isInfinity_c _ _).mono ?_; rintro e w' ⟨rfl, n, rfl⟩) | (go_at_call 42; refine (isNegative_c _ (by with_reducible assumption) _).mono ?_; rintro e w' ⟨rfl, n, rfl⟩) | (go_at_call 28; refine (nothing_c _).mono ?_; rintro e w' ⟨r, hr, hW, rfl, n, rfl⟩) | (go_at_call 47; refine (infinity_c _ _).mono ?_; rintro e w' ⟨rfl, n, rfl⟩) | (go_at_call 41; refine (signed_c _ 0 (by unfold W64; omega) _).mono ?_; rintro e w' ⟨rfl, n, rfl⟩))
  go_ret
  exact ⟨_, Or.inr ⟨Q.out, hr⟩, hW, rfl, below_drewN (Below.refl _ _) _⟩
set_option maxHeartbeats 2000000 in
set_option maxRecDepth 100000 in
theorem fma_inf_y_b_true_true (x y z : Nat) (_hx : W64 x) (_hy : W64 y) (_hz : W64 z) (w : World) (nx : Fd.nan x = false) (ny : Fd.nan y = false) (nz : Fd.nan z = false) (ix : Fd.isInf x = false) (iy : Fd.isInf y = true) (zx : eqF .f64 x 0 = false) (zy : eqF .f64 y 0 = false) (iz : Fd.isInf z = true) (en : (Fd.negV x == Fd.negV y) = true) (sz : Fd.negV z = true) (Q : Hd (Ieee.double.fma x y z = none)) : Calls Try.prog 25 #[.float .f64 x, .float .f64 y, .float .f64 z] w (RFM x y z w) := by
  go_enter Try.func25, Try.ntmps25
  go_wp2_with (first | (go_at_call 27; refine (isNothing_c _ _).mono ?_; rintro e w' ⟨rfl, n, rfl⟩) | (go_at_call 29; refine (isInfinity_c _ _).mono ?_; rintro e w' ⟨rfl, n, rfl⟩) | (go_at_call 42; refine (isNegative_c _ (by with_reducible assumption) _).mono ?_; rintro e w' ⟨rfl, n, rfl⟩) | (go_at_call 28; refine (nothing_c _).mono ?_; rintro e w' ⟨r, hr, hW, rfl, n, rfl⟩) | (go_at_call 47; refine (infinity_c _ _).mono ?_; rintro e w' ⟨rfl, n, rfl⟩) | (go_at_call 41; refine (signed_c _ 0 (by unfold W64; omega) _).mono ?_; rintro e w' ⟨rfl, n, rfl⟩))
  go_ret
  exact ⟨_, Or.inr ⟨Q.out, hr⟩, hW, rfl, below_drewN (Below.refl _ _) _⟩
set_option maxHeartbeats 2000000 in
set_option maxRecDepth 100000 in
theorem fma_inf_y_b_true_false (x y z : Nat) (_hx : W64 x) (_hy : W64 y) (_hz : W64 z) (w : World) (nx : Fd.nan x = false) (ny : Fd.nan y = false) (nz : Fd.nan z = false) (ix : Fd.isInf x = false) (iy : Fd.isInf y = true) (zx : eqF .f64 x 0 = false) (zy : eqF .f64 y 0 = false) (iz : Fd.isInf z = true) (en : (Fd.negV x == Fd.negV y) = true) (sz : Fd.negV z = false) (Q : Hd (Ieee.double.fma x y z = some (Fd.sgnV false 9218868437227405312))) : Calls Try.prog 25 #[.float .f64 x, .float .f64 y, .float .f64 z] w (RFM x y z w) := by
  go_enter Try.func25, Try.ntmps25
  go_wp2_with (first | (go_at_call 27; refine (isNothing_c _ _).mono ?_; rintro e w' ⟨rfl, n, rfl⟩) | (go_at_call 29; refine (isInfinity_c _ _).mono ?_; rintro e w' ⟨rfl, n, rfl⟩) | (go_at_call 42; refine (isNegative_c _ (by with_reducible assumption) _).mono ?_; rintro e w' ⟨rfl, n, rfl⟩) | (go_at_call 28; refine (nothing_c _).mono ?_; rintro e w' ⟨r, hr, hW, rfl, n, rfl⟩) | (go_at_call 47; refine (infinity_c _ _).mono ?_; rintro e w' ⟨rfl, n, rfl⟩) | (go_at_call 41; refine (signed_c _ 0 (by unfold W64; omega) _).mono ?_; rintro e w' ⟨rfl, n, rfl⟩))
  go_ret
  exact ⟨_, Or.inl Q.out, Fd.sgnV_W (by omega), rfl, below_drewN (Below.refl _ _) _⟩
set_option maxHeartbeats 2000000 in
set_option maxRecDepth 100000 in
theorem fma_inf_y_d_true (x y z : Nat) (_hx : W64 x) (_hy : W64 y) (_hz : W64 z) (w : World) (nx : Fd.nan x = false) (ny : Fd.nan y = false) (nz : Fd.nan z = false) (ix : Fd.isInf x = false) (iy : Fd.isInf y = true) (zx : eqF .f64 x 0 = false) (zy : eqF .f64 y 0 = false) (iz : Fd.isInf z = false) (en : (Fd.negV x == Fd.negV y) = true) (Q : Hd (Ieee.double.fma x y z = some (Fd.sgnV false 9218868437227405312))) : Calls Try.prog 25 #[.float .f64 x, .float .f64 y, .float .f64 z] w (RFM x y z w) := by
  go_enter Try.func25, Try.ntmps25
  go_wp2_with (first | (go_at_call 27; refine (isNothing_c _ _).mono ?_; rintro e w' ⟨rfl, n, rfl⟩) | (go_at_call 29; refine (isInfinity_c _ _).mono ?_; rintro e w' ⟨rfl, n, rfl⟩) | (go_at_call 42; refine (isNegative_c _ (by with_reducible assumption) _).mono ?_; rintro e w' ⟨rfl, n, rfl⟩) | (go_at_call 28; refine (nothing_c _).mono ?_; rintro e w' ⟨r, hr, hW, rfl, n, rfl⟩) | (go_at_call 47; refine (infinity_c _ _).mono ?_; rintro e w' ⟨rfl, n, rfl⟩) | (go_at_call 41; refine (signed_c _ 0 (by unfold W64; omega) _).mono ?_; rintro e w' ⟨rfl, n, rfl⟩))
  go_ret
  exact ⟨_, Or.inl Q.out, Fd.sgnV_W (by omega), rfl, below_drewN (Below.refl _ _) _⟩
set_option maxHeartbeats 2000000 in
set_option maxRecDepth 100000 in
theorem fma_inf_y_b_false_true (x y z : Nat) (_hx : W64 x) (_hy : W64 y) (_hz : W64 z) (w : World) (nx : Fd.nan x = false) (ny : Fd.nan y = false) (nz : Fd.nan z = false) (ix : Fd.isInf x = false) (iy : Fd.isInf y = true) (zx : eqF .f64 x 0 = false) (zy : eqF .f64 y 0 = false) (iz : Fd.isInf z = true) (en : (Fd.negV x == Fd.negV y) = false) (sz : Fd.negV z = true) (Q : Hd (Ieee.double.fma x y z = some (Fd.sgnV true 9218868437227405312))) : Calls Try.prog 25 #[.float .f64 x, .float .f64 y, .float .f64 z] w (RFM x y z w) := by
  go_enter Try.func25, Try.ntmps25
  go_wp2_with (first | (go_at_call 27; refine (isNothing_c _ _).mono ?_; rintro e w' ⟨rfl, n, rfl⟩) | (go_at_call 29; refine (isInfinity_c _ _).mono ?_; rintro e w' ⟨rfl, n, rfl⟩) | (go_at_call 42; refine (isNegative_c _ (by with_reducible assumption) _).mono ?_; rintro e w' ⟨rfl, n, rfl⟩) | (go_at_call 28; refine (nothing_c _).mono ?_; rintro e w' ⟨r, hr, hW, rfl, n, rfl⟩) | (go_at_call 47; refine (infinity_c _ _).mono ?_; rintro e w' ⟨rfl, n, rfl⟩) | (go_at_call 41; refine (signed_c _ 0 (by unfold W64; omega) _).mono ?_; rintro e w' ⟨rfl, n, rfl⟩))
  go_ret
  exact ⟨_, Or.inl Q.out, Fd.sgnV_W (by omega), rfl, below_drewN (Below.refl _ _) _⟩
set_option maxHeartbeats 2000000 in
set_option maxRecDepth 100000 in
theorem fma_inf_y_b_false_false (x y z : Nat) (_hx : W64 x) (_hy : W64 y) (_hz : W64 z) (w : World) (nx : Fd.nan x = false) (ny : Fd.nan y = false) (nz : Fd.nan z = false) (ix : Fd.isInf x = false) (iy : Fd.isInf y = true) (zx : eqF .f64 x 0 = false) (zy : eqF .f64 y 0 = false) (iz : Fd.isInf z = true) (en : (Fd.negV x == Fd.negV y) = false) (sz : Fd.negV z = false) (Q : Hd (Ieee.double.fma x y z = none)) : Calls Try.prog 25 #[.float .f64 x, .float .f64 y, .float .f64 z] w (RFM x y z w) := by
  go_enter Try.func25, Try.ntmps25
  go_wp2_with (first | (go_at_call 27; refine (isNothing_c _ _).mono ?_; rintro e w' ⟨rfl, n, rfl⟩) | (go_at_call 29; refine (isInfinity_c _ _).mono ?_; rintro e w' ⟨rfl, n, rfl⟩) | (go_at_call 42; refine (isNegative_c _ (by with_reducible assumption) _).mono ?_; rintro e w' ⟨rfl, n, rfl⟩) | (go_at_call 28; refine (nothing_c _).mono ?_; rintro e w' ⟨r, hr, hW, rfl, n, rfl⟩) | (go_at_call 47; refine (infinity_c _ _).mono ?_; rintro e w' ⟨rfl, n, rfl⟩) | (go_at_call 41; refine (signed_c _ 0 (by unfold W64; omega) _).mono ?_; rintro e w' ⟨rfl, n, rfl⟩))
  go_ret
  exact ⟨_, Or.inr ⟨Q.out, hr⟩, hW, rfl, below_drewN (Below.refl _ _) _⟩
set_option maxHeartbeats 2000000 in
set_option maxRecDepth 100000 in
theorem fma_inf_y_d_false (x y z : Nat) (_hx : W64 x) (_hy : W64 y) (_hz : W64 z) (w : World) (nx : Fd.nan x = false) (ny : Fd.nan y = false) (nz : Fd.nan z = false) (ix : Fd.isInf x = false) (iy : Fd.isInf y = true) (zx : eqF .f64 x 0 = false) (zy : eqF .f64 y 0 = false) (iz : Fd.isInf z = false) (en : (Fd.negV x == Fd.negV y) = false) (Q : Hd (Ieee.double.fma x y z = some (Fd.sgnV true 9218868437227405312))) : Calls Try.prog 25 #[.float .f64 x, .float .f64 y, .float .f64 z] w (RFM x y z w) := by
  go_enter Try.func25, Try.ntmps25
  go_wp2_with (first | (go_at_call 27; refine (isNothing_c _ _).mono ?_; rintro e w' ⟨rfl, n, rfl⟩) | (go_at_call 29; refine (isInfinity_c _ _).mono ?_; rintro e w' ⟨rfl, n, rfl⟩) | (go_at_call 42; refine (isNegative_c _ (by with_reducible assumption) _).mono ?_; rintro e w' ⟨rfl, n, rfl⟩) | (go_at_call 28; refine (nothing_c _).mono ?_; rintro e w' ⟨r, hr, hW, rfl, n, rfl⟩) | (go_at_call 47; refine (infinity_c _ _).mono ?_; rintro e w' ⟨rfl, n, rfl⟩) | (go_at_call 41; refine (signed_c _ 0 (by unfold W64; omega) _).mono ?_; rintro e w' ⟨rfl, n, rfl⟩))
  go_ret
  exact ⟨_, Or.inl Q.out, Fd.sgnV_W (by omega), rfl, below_drewN (Below.refl _ _) _⟩
set_option maxHeartbeats 2000000 in
set_option maxRecDepth 100000 in
theorem fma_zinf (x y z : Nat) (_hx : W64 x) (_hy : W64 y) (_hz : W64 z) (w : World) (nx : Fd.nan x = false) (ny : Fd.nan y = false) (nz : Fd.nan z = false) (ix : Fd.isInf x = false) (iy : Fd.isInf y = false) (iz : Fd.isInf z = true) (Q : Hd (Ieee.double.fma x y z = some z)) : Calls Try.prog 25 #[.float .f64 x, .float .f64 y, .float .f64 z] w (RFM x y z w) := by
  go_enter Try.func25, Try.ntmps25
  go_wp2_with (first | (go_at_call 27; refine (isNothing_c _ _).mono ?_; rintro e w' ⟨rfl, n, rfl⟩) | (go_at_call 29; refine (isInfinity_c _ _).mono ?_; rintro e w' ⟨rfl, n, rfl⟩) | (go_at_call 42; refine (isNegative_c _ (by with_reducible assumption) _).mono ?_; rintro e w' ⟨rfl, n, rfl⟩) | (go_at_call 28; refine (nothing_c _).mono ?_; rintro e w' ⟨r, hr, hW, rfl, n, rfl⟩) | (go_at_call 47; refine (infinity_c _ _).mono ?_; rintro e w' ⟨rfl, n, rfl⟩) | (go_at_call 41; refine (signed_c _ 0 (by unfold W64; omega) _).mono ?_; rintro e w' ⟨rfl, n, rfl⟩))
  go_ret
  exact ⟨_, Or.inl Q.out, _hz, rfl, below_drewN (Below.refl _ _) _⟩
set_option maxHeartbeats 2000000 in
set_option maxRecDepth 100000 in
theorem fma_zero_x_true (x y z : Nat) (_hx : W64 x) (_hy : W64 y) (_hz : W64 z) (w : World) (nx : Fd.nan x = false) (ny : Fd.nan y = false) (nz : Fd.nan z = false) (ix : Fd.isInf x = false) (iy : Fd.isInf y = false) (iz : Fd.isInf z = false) (zx : eqF .f64 x 0 = true) (zz : eqF .f64 z 0 = true) (en : (Fd.negV x == Fd.negV y) = true) (Q : Hd (Ieee.double.fma x y z = some (Fd.sgnV false 0))) : Calls Try.prog 25 #[.float .f64 x, .float .f64 y, .float .f64 z] w (RFM x y z w) := by
  go_enter Try.func25, Try.ntmps25
  go_wp2_with (first | (go_at_call 27; refine (isNothing_c _ _).mono ?_; rintro e w' ⟨rfl, n, rfl⟩) | (go_at_call 29; refine (isInfinity_c _ _).mono ?_; rintro e w' ⟨rfl, n, rfl⟩) | (go_at_call 42; refine (isNegative_c _ (by with_reducible assumption) _).mono ?_; rintro e w' ⟨rfl, n, rfl⟩) | (go_at_call 28; refine (nothing_c _).mono ?_; rintro e w' ⟨r, hr, hW, rfl, n, rfl⟩) | (go_at_call 47; refine (infinity_c _ _).mono ?_; rintro e w' ⟨rfl, n, rfl⟩) | (go_at_call 41; refine (signed_c _ 0 (by unfold W64; omega) _).mono ?_; rintro e w' ⟨rfl, n, rfl⟩))
  go_ret
  exact ⟨_, Or.inl Q.out, Fd.sgnV_W (by omega), rfl, below_drewN (Below.refl _ _) _⟩
set_option maxHeartbeats 2000000 in
set_option maxRecDepth 100000 in
theorem fma_zero_x_false (x y z : Nat) (_hx : W64 x) (_hy : W64 y) (_hz : W64 z) (w : World) (nx : Fd.nan x = false) (ny : Fd.nan y = false) (nz : Fd.nan z = false) (ix : Fd.isInf x = false) (iy : Fd.isInf y = false) (iz : Fd.isInf z = false) (zx : eqF .f64 x 0 = true) (zz : eqF .f64 z 0 = true) (en : (Fd.negV x == Fd.negV y) = false) (Q : Hd (Ieee.double.fma x y z = some (Fd.sgnV (Fd.negV z) 0))) : Calls Try.prog 25 #[.float .f64 x, .float .f64 y, .float .f64 z] w (RFM x y z w) := by
  go_enter Try.func25, Try.ntmps25
  go_wp2_with (first | (go_at_call 27; refine (isNothing_c _ _).mono ?_; rintro e w' ⟨rfl, n, rfl⟩) | (go_at_call 29; refine (isInfinity_c _ _).mono ?_; rintro e w' ⟨rfl, n, rfl⟩) | (go_at_call 42; refine (isNegative_c _ (by with_reducible assumption) _).mono ?_; rintro e w' ⟨rfl, n, rfl⟩) | (go_at_call 28; refine (nothing_c _).mono ?_; rintro e w' ⟨r, hr, hW, rfl, n, rfl⟩) | (go_at_call 47; refine (infinity_c _ _).mono ?_; rintro e w' ⟨rfl, n, rfl⟩) | (go_at_call 41; refine (signed_c _ 0 (by unfold W64; omega) _).mono ?_; rintro e w' ⟨rfl, n, rfl⟩))
  go_ret
  exact ⟨_, Or.inl Q.out, Fd.sgnV_W (by omega), rfl, below_drewN (Below.refl _ _) _⟩
set_option maxHeartbeats 2000000 in
set_option maxRecDepth 100000 in
theorem fma_zero_x_z (x y z : Nat) (_hx : W64 x) (_hy : W64 y) (_hz : W64 z) (w : World) (nx : Fd.nan x = false) (ny : Fd.nan y = false) (nz : Fd.nan z = false) (ix : Fd.isInf x = false) (iy : Fd.isInf y = false) (iz : Fd.isInf z = false) (zx : eqF .f64 x 0 = true) (zz : eqF .f64 z 0 = false) (Q : Hd (Ieee.double.fma x y z = some z)) : Calls Try.prog 25 #[.float .f64 x, .float .f64 y, .float .f64 z] w (RFM x y z w) := by
  go_enter Try.func25, Try.ntmps25
  go_wp2_with (first | (go_at_call 27; refine (isNothing_c _ _).mono ?_; rintro e w' ⟨rfl, n, rfl⟩) | (go_at_call 29; refine (isInfinity_c _ _).mono ?_; rintro e w' ⟨rfl, n, rfl⟩) | (go_at_call 42; refine (isNegative_c _ (by with_reducible assumption) _).mono ?_; rintro e w' ⟨rfl, n, rfl⟩) | (go_at_call 28; refine (nothing_c _).mono ?_; rintro e w' ⟨r, hr, hW, rfl, n, rfl⟩) | (go_at_call 47; refine (infinity_c _ _).mono ?_; rintro e w' ⟨rfl, n, rfl⟩) | (go_at_call 41; refine (signed_c _ 0 (by unfold W64; omega) _).mono ?_; rintro e w' ⟨rfl, n, rfl⟩))
  go_ret
  exact ⟨_, Or.inl Q.out, _hz, rfl, below_drewN (Below.refl _ _) _⟩
set_option maxHeartbeats 2000000 in
set_option maxRecDepth 100000 in
theorem fma_zero_y_true (x y z : Nat) (_hx : W64 x) (_hy : W64 y) (_hz : W64 z) (w : World) (nx : Fd.nan x = false) (ny : Fd.nan y = false) (nz : Fd.nan z = false) (ix : Fd.isInf x = false) (iy : Fd.isInf y = false) (iz : Fd.isInf z = false) (zx : eqF .f64 x 0 = false) (zy : eqF .f64 y 0 = true) (zz : eqF .f64 z 0 = true) (en : (Fd.negV x == Fd.negV y) = true) (Q : Hd (Ieee.double.fma x y z = some (Fd.sgnV false 0))) : Calls Try.prog 25 #[.float .f64 x, .float .f64 y, .float .f64 z] w (RFM x y z w) := by
  go_enter Try.func25, Try.ntmps25
  go_wp2_with (first | (go_at_call 27; refine (isNothing_c _ _).mono ?_; rintro e w' ⟨rfl, n, rfl⟩) | (go_at_call 29; refine (isInfinity_c _ _).mono ?_; rintro e w' ⟨rfl, n, rfl⟩) | (go_at_call 42; refine (isNegative_c _ (by with_reducible assumption) _).mono ?_; rintro e w' ⟨rfl, n, rfl⟩) | (go_at_call 28; refine (nothing_c _).mono ?_; rintro e w' ⟨r, hr, hW, rfl, n, rfl⟩) | (go_at_call 47; refine (infinity_c _ _).mono ?_; rintro e w' ⟨rfl, n, rfl⟩) | (go_at_call 41; refine (signed_c _ 0 (by unfold W64; omega) _).mono ?_; rintro e w' ⟨rfl, n, rfl⟩))
  go_ret
  exact ⟨_, Or.inl Q.out, Fd.sgnV_W (by omega), rfl, below_drewN (Below.refl _ _) _⟩
set_option maxHeartbeats 2000000 in
set_option maxRecDepth 100000 in
theorem fma_zero_y_false (x y z : Nat) (_hx : W64 x) (_hy : W64 y) (_hz : W64 z) (w : World) (nx : Fd.nan x = false) (ny : Fd.nan y = false) (nz : Fd.nan z = false) (ix : Fd.isInf x = false) (iy : Fd.isInf y = false) (iz : Fd.isInf z = false) (zx : eqF .f64 x 0 = false) (zy : eqF .f64 y 0 = true) (zz : eqF .f64 z 0 = true) (en : (Fd.negV x == Fd.negV y) = false) (Q : Hd (Ieee.double.fma x y z = some (Fd.sgnV (Fd.negV z) 0))) : Calls Try.prog 25 #[.float .f64 x, .float .f64 y, .float .f64 z] w (RFM x y z w) := by
  go_enter Try.func25, Try.ntmps25
  go_wp2_with (first | (go_at_call 27; refine (isNothing_c _ _).mono ?_; rintro e w' ⟨rfl, n, rfl⟩) | (go_at_call 29; refine (isInfinity_c _ _).mono ?_; rintro e w' ⟨rfl, n, rfl⟩) | (go_at_call 42; refine (isNegative_c _ (by with_reducible assumption) _).mono ?_; rintro e w' ⟨rfl, n, rfl⟩) | (go_at_call 28; refine (nothing_c _).mono ?_; rintro e w' ⟨r, hr, hW, rfl, n, rfl⟩) | (go_at_call 47; refine (infinity_c _ _).mono ?_; rintro e w' ⟨rfl, n, rfl⟩) | (go_at_call 41; refine (signed_c _ 0 (by unfold W64; omega) _).mono ?_; rintro e w' ⟨rfl, n, rfl⟩))
  go_ret
  exact ⟨_, Or.inl Q.out, Fd.sgnV_W (by omega), rfl, below_drewN (Below.refl _ _) _⟩
set_option maxHeartbeats 2000000 in
set_option maxRecDepth 100000 in
theorem fma_zero_y_z (x y z : Nat) (_hx : W64 x) (_hy : W64 y) (_hz : W64 z) (w : World) (nx : Fd.nan x = false) (ny : Fd.nan y = false) (nz : Fd.nan z = false) (ix : Fd.isInf x = false) (iy : Fd.isInf y = false) (iz : Fd.isInf z = false) (zx : eqF .f64 x 0 = false) (zy : eqF .f64 y 0 = true) (zz : eqF .f64 z 0 = false) (Q : Hd (Ieee.double.fma x y z = some z)) : Calls Try.prog 25 #[.float .f64 x, .float .f64 y, .float .f64 z] w (RFM x y z w) := by
  go_enter Try.func25, Try.ntmps25
  go_wp2_with (first | (go_at_call 27; refine (isNothing_c _ _).mono ?_; rintro e w' ⟨rfl, n, rfl⟩) | (go_at_call 29; refine (isInfinity_c _ _).mono ?_; rintro e w' ⟨rfl, n, rfl⟩) | (go_at_call 42; refine (isNegative_c _ (by with_reducible assumption) _).mono ?_; rintro e w' ⟨rfl, n, rfl⟩) | (go_at_call 28; refine (nothing_c _).mono ?_; rintro e w' ⟨r, hr, hW, rfl, n, rfl⟩) | (go_at_call 47; refine (infinity_c _ _).mono ?_; rintro e w' ⟨rfl, n, rfl⟩) | (go_at_call 41; refine (signed_c _ 0 (by unfold W64; omega) _).mono ?_; rintro e w' ⟨rfl, n, rfl⟩))
  go_ret
  exact ⟨_, Or.inl Q.out, _hz, rfl, below_drewN (Below.refl _ _) _⟩
end Go.Proofs.Ytjfoiicooleeiaa
