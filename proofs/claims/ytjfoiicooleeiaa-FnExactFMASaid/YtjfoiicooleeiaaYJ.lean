/- Contract of the reference's FMA: it is the model's; no condition but that the arguments are words. -/
import Derived.Test.YtjfoiicooleeiaaYI
namespace Go.Proofs.Ytjfoiicooleeiaa
open Go.RowKit
theorem xor_of {x y : Nat} {b : Bool} (nx : Fd.nan x = false) (ny : Fd.nan y = false) (h : (Fd.negV x == Fd.negV y) = b) : (!b) = (Fd.sg x ^^ Fd.sg y) := by
  rw [Fd.negV_num nx, Fd.negV_num ny] at h
  rw [← h]
  cases Fd.sg x <;> cases Fd.sg y <;> rfl
theorem inf_none {x y z : Nat} {s : Bool} (nx : Fd.nan x = false) (ny : Fd.nan y = false) (nz : Fd.nan z = false) (h : Fd.rg x = 9218868437227405312 ∨ Fd.rg y = 9218868437227405312) (h0 : Fd.rg x ≠ 0) (h1 : Fd.rg y ≠ 0) (hz : Fd.rg z = 9218868437227405312) (hs : s = (Fd.sg x ^^ Fd.sg y)) (ht : Fd.negV z = !s) : Ieee.double.fma x y z = none := by
  refine (Fd.fma_inf nx ny nz h h0 h1).1 ⟨hz, ?_⟩
  rw [← Fd.negV_num nz, ht, ← hs]; cases s <;> decide
theorem inf_some {x y z : Nat} {s : Bool} (nx : Fd.nan x = false) (ny : Fd.nan y = false) (nz : Fd.nan z = false) (h : Fd.rg x = 9218868437227405312 ∨ Fd.rg y = 9218868437227405312) (h0 : Fd.rg x ≠ 0) (h1 : Fd.rg y ≠ 0) (hs : s = (Fd.sg x ^^ Fd.sg y)) (ht : Fd.rg z ≠ 9218868437227405312 ∨ Fd.negV z = s) : Ieee.double.fma x y z = some (Fd.sgnV s 9218868437227405312) := by
  rw [(Fd.fma_inf nx ny nz h h0 h1).2 ?_, ← hs, Fd.wd_sgn (by omega)]
  rintro ⟨a, b⟩
  rcases ht with ht | ht
  · exact ht a
  · rw [Fd.negV_num nz] at ht
    exact b (by rw [ht, hs])
theorem zero_same {x y z : Nat} (nx : Fd.nan x = false) (ny : Fd.nan y = false) (hx : Fd.rg x < 9218868437227405312) (hy : Fd.rg y < 9218868437227405312) (h : Fd.rg x = 0 ∨ Fd.rg y = 0) (hz : Fd.rg z = 0) (en : (Fd.negV x == Fd.negV y) = true) : Ieee.double.fma x y z = some (Fd.sgnV false 0) := by
  rw [Fd.fma_zero_zero hx hy h hz, ← xor_of nx ny en]; rfl
theorem zero_diff {x y z : Nat} (nx : Fd.nan x = false) (ny : Fd.nan y = false) (nz : Fd.nan z = false) (hx : Fd.rg x < 9218868437227405312) (hy : Fd.rg y < 9218868437227405312) (h : Fd.rg x = 0 ∨ Fd.rg y = 0) (hz : Fd.rg z = 0) (en : (Fd.negV x == Fd.negV y) = false) : Ieee.double.fma x y z = some (Fd.sgnV (Fd.negV z) 0) := by
  rw [Fd.fma_zero_zero hx hy h hz, ← xor_of nx ny en, Fd.negV_num nz, ← Fd.wd_sgn (by omega)]
  cases Fd.sg z <;> rfl
theorem sFMA_c (x y z : Nat) (hx : W64 x) (hy : W64 y) (hz : W64 z) (w : World) : Calls Try.prog 25 #[.float .f64 x, .float .f64 y, .float .f64 z] w (RFM x y z w) := by
  rcases kind4 x with ⟨a0, a1, az, _, an, _, ai⟩ | ⟨a0, az, _, an, _, ai⟩ | ⟨a0, az, _, an, _, ai⟩ | ⟨_, _, _, an, _, _⟩
  · rcases kind4 y with ⟨b0, b1, bz, _, bn, _, bi⟩ | ⟨b0, bz, _, bn, _, bi⟩ | ⟨b0, bz, _, bn, _, bi⟩ | ⟨_, _, _, bn, _, _⟩
    · rcases kind4 z with ⟨c0, c1, cz, _, cn, _, ci⟩ | ⟨c0, cz, _, cn, _, ci⟩ | ⟨c0, cz, _, cn, _, ci⟩ | ⟨_, _, _, cn, _, _⟩
      · cases en : (Fd.negV x == Fd.negV y) with
        | true =>
          cases sz : Fd.negV z with
          | true => exact fma_sum_true_true x y z hx hy hz w an bn cn ai bi ci az bz cz en sz _ (Fd.sizeV_num an) ⟨⟨rfl, a0, a1⟩⟩ _ (Fd.sizeV_num bn) ⟨⟨rfl, b0, b1⟩⟩ _ (Fd.sizeV_num cn) ⟨⟨rfl, c0, c1⟩⟩ ⟨xor_of an bn en⟩ ⟨by rw [← Fd.negV_num cn]; exact sz.symm⟩
          | false => exact fma_sum_true_false x y z hx hy hz w an bn cn ai bi ci az bz cz en sz _ (Fd.sizeV_num an) ⟨⟨rfl, a0, a1⟩⟩ _ (Fd.sizeV_num bn) ⟨⟨rfl, b0, b1⟩⟩ _ (Fd.sizeV_num cn) ⟨⟨rfl, c0, c1⟩⟩ ⟨xor_of an bn en⟩ ⟨by rw [← Fd.negV_num cn]; exact sz.symm⟩
        | false =>
          cases sz : Fd.negV z with
          | true => exact fma_sum_false_true x y z hx hy hz w an bn cn ai bi ci az bz cz en sz _ (Fd.sizeV_num an) ⟨⟨rfl, a0, a1⟩⟩ _ (Fd.sizeV_num bn) ⟨⟨rfl, b0, b1⟩⟩ _ (Fd.sizeV_num cn) ⟨⟨rfl, c0, c1⟩⟩ ⟨xor_of an bn en⟩ ⟨by rw [← Fd.negV_num cn]; exact sz.symm⟩
          | false => exact fma_sum_false_false x y z hx hy hz w an bn cn ai bi ci az bz cz en sz _ (Fd.sizeV_num an) ⟨⟨rfl, a0, a1⟩⟩ _ (Fd.sizeV_num bn) ⟨⟨rfl, b0, b1⟩⟩ _ (Fd.sizeV_num cn) ⟨⟨rfl, c0, c1⟩⟩ ⟨xor_of an bn en⟩ ⟨by rw [← Fd.negV_num cn]; exact sz.symm⟩
      · cases en : (Fd.negV x == Fd.negV y) with
        | true => exact fma_prod_true x y z hx hy hz w an bn cn ai bi ci az bz cz en _ (Fd.sizeV_num an) ⟨⟨rfl, a0, a1⟩⟩ _ (Fd.sizeV_num bn) ⟨⟨rfl, b0, b1⟩⟩ ⟨c0⟩ ⟨xor_of an bn en⟩
        | false => exact fma_prod_false x y z hx hy hz w an bn cn ai bi ci az bz cz en _ (Fd.sizeV_num an) ⟨⟨rfl, a0, a1⟩⟩ _ (Fd.sizeV_num bn) ⟨⟨rfl, b0, b1⟩⟩ ⟨c0⟩ ⟨xor_of an bn en⟩
      · exact fma_zinf x y z hx hy hz w an bn cn ai bi ci ⟨Fd.fma_z_inf (by omega) (by omega) c0 hz⟩
      · exact fma_nan3 x y z hx hy hz w an bn cn ⟨Fd.fma_nan (Or.inr (Or.inr cn))⟩
    · rcases kind4 z with ⟨c0, c1, cz, _, cn, _, ci⟩ | ⟨c0, cz, _, cn, _, ci⟩ | ⟨c0, cz, _, cn, _, ci⟩ | ⟨_, _, _, cn, _, _⟩
      · exact fma_zero_y_z x y z hx hy hz w an bn cn ai bi ci az bz cz ⟨Fd.fma_zero_some (by omega) (by omega) (Or.inr b0) c0 c1 hz⟩
      · cases en : (Fd.negV x == Fd.negV y) with
        | true => exact fma_zero_y_true x y z hx hy hz w an bn cn ai bi ci az bz cz en ⟨zero_same an bn (by omega) (by omega) (Or.inr b0) c0 en⟩
        | false => exact fma_zero_y_false x y z hx hy hz w an bn cn ai bi ci az bz cz en ⟨zero_diff an bn cn (by omega) (by omega) (Or.inr b0) c0 en⟩
      · exact fma_zinf x y z hx hy hz w an bn cn ai bi ci ⟨Fd.fma_z_inf (by omega) (by omega) c0 hz⟩
      · exact fma_nan3 x y z hx hy hz w an bn cn ⟨Fd.fma_nan (Or.inr (Or.inr cn))⟩
    · rcases kind4 z with ⟨c0, c1, cz, _, cn, _, ci⟩ | ⟨c0, cz, _, cn, _, ci⟩ | ⟨c0, cz, _, cn, _, ci⟩ | ⟨_, _, _, cn, _, _⟩
      · cases en : (Fd.negV x == Fd.negV y) with
        | true => exact fma_inf_y_d_true x y z hx hy hz w an bn cn ai bi az bz ci en ⟨inf_some an bn cn (Or.inr b0) (by omega) (by omega) (xor_of an bn en) (Or.inl (by omega))⟩
        | false => exact fma_inf_y_d_false x y z hx hy hz w an bn cn ai bi az bz ci en ⟨inf_some an bn cn (Or.inr b0) (by omega) (by omega) (xor_of an bn en) (Or.inl (by omega))⟩
      · cases en : (Fd.negV x == Fd.negV y) with
        | true => exact fma_inf_y_d_true x y z hx hy hz w an bn cn ai bi az bz ci en ⟨inf_some an bn cn (Or.inr b0) (by omega) (by omega) (xor_of an bn en) (Or.inl (by omega))⟩
        | false => exact fma_inf_y_d_false x y z hx hy hz w an bn cn ai bi az bz ci en ⟨inf_some an bn cn (Or.inr b0) (by omega) (by omega) (xor_of an bn en) (Or.inl (by omega))⟩
      · cases en : (Fd.negV x == Fd.negV y) with
        | true =>
          cases sz : Fd.negV z with
          | true => exact fma_inf_y_b_true_true x y z hx hy hz w an bn cn ai bi az bz ci en sz ⟨inf_none an bn cn (Or.inr b0) (by omega) (by omega) c0 (xor_of an bn en) sz⟩
          | false => exact fma_inf_y_b_true_false x y z hx hy hz w an bn cn ai bi az bz ci en sz ⟨inf_some an bn cn (Or.inr b0) (by omega) (by omega) (xor_of an bn en) (Or.inr sz)⟩
        | false =>
          cases sz : Fd.negV z with
          | true => exact fma_inf_y_b_false_true x y z hx hy hz w an bn cn ai bi az bz ci en sz ⟨inf_some an bn cn (Or.inr b0) (by omega) (by omega) (xor_of an bn en) (Or.inr sz)⟩
          | false => exact fma_inf_y_b_false_false x y z hx hy hz w an bn cn ai bi az bz ci en sz ⟨inf_none an bn cn (Or.inr b0) (by omega) (by omega) c0 (xor_of an bn en) sz⟩
      · exact fma_nan3 x y z hx hy hz w an bn cn ⟨Fd.fma_nan (Or.inr (Or.inr cn))⟩
    · exact fma_nan2 x y z hx hy hz w an bn ⟨Fd.fma_nan (Or.inr (Or.inl bn))⟩
  · rcases kind4 y with ⟨b0, b1, bz, _, bn, _, bi⟩ | ⟨b0, bz, _, bn, _, bi⟩ | ⟨b0, bz, _, bn, _, bi⟩ | ⟨_, _, _, bn, _, _⟩
    · rcases kind4 z with ⟨c0, c1, cz, _, cn, _, ci⟩ | ⟨c0, cz, _, cn, _, ci⟩ | ⟨c0, cz, _, cn, _, ci⟩ | ⟨_, _, _, cn, _, _⟩
      · exact fma_zero_x_z x y z hx hy hz w an bn cn ai bi ci az cz ⟨Fd.fma_zero_some (by omega) (by omega) (Or.inl a0) c0 c1 hz⟩
      · cases en : (Fd.negV x == Fd.negV y) with
        | true => exact fma_zero_x_true x y z hx hy hz w an bn cn ai bi ci az cz en ⟨zero_same an bn (by omega) (by omega) (Or.inl a0) c0 en⟩
        | false => exact fma_zero_x_false x y z hx hy hz w an bn cn ai bi ci az cz en ⟨zero_diff an bn cn (by omega) (by omega) (Or.inl a0) c0 en⟩
      · exact fma_zinf x y z hx hy hz w an bn cn ai bi ci ⟨Fd.fma_z_inf (by omega) (by omega) c0 hz⟩
      · exact fma_nan3 x y z hx hy hz w an bn cn ⟨Fd.fma_nan (Or.inr (Or.inr cn))⟩
    · rcases kind4 z with ⟨c0, c1, cz, _, cn, _, ci⟩ | ⟨c0, cz, _, cn, _, ci⟩ | ⟨c0, cz, _, cn, _, ci⟩ | ⟨_, _, _, cn, _, _⟩
      · exact fma_zero_x_z x y z hx hy hz w an bn cn ai bi ci az cz ⟨Fd.fma_zero_some (by omega) (by omega) (Or.inl a0) c0 c1 hz⟩
      · cases en : (Fd.negV x == Fd.negV y) with
        | true => exact fma_zero_x_true x y z hx hy hz w an bn cn ai bi ci az cz en ⟨zero_same an bn (by omega) (by omega) (Or.inl a0) c0 en⟩
        | false => exact fma_zero_x_false x y z hx hy hz w an bn cn ai bi ci az cz en ⟨zero_diff an bn cn (by omega) (by omega) (Or.inl a0) c0 en⟩
      · exact fma_zinf x y z hx hy hz w an bn cn ai bi ci ⟨Fd.fma_z_inf (by omega) (by omega) c0 hz⟩
      · exact fma_nan3 x y z hx hy hz w an bn cn ⟨Fd.fma_nan (Or.inr (Or.inr cn))⟩
    · rcases kind4 z with ⟨c0, c1, cz, _, cn, _, ci⟩ | ⟨c0, cz, _, cn, _, ci⟩ | ⟨c0, cz, _, cn, _, ci⟩ | ⟨_, _, _, cn, _, _⟩
      · exact fma_inf_y_a x y z hx hy hz w an bn cn ai bi az ⟨Fd.fma_inf_zero (Or.inr ⟨b0, a0⟩)⟩
      · exact fma_inf_y_a x y z hx hy hz w an bn cn ai bi az ⟨Fd.fma_inf_zero (Or.inr ⟨b0, a0⟩)⟩
      · exact fma_inf_y_a x y z hx hy hz w an bn cn ai bi az ⟨Fd.fma_inf_zero (Or.inr ⟨b0, a0⟩)⟩
      · exact fma_nan3 x y z hx hy hz w an bn cn ⟨Fd.fma_nan (Or.inr (Or.inr cn))⟩
    · exact fma_nan2 x y z hx hy hz w an bn ⟨Fd.fma_nan (Or.inr (Or.inl bn))⟩
  · rcases kind4 y with ⟨b0, b1, bz, _, bn, _, bi⟩ | ⟨b0, bz, _, bn, _, bi⟩ | ⟨b0, bz, _, bn, _, bi⟩ | ⟨_, _, _, bn, _, _⟩
    · rcases kind4 z with ⟨c0, c1, cz, _, cn, _, ci⟩ | ⟨c0, cz, _, cn, _, ci⟩ | ⟨c0, cz, _, cn, _, ci⟩ | ⟨_, _, _, cn, _, _⟩
      · cases en : (Fd.negV x == Fd.negV y) with
        | true => exact fma_inf_x_d_true x y z hx hy hz w an bn cn ai az bz ci en ⟨inf_some an bn cn (Or.inl a0) (by omega) (by omega) (xor_of an bn en) (Or.inl (by omega))⟩
        | false => exact fma_inf_x_d_false x y z hx hy hz w an bn cn ai az bz ci en ⟨inf_some an bn cn (Or.inl a0) (by omega) (by omega) (xor_of an bn en) (Or.inl (by omega))⟩
      · cases en : (Fd.negV x == Fd.negV y) with
        | true => exact fma_inf_x_d_true x y z hx hy hz w an bn cn ai az bz ci en ⟨inf_some an bn cn (Or.inl a0) (by omega) (by omega) (xor_of an bn en) (Or.inl (by omega))⟩
        | false => exact fma_inf_x_d_false x y z hx hy hz w an bn cn ai az bz ci en ⟨inf_some an bn cn (Or.inl a0) (by omega) (by omega) (xor_of an bn en) (Or.inl (by omega))⟩
      · cases en : (Fd.negV x == Fd.negV y) with
        | true =>
          cases sz : Fd.negV z with
          | true => exact fma_inf_x_b_true_true x y z hx hy hz w an bn cn ai az bz ci en sz ⟨inf_none an bn cn (Or.inl a0) (by omega) (by omega) c0 (xor_of an bn en) sz⟩
          | false => exact fma_inf_x_b_true_false x y z hx hy hz w an bn cn ai az bz ci en sz ⟨inf_some an bn cn (Or.inl a0) (by omega) (by omega) (xor_of an bn en) (Or.inr sz)⟩
        | false =>
          cases sz : Fd.negV z with
          | true => exact fma_inf_x_b_false_true x y z hx hy hz w an bn cn ai az bz ci en sz ⟨inf_some an bn cn (Or.inl a0) (by omega) (by omega) (xor_of an bn en) (Or.inr sz)⟩
          | false => exact fma_inf_x_b_false_false x y z hx hy hz w an bn cn ai az bz ci en sz ⟨inf_none an bn cn (Or.inl a0) (by omega) (by omega) c0 (xor_of an bn en) sz⟩
      · exact fma_nan3 x y z hx hy hz w an bn cn ⟨Fd.fma_nan (Or.inr (Or.inr cn))⟩
    · rcases kind4 z with ⟨c0, c1, cz, _, cn, _, ci⟩ | ⟨c0, cz, _, cn, _, ci⟩ | ⟨c0, cz, _, cn, _, ci⟩ | ⟨_, _, _, cn, _, _⟩
      · exact fma_inf_x_a x y z hx hy hz w an bn cn ai az bz ⟨Fd.fma_inf_zero (Or.inl ⟨a0, b0⟩)⟩
      · exact fma_inf_x_a x y z hx hy hz w an bn cn ai az bz ⟨Fd.fma_inf_zero (Or.inl ⟨a0, b0⟩)⟩
      · exact fma_inf_x_a x y z hx hy hz w an bn cn ai az bz ⟨Fd.fma_inf_zero (Or.inl ⟨a0, b0⟩)⟩
      · exact fma_nan3 x y z hx hy hz w an bn cn ⟨Fd.fma_nan (Or.inr (Or.inr cn))⟩
    · rcases kind4 z with ⟨c0, c1, cz, _, cn, _, ci⟩ | ⟨c0, cz, _, cn, _, ci⟩ | ⟨c0, cz, _, cn, _, ci⟩ | ⟨_, _, _, cn, _, _⟩
      · cases en : (Fd.negV x == Fd.negV y) with
        | true => exact fma_inf_x_d_true x y z hx hy hz w an bn cn ai az bz ci en ⟨inf_some an bn cn (Or.inl a0) (by omega) (by omega) (xor_of an bn en) (Or.inl (by omega))⟩
        | false => exact fma_inf_x_d_false x y z hx hy hz w an bn cn ai az bz ci en ⟨inf_some an bn cn (Or.inl a0) (by omega) (by omega) (xor_of an bn en) (Or.inl (by omega))⟩
      · cases en : (Fd.negV x == Fd.negV y) with
        | true => exact fma_inf_x_d_true x y z hx hy hz w an bn cn ai az bz ci en ⟨inf_some an bn cn (Or.inl a0) (by omega) (by omega) (xor_of an bn en) (Or.inl (by omega))⟩
        | false => exact fma_inf_x_d_false x y z hx hy hz w an bn cn ai az bz ci en ⟨inf_some an bn cn (Or.inl a0) (by omega) (by omega) (xor_of an bn en) (Or.inl (by omega))⟩
      · cases en : (Fd.negV x == Fd.negV y) with
        | true =>
          cases sz : Fd.negV z with
          | true => exact fma_inf_x_b_true_true x y z hx hy hz w an bn cn ai az bz ci en sz ⟨inf_none an bn cn (Or.inl a0) (by omega) (by omega) c0 (xor_of an bn en) sz⟩
          | false => exact fma_inf_x_b_true_false x y z hx hy hz w an bn cn ai az bz ci en sz ⟨inf_some an bn cn (Or.inl a0) (by omega) (by omega) (xor_of an bn en) (Or.inr sz)⟩
        | false =>
          cases sz : Fd.negV z with
          | true => exact fma_inf_x_b_false_true x y z hx hy hz w an bn cn ai az bz ci en sz ⟨inf_some an bn cn (Or.inl a0) (by omega) (by omega) (xor_of an bn en) (Or.inr sz)⟩
          | false => exact fma_inf_x_b_false_false x y z hx hy hz w an bn cn ai az bz ci en sz ⟨inf_none an bn cn (Or.inl a0) (by omega) (by omega) c0 (xor_of an bn en) sz⟩
      · exact fma_nan3 x y z hx hy hz w an bn cn ⟨Fd.fma_nan (Or.inr (Or.inr cn))⟩
    · exact fma_nan2 x y z hx hy hz w an bn ⟨Fd.fma_nan (Or.inr (Or.inl bn))⟩
  · exact fma_nan1 x y z hx hy hz w an ⟨Fd.fma_nan (Or.inl an)⟩
end Go.Proofs.Ytjfoiicooleeiaa
