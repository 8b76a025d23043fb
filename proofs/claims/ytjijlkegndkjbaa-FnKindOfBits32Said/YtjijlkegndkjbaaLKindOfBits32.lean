/- FnKindOfBits32: the call returns true; no condition but that the arguments are words. -/
import Derived.Test.YtjijlkegndkjbaaC3
namespace Go.Proofs.Ytjijlkegndkjbaa
open Go.RowKit
theorem inf_wideR (b : Nat) (w : World) : Fd.infV (wideR b w) 0 = decide (Fs.rg b = 2139095040) := by
  unfold Fd.infV; rw [if_pos rfl]
  cases n : Fs.nan b
  · rw [wideR_num n, rg_wide, Bool.eq_iff_iff, ← emb_inf]
    simp only [decide_eq_true_eq]
    exact emb_inj (num_s n) (Nat.le_refl _)
  · have h := nan_wideR b w
    rw [n] at h
    unfold Fd.nan at h; unfold Fs.nan at n
    simp at h n
    rw [Bool.eq_iff_iff]; simp; omega
theorem kind_bits32 (b : Nat) (hb : W32 b) :
    ((bits .and .u32 ((b : Int) / 8388608) 255 == 255) = false ∧ Fs.nan b = false ∧ decide (Fs.rg b = 2139095040) = false) ∨
    ((bits .and .u32 ((b : Int) / 8388608) 255 == 255) = true ∧ (bits .and .u32 (b : Int) 8388607 == 0) = false ∧ Fs.nan b = true ∧ decide (Fs.rg b = 2139095040) = false) ∨
    ((bits .and .u32 ((b : Int) / 8388608) 255 == 255) = true ∧ (bits .and .u32 (b : Int) 8388607 == 0) = true ∧ Fs.nan b = false ∧ decide (Fs.rg b = 2139095040) = true) := by
  have hb' : b < 4294967296 := hb
  have d : ((b : Int) / 8388608) = ((b / 8388608 : Nat) : Int) := by omega
  have e1 := and_u32 (b / 8388608) 255 (by omega) (by decide)
  have e2 := and_u32 b 8388607 hb' (by decide)
  have l1 : b / 8388608 &&& 255 = b / 8388608 % 256 := and_low _ 8
  have l2 : b &&& 8388607 = b % 8388608 := and_low _ 23
  rw [l1] at e1
  rw [l2] at e2
  rw [show ((255 : Nat) : Int) = 255 from rfl] at e1
  rw [show ((8388607 : Nat) : Int) = 8388607 from rfl] at e2
  rw [d, e1, e2]
  have ni : Fs.nan b = decide (2139095040 < Fs.rg b) := rfl
  have e : Fs.rg b = b % 2147483648 := rfl
  rw [ni, e]; simp; omega
set_option maxHeartbeats 1000000 in
theorem law_FnKindOfBits32 (b : Nat) (hb : W32 b) (w : World) : Calls Try.prog 13 #[.int .u32 (b : Int)] w (RB true w) := by
  have g1 : ∀ w, Fd.infV (wideR b w) 0 = decide (Fs.rg b = 2139095040) := inf_wideR b
  have g2 : ∀ w, Fd.nan (wideR b w) = Fs.nan b := nan_wideR b
  rcases kind_bits32 b hb with ⟨q1, q2, q3⟩ | ⟨q1, q2, q3, q4⟩ | ⟨q1, q2, q3, q4⟩
  all_goals
    go_enter Try.func13, Try.ntmps13
    go_wp2_with (first | (go_at_call 28; refine (iIsInf_c _ _ (W_wideR _ _) _).mono ?_; rintro e w' ⟨rfl, n, rfl⟩) | (go_at_call 30; refine (iIsNaN_c _ _).mono ?_; rintro e w' ⟨rfl, n, rfl⟩) | (go_at_call 22; refine (iB32_c _ _).mono ?_; rintro e w' ⟨rfl, n, rfl⟩) | (go_at_call 21; refine (iF32_c _ _).mono ?_; rintro e w' ⟨rfl, n, rfl⟩))
    go_ret
    exact ⟨ret_bool (by simp), _, rfl⟩
end Go.Proofs.Ytjijlkegndkjbaa
