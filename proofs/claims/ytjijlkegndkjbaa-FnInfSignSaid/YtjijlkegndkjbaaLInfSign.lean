/- FnInfSign: the call returns true; no condition but that the arguments are words. -/
import Derived.Test.YtjijlkegndkjbaaC2
namespace Go.Proofs.Ytjijlkegndkjbaa
open Go.RowKit
theorem inf_facts (s o o' : Int) (h : (s < 0 ∧ o = -1 ∧ o' = 1) ∨ (0 ≤ s ∧ o = 1 ∧ o' = -1)) :
    Fd.fin (Fd.infW s) = false ∧ eqF .f64 (Fd.infW s) (Fd.infW s) = true ∧ ltF .f64 0 (Fd.infW s) = decide (0 ≤ s) ∧ Fd.infV (Fd.infW s) o = true ∧ Fd.infV (Fd.infW s) o' = false ∧ Fd.infV (Fd.infW s) 0 = true := by
  rcases h with ⟨h, rfl, rfl⟩ | ⟨h, rfl, rfl⟩
  · have e : Fd.infW s = 18442240474082181120 := by unfold Fd.infW; rw [if_pos h]
    have d : decide (0 ≤ s) = false := by simp; omega
    rw [e, d]; refine ⟨?_, ?_, ?_, ?_, ?_, ?_⟩ <;> decide +kernel
  · have e : Fd.infW s = 9218868437227405312 := by unfold Fd.infW; rw [if_neg (by omega)]
    have d : decide (0 ≤ s) = true := by simp; omega
    rw [e, d]; refine ⟨?_, ?_, ?_, ?_, ?_, ?_⟩ <;> decide +kernel
set_option maxHeartbeats 1000000 in
theorem law_FnInfSign (s : Int) (_hs : I64 s) (w : World) : Calls Try.prog 11 #[.int .i64 s] w (RB true w) := by
  have f1 : ∀ w, eqF .f64 (res .sub .f64 (Fd.infW s) (Fd.infW s) w) 0 = Fd.fin (Fd.infW s) := sub_self_res _
  rcases (by omega : s < 0 ∨ 0 ≤ s) with h | h
  · obtain ⟨q1, q2, q3, q4, q5, q6⟩ := inf_facts s (-1) 1 (Or.inl ⟨h, rfl, rfl⟩)
    go_enter Try.func11, Try.ntmps11
    go_wp2_with (first | (go_at_call 29; refine (iInf_c _ _).mono ?_; rintro e w' ⟨rfl, n, rfl⟩) | (go_at_call 28; refine (iIsInf_c _ _ (W_inf _) _).mono ?_; rintro e w' ⟨rfl, n, rfl⟩))
    go_ret
    exact ⟨rfl, _, rfl⟩
  · obtain ⟨q1, q2, q3, q4, q5, q6⟩ := inf_facts s 1 (-1) (Or.inr ⟨h, rfl, rfl⟩)
    go_enter Try.func11, Try.ntmps11
    go_wp2_with (first | (go_at_call 29; refine (iInf_c _ _).mono ?_; rintro e w' ⟨rfl, n, rfl⟩) | (go_at_call 28; refine (iIsInf_c _ _ (W_inf _) _).mono ?_; rintro e w' ⟨rfl, n, rfl⟩))
    go_ret
    exact ⟨rfl, _, rfl⟩
end Go.Proofs.Ytjijlkegndkjbaa
