/- FnMinValue: the call returns true; no condition but that the arguments are words. -/
import Derived.Test.YtnamdanomijdbaaC4
namespace Go.Proofs.Ytnamdanomijdbaa
open Go.RowKit
theorem val_nan {x y : Nat} (hx : W64 x) (hy : W64 y) (h : Fd.nan x = true ∨ Fd.nan y = true) :
    eqF .f64 (Fd.minV x y) (Fd.minV x y) = false ∨ (eqF .f64 (Fd.minV x y) (Fd.minV x y) = true ∧ Fd.sameV (Fd.minV x y) (Fd.infW (-1)) = true ∧ (Fd.sameV x (Fd.minV x y) = true ∨ (Fd.sameV x (Fd.minV x y) = false ∧ Fd.sameV y (Fd.minV x y) = true))) := by
  unfold Fd.minV
  by_cases c : Fd.key x = -9218868437227405312 ∨ Fd.key y = -9218868437227405312
  · rw [if_pos c]
    refine Or.inr ⟨by decide +kernel, by decide, ?_⟩
    rcases c with c | c
    · left; rw [Fd.key_nI hx c]; decide
    · have e := Fd.key_nI hy c
      have ny : Fd.nan y = false := by rw [e]; decide
      have nx : Fd.nan x = true := by rcases h with h | h <;> first | exact h | (rw [ny] at h; cases h)
      right; refine ⟨?_, by rw [e]; decide⟩
      unfold Fd.sameV; rw [nx, Bool.true_or, if_pos rfl]; decide
  · rw [if_neg c, if_pos h]; left; decide +kernel
theorem val_num {x y : Nat} (hx : W64 x) (hy : W64 y) (nx : Fd.nan x = false) (ny : Fd.nan y = false) :
    (Fd.sameV (Fd.minV x y) x = true ∨ (Fd.sameV (Fd.minV x y) x = false ∧ Fd.sameV (Fd.minV x y) y = true)) ∧ leF .f64 (Fd.minV x y) x = true ∧ leF .f64 (Fd.minV x y) y = true := by
  have kx := Fd.tk_key hx
  have ky := Fd.tk_key hy
  rw [Fd.minV_num hx hy nx ny]
  split
  · rename_i c
    refine ⟨Or.inl (Fd.sameV_refl _), ?_, ?_⟩
    · rw [le64, nx]; simp
    · rw [le64, nx, ny]; simp; (repeat' split at kx) <;> (repeat' split at ky) <;> omega
  · rename_i c
    refine ⟨?_, ?_, ?_⟩
    · cases h : Fd.sameV y x
      · exact Or.inr ⟨rfl, Fd.sameV_refl _⟩
      · exact Or.inl rfl
    · rw [le64, nx, ny]; simp; (repeat' split at kx) <;> (repeat' split at ky) <;> omega
    · rw [le64, ny]; simp
set_option maxHeartbeats 2000000 in
theorem law_FnMinValue (x y : Nat) (hx : W64 x) (hy : W64 y) (w : World) : Calls Try.prog 6 #[.float .f64 x, .float .f64 y] w (RB true w) := by
  have hm : W64 (Fd.minV x y) := Fd.minV_W hx hy
  cases nx : Fd.nan x
  · have f1 := num_eq nx
    cases ny : Fd.nan y
    · have f2 := num_eq ny
      obtain ⟨q1, q2, q3⟩ := val_num hx hy nx ny
      clear nx ny
      rcases q1 with q1 | ⟨q1, q4⟩
      all_goals
        go_enter Try.func6, Try.ntmps6
        go_wp2_with (first | (go_at_call 19; refine (iMin_c _ _ hx hy _).mono ?_; rintro e w' ⟨rfl, n, rfl⟩) | (go_at_call 20; refine (same_c _ _ (by assumption) (by assumption) _).mono ?_; rintro e w' ⟨rfl, n, rfl⟩))
        go_ret
        exact ⟨rfl, _, rfl⟩
    · have f2 := nan_eq ny
      have q := val_nan hx hy (Or.inr ny)
      clear nx ny
      rcases q with q | ⟨q1, q2, q3 | ⟨q3, q4⟩⟩
      all_goals
        go_enter Try.func6, Try.ntmps6
        go_wp2_with (first | (go_at_call 19; refine (iMin_c _ _ hx hy _).mono ?_; rintro e w' ⟨rfl, n, rfl⟩) | (go_at_call 21; refine (sInf_c _ _).mono ?_; rintro e w' ⟨rfl, n, rfl⟩) | (go_at_call 20; refine (same_c _ _ (by first | assumption | exact W_inf _) (by first | assumption | exact W_inf _) _).mono ?_; rintro e w' ⟨rfl, n, rfl⟩))
        go_ret
        exact ⟨rfl, _, rfl⟩
  · have f1 := nan_eq nx
    have q := val_nan hx hy (Or.inl nx)
    clear nx
    rcases q with q | ⟨q1, q2, q3 | ⟨q3, q4⟩⟩
    all_goals
      go_enter Try.func6, Try.ntmps6
      go_wp2_with (first | (go_at_call 19; refine (iMin_c _ _ hx hy _).mono ?_; rintro e w' ⟨rfl, n, rfl⟩) | (go_at_call 21; refine (sInf_c _ _).mono ?_; rintro e w' ⟨rfl, n, rfl⟩) | (go_at_call 20; refine (same_c _ _ (by first | assumption | exact W_inf _) (by first | assumption | exact W_inf _) _).mono ?_; rintro e w' ⟨rfl, n, rfl⟩))
      go_ret
      exact ⟨rfl, _, rfl⟩
end Go.Proofs.Ytnamdanomijdbaa
