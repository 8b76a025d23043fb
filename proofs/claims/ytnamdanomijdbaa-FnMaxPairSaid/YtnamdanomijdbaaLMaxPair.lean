/- FnMaxPair: the call returns true; no condition but that the arguments are words. -/
import Derived.Test.YtnamdanomijdbaaC4
namespace Go.Proofs.Ytnamdanomijdbaa
open Go.RowKit
theorem pair_num {x y : Nat} (hx : W64 x) (hy : W64 y) (nx : Fd.nan x = false) (ny : Fd.nan y = false) :
    (Fd.sameV (Fd.maxV x y) x = true ∧ Fd.sameV (Fd.minV x y) y = true) ∨ (Fd.sameV (Fd.maxV x y) x = false ∧ Fd.sameV (Fd.maxV x y) y = true ∧ Fd.sameV (Fd.minV x y) x = true) := by
  have s : ∀ a b : Nat, Fd.nan a = false → Fd.nan b = false → Fd.sameV a b = decide (a = b) := fun a b h1 h2 => by unfold Fd.sameV; rw [h1, h2]; rfl
  rw [Fd.maxV_num hx hy nx ny, Fd.minV_num hx hy nx ny]
  by_cases c : x = y
  · subst c; left; simp [Fd.sameV_refl]
  · have t : Fd.tk x ≠ Fd.tk y := fun h => c (Fd.tk_inj h)
    by_cases d : Fd.tk y ≤ Fd.tk x
    · rw [if_pos d, if_neg (by omega)]; left; exact ⟨Fd.sameV_refl _, Fd.sameV_refl _⟩
    · rw [if_neg d, if_pos (by omega), s y x ny nx]; right; exact ⟨by simp; exact fun h => c h.symm, Fd.sameV_refl _, Fd.sameV_refl _⟩
theorem same_inf {x : Nat} (hx : W64 x) : Fd.sameV x (Fd.infW 1) = decide (Fd.key x = 9218868437227405312) ∧ Fd.sameV x (Fd.infW (-1)) = decide (Fd.key x = -9218868437227405312) := by
  have n1 : Fd.nan (Fd.infW 1) = false := by decide
  have n2 : Fd.nan (Fd.infW (-1)) = false := by decide
  have e1 : Fd.infW 1 = 9218868437227405312 := rfl
  have e2 : Fd.infW (-1) = 18442240474082181120 := rfl
  cases nx : Fd.nan x
  · unfold Fd.sameV; rw [nx, n1, n2, e1, e2]
    constructor
    · rw [Bool.eq_iff_iff]; simp
      exact ⟨fun h => by rw [h]; decide, fun h => Fd.key_I hx h⟩
    · rw [Bool.eq_iff_iff]; simp
      exact ⟨fun h => by rw [h]; decide, fun h => Fd.key_nI hx h⟩
  · unfold Fd.sameV; rw [nx, n1, n2]
    unfold Fd.nan at nx; simp at nx
    have k := @Fd.key_sg x
    constructor <;> (rw [Bool.eq_iff_iff]; simp; cases s : Fd.sg x <;> simp only [s, Bool.false_eq_true, if_false, if_true] at k <;> omega)
theorem pair_nan {x y : Nat} (hx : W64 x) (hy : W64 y) (h : Fd.nan x = true ∨ Fd.nan y = true) :
    eqF .f64 (Fd.maxV x y) (Fd.maxV x y) = (Fd.sameV x (Fd.infW 1) || Fd.sameV y (Fd.infW 1)) ∧ eqF .f64 (Fd.minV x y) (Fd.minV x y) = (Fd.sameV x (Fd.infW (-1)) || Fd.sameV y (Fd.infW (-1))) := by
  rw [(same_inf hx).1, (same_inf hx).2, (same_inf hy).1, (same_inf hy).2]
  constructor
  · unfold Fd.maxV
    by_cases c : Fd.key x = 9218868437227405312 ∨ Fd.key y = 9218868437227405312
    · rw [if_pos c]
      have : (decide (Fd.key x = 9218868437227405312) || decide (Fd.key y = 9218868437227405312)) = true := by simpa using c
      rw [this]; decide +kernel
    · rw [if_neg c, if_pos h]
      have : (decide (Fd.key x = 9218868437227405312) || decide (Fd.key y = 9218868437227405312)) = false := by simpa using c
      rw [this]; decide +kernel
  · unfold Fd.minV
    by_cases c : Fd.key x = -9218868437227405312 ∨ Fd.key y = -9218868437227405312
    · rw [if_pos c]
      have : (decide (Fd.key x = -9218868437227405312) || decide (Fd.key y = -9218868437227405312)) = true := by simpa using c
      rw [this]; decide +kernel
    · rw [if_neg c, if_pos h]
      have : (decide (Fd.key x = -9218868437227405312) || decide (Fd.key y = -9218868437227405312)) = false := by simpa using c
      rw [this]; decide +kernel
set_option maxHeartbeats 2000000 in
theorem law_FnMaxPair (x y : Nat) (hx : W64 x) (hy : W64 y) (w : World) : Calls Try.prog 8 #[.float .f64 x, .float .f64 y] w (RB true w) := by
  have h3 : W64 (Fd.maxV x y) := Fd.maxV_W hx hy
  have h4 : W64 (Fd.minV x y) := Fd.minV_W hx hy
  have h5 := W_inf 1
  have h6 := W_inf (-1)
  cases nx : Fd.nan x
  · have f1 := num_eq nx
    cases ny : Fd.nan y
    · have f2 := num_eq ny
      have q := pair_num hx hy nx ny
      clear nx ny
      rcases q with ⟨q1, q2⟩ | ⟨q1, q2, q3⟩
      all_goals
        go_enter Try.func8, Try.ntmps8
        go_wp2_with (first | (go_at_call 16; refine (iMax_c _ _ hx hy _).mono ?_; rintro e w' ⟨rfl, n, rfl⟩) | (go_at_call 19; refine (iMin_c _ _ hx hy _).mono ?_; rintro e w' ⟨rfl, n, rfl⟩) | (go_at_call 20; refine (same_c _ _ (by assumption) (by assumption) _).mono ?_; rintro e w' ⟨rfl, n, rfl⟩))
        go_ret
        exact ⟨rfl, _, rfl⟩
    · have f2 := nan_eq ny
      obtain ⟨q1, q2⟩ := pair_nan hx hy (Or.inr ny)
      clear nx ny
      cases g1 : Fd.sameV x (Fd.infW 1) <;> cases g2 : Fd.sameV y (Fd.infW 1) <;> cases g3 : Fd.sameV x (Fd.infW (-1)) <;> cases g4 : Fd.sameV y (Fd.infW (-1)) <;> simp only [g1, g2, g3, g4, Bool.or_true, Bool.or_false] at q1 q2
      all_goals
        go_enter Try.func8, Try.ntmps8
        go_wp2_with (first | (go_at_call 16; refine (iMax_c _ _ hx hy _).mono ?_; rintro e w' ⟨rfl, n, rfl⟩) | (go_at_call 19; refine (iMin_c _ _ hx hy _).mono ?_; rintro e w' ⟨rfl, n, rfl⟩) | (go_at_call 21; refine (sInf_c _ _).mono ?_; rintro e w' ⟨rfl, n, rfl⟩) | (go_at_call 20; refine (same_c _ _ (by assumption) (by assumption) _).mono ?_; rintro e w' ⟨rfl, n, rfl⟩))
        go_ret
        exact ⟨rfl, _, rfl⟩
  · have f1 := nan_eq nx
    obtain ⟨q1, q2⟩ := pair_nan hx hy (Or.inl nx)
    clear nx
    cases g1 : Fd.sameV x (Fd.infW 1) <;> cases g2 : Fd.sameV y (Fd.infW 1) <;> cases g3 : Fd.sameV x (Fd.infW (-1)) <;> cases g4 : Fd.sameV y (Fd.infW (-1)) <;> simp only [g1, g2, g3, g4, Bool.or_true, Bool.or_false] at q1 q2
    all_goals
      go_enter Try.func8, Try.ntmps8
      go_wp2_with (first | (go_at_call 16; refine (iMax_c _ _ hx hy _).mono ?_; rintro e w' ⟨rfl, n, rfl⟩) | (go_at_call 19; refine (iMin_c _ _ hx hy _).mono ?_; rintro e w' ⟨rfl, n, rfl⟩) | (go_at_call 21; refine (sInf_c _ _).mono ?_; rintro e w' ⟨rfl, n, rfl⟩) | (go_at_call 20; refine (same_c _ _ (by assumption) (by assumption) _).mono ?_; rintro e w' ⟨rfl, n, rfl⟩))
      go_ret
      exact ⟨rfl, _, rfl⟩
end Go.Proofs.Ytnamdanomijdbaa
