/- Contracts of the reference's Max and Min: the same number as the library's; no condition but that the arguments are words. -/
import Derived.Test.YtnamdanomijdbaaC4
namespace Go.Proofs.Ytnamdanomijdbaa
open Go.RowKit

theorem k_zero' : Fd.key 0 = 0 := by decide
theorem n_zero' : Fd.nan 0 = false := by decide
theorem inf_cases (x : Nat) : (Fd.isInf x = true ∧ Fd.key x = 9218868437227405312 ∧ ltF .f64 0 x = true) ∨ (Fd.isInf x = true ∧ Fd.key x ≠ 9218868437227405312 ∧ ltF .f64 0 x = false) ∨ (Fd.isInf x = false ∧ Fd.key x ≠ 9218868437227405312) := by
  have k := @Fd.key_sg x
  rw [lt64, n_zero', k_zero']
  unfold Fd.isInf Fd.nan
  cases s : Fd.sg x <;> simp only [s, Bool.false_eq_true, if_false, if_true] at k <;> simp <;> omega
theorem maxV_zero {x y : Nat} (hx : W64 x) (hy : W64 y) (zx : Fd.key x = 0) (zy : Fd.key y = 0) : Fd.maxV x y = Fd.sgnV (Fd.negV x && Fd.negV y) 0 := by
  rcases (Fd.key_zero hx).1 zx with rfl | rfl <;> rcases (Fd.key_zero hy).1 zy with rfl | rfl <;> decide
set_option maxHeartbeats 4000000 in
theorem sMax_c (x y : Nat) (hx : W64 x) (hy : W64 y) (w : World) : Calls Try.prog 15 #[.float .f64 x, .float .f64 y] w (RF (fun r => Fd.sameV (Fd.maxV x y) r = true) w) := by
  have HI : (Fd.key x = 9218868437227405312 ∨ Fd.key y = 9218868437227405312) → Fd.sameV (Fd.maxV x y) (Fd.sgnV false 9218868437227405312) = true := by
    intro h; unfold Fd.maxV; rw [if_pos h]; decide
  have HN : (Fd.key x ≠ 9218868437227405312 ∧ Fd.key y ≠ 9218868437227405312) → (Fd.nan x = true ∨ Fd.nan y = true) → ∀ r, Fd.nan r = true → Fd.sameV (Fd.maxV x y) r = true := by
    intro h g r hr; unfold Fd.maxV; rw [if_neg (by omega), if_pos g]; exact Fd.sameV_nan (by decide) hr
  rcases inf_cases x with ⟨a1, a2, a3⟩ | ⟨a1, a2, a3⟩ | ⟨a1, a2⟩
  · have R := Hd.mk (HI (Or.inl a2))
    clear HI HN a2
    go_enter Try.func15, Try.ntmps15
    go_wp2_with (first | (go_at_call 25; refine (isInfinity_c _ _).mono ?_; rintro e w' ⟨rfl, n, rfl⟩) | (go_at_call 26; refine (infinity_c _ _).mono ?_; rintro e w' ⟨rfl, n, rfl⟩) | (go_at_call 27; refine (isNothing_c _ _).mono ?_; rintro e w' ⟨rfl, n, rfl⟩) | (go_at_call 28; refine (nothing_c _).mono ?_; rintro e w' ⟨r, hr, hW, rfl, n, rfl⟩) | (go_at_call 30; refine (isNegative_c _ (by assumption) _).mono ?_; rintro e w' ⟨rfl, n, rfl⟩) | (go_at_call 29; refine (signed_c _ _ W_zero _).mono ?_; rintro e w' ⟨rfl, n, rfl⟩))
    go_ret
    exact ⟨_, R.out, W_sgn _ (by unfold W64; decide), rfl, _, rfl⟩
  all_goals
    rcases inf_cases y with ⟨b1, b2, b3⟩ | ⟨b1, b2, b3⟩ | ⟨b1, b2⟩
    · have R := Hd.mk (HI (Or.inr b2))
      clear HI HN a2 b2
      go_enter Try.func15, Try.ntmps15
      go_wp2_with (first | (go_at_call 25; refine (isInfinity_c _ _).mono ?_; rintro e w' ⟨rfl, n, rfl⟩) | (go_at_call 26; refine (infinity_c _ _).mono ?_; rintro e w' ⟨rfl, n, rfl⟩) | (go_at_call 27; refine (isNothing_c _ _).mono ?_; rintro e w' ⟨rfl, n, rfl⟩) | (go_at_call 28; refine (nothing_c _).mono ?_; rintro e w' ⟨r, hr, hW, rfl, n, rfl⟩) | (go_at_call 30; refine (isNegative_c _ (by assumption) _).mono ?_; rintro e w' ⟨rfl, n, rfl⟩) | (go_at_call 29; refine (signed_c _ _ W_zero _).mono ?_; rintro e w' ⟨rfl, n, rfl⟩))
      go_ret
      exact ⟨_, R.out, W_sgn _ (by unfold W64; decide), rfl, _, rfl⟩
    all_goals
      cases nx : Fd.nan x
      · cases ny : Fd.nan y
        · have m := Hd.mk (Fd.maxV_num hx hy nx ny)
          have kx := Fd.tk_key hx
          have ky := Fd.tk_key hy
          by_cases z : Fd.key x = 0 ∧ Fd.key y = 0
          · have f1 : eqF .f64 x 0 = true := by rw [eq64, nx, n_zero', k_zero', z.1]; rfl
            have f2 : eqF .f64 y 0 = true := by rw [eq64, ny, n_zero', k_zero', z.2]; rfl
            have R : Hd (Fd.sameV (Fd.maxV x y) (Fd.sgnV (Fd.negV x && Fd.negV y) 0) = true) := ⟨by rw [maxV_zero hx hy z.1 z.2]; exact Fd.sameV_refl _⟩
            clear HI HN a2 b2 m kx ky z
            cases ng1 : Fd.negV x <;> cases ng2 : Fd.negV y <;> rw [ng1, ng2] at R
            all_goals
              go_enter Try.func15, Try.ntmps15
              go_wp2_with (first | (go_at_call 25; refine (isInfinity_c _ _).mono ?_; rintro e w' ⟨rfl, n, rfl⟩) | (go_at_call 26; refine (infinity_c _ _).mono ?_; rintro e w' ⟨rfl, n, rfl⟩) | (go_at_call 27; refine (isNothing_c _ _).mono ?_; rintro e w' ⟨rfl, n, rfl⟩) | (go_at_call 28; refine (nothing_c _).mono ?_; rintro e w' ⟨r, hr, hW, rfl, n, rfl⟩) | (go_at_call 30; refine (isNegative_c _ (by assumption) _).mono ?_; rintro e w' ⟨rfl, n, rfl⟩) | (go_at_call 29; refine (signed_c _ _ W_zero _).mono ?_; rintro e w' ⟨rfl, n, rfl⟩))
              go_ret
              exact ⟨_, R.out, W_sgn _ W_zero, rfl, _, rfl⟩
          · have ff : (eqF .f64 x 0 = false) ∨ (eqF .f64 x 0 = true ∧ eqF .f64 y 0 = false) := by
              rw [eq64, eq64, nx, ny, n_zero', k_zero']
              by_cases zx : Fd.key x = 0
              · exact Or.inr ⟨by simp [zx], by simp; exact fun h => z ⟨zx, h⟩⟩
              · exact Or.inl (by simp [zx])
            by_cases c : Fd.key y < Fd.key x
            · have f3 : ltF .f64 y x = true := by rw [lt64, nx, ny]; simp [c]
              have R : Hd (Fd.sameV (Fd.maxV x y) x = true) := by
                constructor
                rw [m.out, if_pos (by (repeat' split at kx) <;> (repeat' split at ky) <;> omega)]; exact Fd.sameV_refl _
              clear HI HN a2 b2 m kx ky z c
              rcases ff with f1 | ⟨f1, f2⟩
              all_goals
                go_enter Try.func15, Try.ntmps15
                go_wp2_with (first | (go_at_call 25; refine (isInfinity_c _ _).mono ?_; rintro e w' ⟨rfl, n, rfl⟩) | (go_at_call 26; refine (infinity_c _ _).mono ?_; rintro e w' ⟨rfl, n, rfl⟩) | (go_at_call 27; refine (isNothing_c _ _).mono ?_; rintro e w' ⟨rfl, n, rfl⟩) | (go_at_call 28; refine (nothing_c _).mono ?_; rintro e w' ⟨r, hr, hW, rfl, n, rfl⟩) | (go_at_call 30; refine (isNegative_c _ (by assumption) _).mono ?_; rintro e w' ⟨rfl, n, rfl⟩) | (go_at_call 29; refine (signed_c _ _ W_zero _).mono ?_; rintro e w' ⟨rfl, n, rfl⟩))
                go_ret
                exact ⟨_, R.out, hx, rfl, _, rfl⟩
            · have f3 : ltF .f64 y x = false := by rw [lt64, nx, ny]; simp; omega
              have R : Hd (Fd.sameV (Fd.maxV x y) y = true) := by
                constructor
                rw [m.out]
                by_cases g : Fd.tk y ≤ Fd.tk x
                · rw [if_pos g]
                  have : x = y := Fd.tk_inj (by (repeat' split at kx) <;> (repeat' split at ky) <;> omega)
                  rw [this]; exact Fd.sameV_refl _
                · rw [if_neg g]; exact Fd.sameV_refl _
              clear HI HN a2 b2 m kx ky z c
              rcases ff with f1 | ⟨f1, f2⟩
              all_goals
                go_enter Try.func15, Try.ntmps15
                go_wp2_with (first | (go_at_call 25; refine (isInfinity_c _ _).mono ?_; rintro e w' ⟨rfl, n, rfl⟩) | (go_at_call 26; refine (infinity_c _ _).mono ?_; rintro e w' ⟨rfl, n, rfl⟩) | (go_at_call 27; refine (isNothing_c _ _).mono ?_; rintro e w' ⟨rfl, n, rfl⟩) | (go_at_call 28; refine (nothing_c _).mono ?_; rintro e w' ⟨r, hr, hW, rfl, n, rfl⟩) | (go_at_call 30; refine (isNegative_c _ (by assumption) _).mono ?_; rintro e w' ⟨rfl, n, rfl⟩) | (go_at_call 29; refine (signed_c _ _ W_zero _).mono ?_; rintro e w' ⟨rfl, n, rfl⟩))
                go_ret
                exact ⟨_, R.out, hy, rfl, _, rfl⟩
        · have R := Hd.mk (HN ⟨a2, b2⟩ (Or.inr ny))
          clear HI HN a2 b2
          go_enter Try.func15, Try.ntmps15
          go_wp2_with (first | (go_at_call 25; refine (isInfinity_c _ _).mono ?_; rintro e w' ⟨rfl, n, rfl⟩) | (go_at_call 26; refine (infinity_c _ _).mono ?_; rintro e w' ⟨rfl, n, rfl⟩) | (go_at_call 27; refine (isNothing_c _ _).mono ?_; rintro e w' ⟨rfl, n, rfl⟩) | (go_at_call 28; refine (nothing_c _).mono ?_; rintro e w' ⟨r, hr, hW, rfl, n, rfl⟩) | (go_at_call 30; refine (isNegative_c _ (by assumption) _).mono ?_; rintro e w' ⟨rfl, n, rfl⟩) | (go_at_call 29; refine (signed_c _ _ W_zero _).mono ?_; rintro e w' ⟨rfl, n, rfl⟩))
          go_ret
          exact ⟨_, R.out _ hr, hW, rfl, _, rfl⟩
      · have R := Hd.mk (HN ⟨a2, b2⟩ (Or.inl nx))
        clear HI HN a2 b2
        go_enter Try.func15, Try.ntmps15
        go_wp2_with (first | (go_at_call 25; refine (isInfinity_c _ _).mono ?_; rintro e w' ⟨rfl, n, rfl⟩) | (go_at_call 26; refine (infinity_c _ _).mono ?_; rintro e w' ⟨rfl, n, rfl⟩) | (go_at_call 27; refine (isNothing_c _ _).mono ?_; rintro e w' ⟨rfl, n, rfl⟩) | (go_at_call 28; refine (nothing_c _).mono ?_; rintro e w' ⟨r, hr, hW, rfl, n, rfl⟩) | (go_at_call 30; refine (isNegative_c _ (by assumption) _).mono ?_; rintro e w' ⟨rfl, n, rfl⟩) | (go_at_call 29; refine (signed_c _ _ W_zero _).mono ?_; rintro e w' ⟨rfl, n, rfl⟩))
        go_ret
        exact ⟨_, R.out _ hr, hW, rfl, _, rfl⟩
theorem ninf_cases (x : Nat) : (Fd.isInf x = true ∧ Fd.key x = -9218868437227405312 ∧ ltF .f64 x 0 = true) ∨ (Fd.isInf x = true ∧ Fd.key x ≠ -9218868437227405312 ∧ ltF .f64 x 0 = false) ∨ (Fd.isInf x = false ∧ Fd.key x ≠ -9218868437227405312) := by
  have k := @Fd.key_sg x
  rw [lt64, n_zero', k_zero']
  unfold Fd.isInf Fd.nan
  cases s : Fd.sg x <;> simp only [s, Bool.false_eq_true, if_false, if_true] at k <;> simp <;> omega
theorem minV_zero {x y : Nat} (hx : W64 x) (hy : W64 y) (zx : Fd.key x = 0) (zy : Fd.key y = 0) : Fd.minV x y = Fd.sgnV (Fd.negV x || Fd.negV y) 0 := by
  rcases (Fd.key_zero hx).1 zx with rfl | rfl <;> rcases (Fd.key_zero hy).1 zy with rfl | rfl <;> decide
set_option maxHeartbeats 4000000 in
theorem sMin_c (x y : Nat) (hx : W64 x) (hy : W64 y) (w : World) : Calls Try.prog 18 #[.float .f64 x, .float .f64 y] w (RF (fun r => Fd.sameV (Fd.minV x y) r = true) w) := by
  have HI : (Fd.key x = -9218868437227405312 ∨ Fd.key y = -9218868437227405312) → Fd.sameV (Fd.minV x y) (Fd.sgnV true 9218868437227405312) = true := by
    intro h; unfold Fd.minV; rw [if_pos h]; decide
  have HN : (Fd.key x ≠ -9218868437227405312 ∧ Fd.key y ≠ -9218868437227405312) → (Fd.nan x = true ∨ Fd.nan y = true) → ∀ r, Fd.nan r = true → Fd.sameV (Fd.minV x y) r = true := by
    intro h g r hr; unfold Fd.minV; rw [if_neg (by omega), if_pos g]; exact Fd.sameV_nan (by decide) hr
  rcases ninf_cases x with ⟨a1, a2, a3⟩ | ⟨a1, a2, a3⟩ | ⟨a1, a2⟩
  · have R := Hd.mk (HI (Or.inl a2))
    clear HI HN a2
    go_enter Try.func18, Try.ntmps18
    go_wp2_with (first | (go_at_call 25; refine (isInfinity_c _ _).mono ?_; rintro e w' ⟨rfl, n, rfl⟩) | (go_at_call 26; refine (infinity_c _ _).mono ?_; rintro e w' ⟨rfl, n, rfl⟩) | (go_at_call 27; refine (isNothing_c _ _).mono ?_; rintro e w' ⟨rfl, n, rfl⟩) | (go_at_call 28; refine (nothing_c _).mono ?_; rintro e w' ⟨r, hr, hW, rfl, n, rfl⟩) | (go_at_call 30; refine (isNegative_c _ (by assumption) _).mono ?_; rintro e w' ⟨rfl, n, rfl⟩) | (go_at_call 29; refine (signed_c _ _ W_zero _).mono ?_; rintro e w' ⟨rfl, n, rfl⟩))
    go_ret
    exact ⟨_, R.out, W_sgn _ (by unfold W64; decide), rfl, _, rfl⟩
  all_goals
    rcases ninf_cases y with ⟨b1, b2, b3⟩ | ⟨b1, b2, b3⟩ | ⟨b1, b2⟩
    · have R := Hd.mk (HI (Or.inr b2))
      clear HI HN a2 b2
      go_enter Try.func18, Try.ntmps18
      go_wp2_with (first | (go_at_call 25; refine (isInfinity_c _ _).mono ?_; rintro e w' ⟨rfl, n, rfl⟩) | (go_at_call 26; refine (infinity_c _ _).mono ?_; rintro e w' ⟨rfl, n, rfl⟩) | (go_at_call 27; refine (isNothing_c _ _).mono ?_; rintro e w' ⟨rfl, n, rfl⟩) | (go_at_call 28; refine (nothing_c _).mono ?_; rintro e w' ⟨r, hr, hW, rfl, n, rfl⟩) | (go_at_call 30; refine (isNegative_c _ (by assumption) _).mono ?_; rintro e w' ⟨rfl, n, rfl⟩) | (go_at_call 29; refine (signed_c _ _ W_zero _).mono ?_; rintro e w' ⟨rfl, n, rfl⟩))
      go_ret
      exact ⟨_, R.out, W_sgn _ (by unfold W64; decide), rfl, _, rfl⟩
    all_goals
      cases nx : Fd.nan x
      · cases ny : Fd.nan y
        · have m := Hd.mk (Fd.minV_num hx hy nx ny)
          have kx := Fd.tk_key hx
          have ky := Fd.tk_key hy
          by_cases z : Fd.key x = 0 ∧ Fd.key y = 0
          · have f1 : eqF .f64 x 0 = true := by rw [eq64, nx, n_zero', k_zero', z.1]; rfl
            have f2 : eqF .f64 y 0 = true := by rw [eq64, ny, n_zero', k_zero', z.2]; rfl
            have R : Hd (Fd.sameV (Fd.minV x y) (Fd.sgnV (Fd.negV x || Fd.negV y) 0) = true) := ⟨by rw [minV_zero hx hy z.1 z.2]; exact Fd.sameV_refl _⟩
            clear HI HN a2 b2 m kx ky z
            cases ng1 : Fd.negV x <;> cases ng2 : Fd.negV y <;> rw [ng1, ng2] at R
            all_goals
              go_enter Try.func18, Try.ntmps18
              go_wp2_with (first | (go_at_call 25; refine (isInfinity_c _ _).mono ?_; rintro e w' ⟨rfl, n, rfl⟩) | (go_at_call 26; refine (infinity_c _ _).mono ?_; rintro e w' ⟨rfl, n, rfl⟩) | (go_at_call 27; refine (isNothing_c _ _).mono ?_; rintro e w' ⟨rfl, n, rfl⟩) | (go_at_call 28; refine (nothing_c _).mono ?_; rintro e w' ⟨r, hr, hW, rfl, n, rfl⟩) | (go_at_call 30; refine (isNegative_c _ (by assumption) _).mono ?_; rintro e w' ⟨rfl, n, rfl⟩) | (go_at_call 29; refine (signed_c _ _ W_zero _).mono ?_; rintro e w' ⟨rfl, n, rfl⟩))
              go_ret
              exact ⟨_, R.out, W_sgn _ W_zero, rfl, _, rfl⟩
          · have ff : (eqF .f64 x 0 = false) ∨ (eqF .f64 x 0 = true ∧ eqF .f64 y 0 = false) := by
              rw [eq64, eq64, nx, ny, n_zero', k_zero']
              by_cases zx : Fd.key x = 0
              · exact Or.inr ⟨by simp [zx], by simp; exact fun h => z ⟨zx, h⟩⟩
              · exact Or.inl (by simp [zx])
            by_cases c : Fd.key x < Fd.key y
            · have f3 : ltF .f64 x y = true := by rw [lt64, nx, ny]; simp [c]
              have R : Hd (Fd.sameV (Fd.minV x y) x = true) := by
                constructor
                rw [m.out, if_pos (by (repeat' split at kx) <;> (repeat' split at ky) <;> omega)]; exact Fd.sameV_refl _
              clear HI HN a2 b2 m kx ky z c
              rcases ff with f1 | ⟨f1, f2⟩
              all_goals
                go_enter Try.func18, Try.ntmps18
                go_wp2_with (first | (go_at_call 25; refine (isInfinity_c _ _).mono ?_; rintro e w' ⟨rfl, n, rfl⟩) | (go_at_call 26; refine (infinity_c _ _).mono ?_; rintro e w' ⟨rfl, n, rfl⟩) | (go_at_call 27; refine (isNothing_c _ _).mono ?_; rintro e w' ⟨rfl, n, rfl⟩) | (go_at_call 28; refine (nothing_c _).mono ?_; rintro e w' ⟨r, hr, hW, rfl, n, rfl⟩) | (go_at_call 30; refine (isNegative_c _ (by assumption) _).mono ?_; rintro e w' ⟨rfl, n, rfl⟩) | (go_at_call 29; refine (signed_c _ _ W_zero _).mono ?_; rintro e w' ⟨rfl, n, rfl⟩))
                go_ret
                exact ⟨_, R.out, hx, rfl, _, rfl⟩
            · have f3 : ltF .f64 x y = false := by rw [lt64, nx, ny]; simp; omega
              have R : Hd (Fd.sameV (Fd.minV x y) y = true) := by
                constructor
                rw [m.out]
                by_cases g : Fd.tk x ≤ Fd.tk y
                · rw [if_pos g]
                  have : x = y := Fd.tk_inj (by (repeat' split at kx) <;> (repeat' split at ky) <;> omega)
                  rw [this]; exact Fd.sameV_refl _
                · rw [if_neg g]; exact Fd.sameV_refl _
              clear HI HN a2 b2 m kx ky z c
              rcases ff with f1 | ⟨f1, f2⟩
              all_goals
                go_enter Try.func18, Try.ntmps18
                go_wp2_with (first | (go_at_call 25; refine (isInfinity_c _ _).mono ?_; rintro e w' ⟨rfl, n, rfl⟩) | (go_at_call 26; refine (infinity_c _ _).mono ?_; rintro e w' ⟨rfl, n, rfl⟩) | (go_at_call 27; refine (isNothing_c _ _).mono ?_; rintro e w' ⟨rfl, n, rfl⟩) | (go_at_call 28; refine (nothing_c _).mono ?_; rintro e w' ⟨r, hr, hW, rfl, n, rfl⟩) | (go_at_call 30; refine (isNegative_c _ (by assumption) _).mono ?_; rintro e w' ⟨rfl, n, rfl⟩) | (go_at_call 29; refine (signed_c _ _ W_zero _).mono ?_; rintro e w' ⟨rfl, n, rfl⟩))
                go_ret
                exact ⟨_, R.out, hy, rfl, _, rfl⟩
        · have R := Hd.mk (HN ⟨a2, b2⟩ (Or.inr ny))
          clear HI HN a2 b2
          go_enter Try.func18, Try.ntmps18
          go_wp2_with (first | (go_at_call 25; refine (isInfinity_c _ _).mono ?_; rintro e w' ⟨rfl, n, rfl⟩) | (go_at_call 26; refine (infinity_c _ _).mono ?_; rintro e w' ⟨rfl, n, rfl⟩) | (go_at_call 27; refine (isNothing_c _ _).mono ?_; rintro e w' ⟨rfl, n, rfl⟩) | (go_at_call 28; refine (nothing_c _).mono ?_; rintro e w' ⟨r, hr, hW, rfl, n, rfl⟩) | (go_at_call 30; refine (isNegative_c _ (by assumption) _).mono ?_; rintro e w' ⟨rfl, n, rfl⟩) | (go_at_call 29; refine (signed_c _ _ W_zero _).mono ?_; rintro e w' ⟨rfl, n, rfl⟩))
          go_ret
          exact ⟨_, R.out _ hr, hW, rfl, _, rfl⟩
      · have R := Hd.mk (HN ⟨a2, b2⟩ (Or.inl nx))
        clear HI HN a2 b2
        go_enter Try.func18, Try.ntmps18
        go_wp2_with (first | (go_at_call 25; refine (isInfinity_c _ _).mono ?_; rintro e w' ⟨rfl, n, rfl⟩) | (go_at_call 26; refine (infinity_c _ _).mono ?_; rintro e w' ⟨rfl, n, rfl⟩) | (go_at_call 27; refine (isNothing_c _ _).mono ?_; rintro e w' ⟨rfl, n, rfl⟩) | (go_at_call 28; refine (nothing_c _).mono ?_; rintro e w' ⟨r, hr, hW, rfl, n, rfl⟩) | (go_at_call 30; refine (isNegative_c _ (by assumption) _).mono ?_; rintro e w' ⟨rfl, n, rfl⟩) | (go_at_call 29; refine (signed_c _ _ W_zero _).mono ?_; rintro e w' ⟨rfl, n, rfl⟩))
        go_ret
        exact ⟨_, R.out _ hr, hW, rfl, _, rfl⟩

end Go.Proofs.Ytnamdanomijdbaa
