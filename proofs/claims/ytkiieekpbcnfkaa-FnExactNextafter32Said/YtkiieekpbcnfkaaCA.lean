/- Contracts of the reference's Nextafter and Nextafter32: the same number as the library's; no condition but that the arguments are words. -/
import Derived.Test.YtkiieekpbcnfkaaC9
namespace Go.Proofs.Ytkiieekpbcnfkaa
open Go.RowKit

/-- the facts of the tests of a step that is no step from zero -/
theorem next_tests {x y : Nat} (nx : Fd.nan x = false) (ny : Fd.nan y = false) (c : Fd.key x ≠ Fd.key y) (z : Fd.key x ≠ 0) :
    ∃ g : Bool, g = decide ((0 < Fd.key x ∧ Fd.key x < Fd.key y) ∨ (Fd.key x < 0 ∧ Fd.key y < Fd.key x)) ∧
    ((ltF .f64 0 x = true ∧ ltF .f64 x y = true ∧ ltF .f64 x 0 = false ∧ g = true) ∨ (ltF .f64 0 x = true ∧ ltF .f64 x y = false ∧ ltF .f64 x 0 = false ∧ g = false) ∨ (ltF .f64 0 x = false ∧ ltF .f64 x 0 = true ∧ ltF .f64 y x = g)) := by
  have kz : Fd.key 0 = 0 := by decide
  have nz : Fd.nan 0 = false := by decide
  rw [lt64, lt64, lt64, lt64, nx, ny, nz, kz]
  refine ⟨_, rfl, ?_⟩
  rcases (by omega : 0 < Fd.key x ∨ Fd.key x < 0) with p | p
  · rcases (by omega : Fd.key x < Fd.key y ∨ Fd.key y < Fd.key x) with d | d
    · left; simp; omega
    · right; left; simp; omega
  · right; right; simp
    refine ⟨by omega, p, ?_⟩
    rw [Bool.eq_iff_iff]; simp; omega
set_option maxHeartbeats 2000000 in
theorem sNext_c (x y : Nat) (hx : W64 x) (hy : W64 y) (w : World) : Calls Try.prog 24 #[.float .f64 x, .float .f64 y] w (RF (Fd.nextQ x y) w) := by
  have kz : Fd.key 0 = 0 := by decide
  have nz : Fd.nan 0 = false := by decide
  cases nx : Fd.nan x
  · cases ny : Fd.nan y
    · have HQ : Hd (∀ r, r = Fd.nxtV x y → Fd.nextQ x y r) := ⟨fun r h => by unfold Fd.nextQ; rw [nx, ny, if_neg (by decide)]; exact h⟩
      by_cases c : Fd.key x = Fd.key y
      · have f1 : eqF .f64 x y = true := by rw [eq64, nx, ny]; simp [c]
        have R : Hd (x = Fd.nxtV x y) := ⟨by unfold Fd.nxtV; rw [if_pos c]⟩
        clear c kz nz
        go_enter Try.func24, Try.ntmps24
        go_wp2_with (first | (go_at_call 45; refine (isNothing_c _ _).mono ?_; rintro e w' ⟨rfl, n, rfl⟩) | (go_at_call 46; refine (nothing_c _).mono ?_; rintro e w' ⟨r, hr, hW, rfl, n, rfl⟩) | (go_at_call 51; refine (isInfinity_c _ _).mono ?_; rintro e w' ⟨rfl, n, rfl⟩) | (go_at_call 53; refine (infinity_c _ _).mono ?_; rintro e w' ⟨rfl, n, rfl⟩) | (go_at_call 49; refine (size_c _ (by with_reducible assumption) _).mono ?_; rintro e w' ⟨rfl, n, rfl⟩) | (go_at_call 47; refine (signed_c _ _ (by with_reducible assumption) _).mono ?_; rintro e w' ⟨rfl, n, rfl⟩) | (go_at_call 48; refine (foll64_c _ _ (by first | omega | assumption) _).mono ?_; rintro e w' ⟨rfl, n, rfl⟩))
        go_ret
        exact ⟨_, HQ.out _ R.out, hx, rfl, _, rfl⟩
      · have f1 : eqF .f64 x y = false := by rw [eq64, nx, ny]; simp [c]
        by_cases z : Fd.key x = 0
        · have f2 : eqF .f64 x 0 = true := by rw [eq64, nx, nz, kz, z]; rfl
          have f3 : ltF .f64 y 0 = decide (Fd.key y < 0) := by rw [lt64, ny, nz, kz]; rfl
          have h1 : W64 (follV true 0) := by unfold W64; decide
          have R : Hd (Fd.sgnV (decide (Fd.key y < 0)) (follV true 0) = Fd.nxtV x y) := ⟨by rw [Fd.nxt_zero hy c z, Fd.wd_sgn (by omega)]; rfl⟩
          obtain ⟨b, hb⟩ : ∃ b, b = decide (Fd.key y < 0) := ⟨_, rfl⟩
          rw [← hb] at f3 R
          clear c z kz nz hb
          go_enter Try.func24, Try.ntmps24
          go_wp2_with (first | (go_at_call 45; refine (isNothing_c _ _).mono ?_; rintro e w' ⟨rfl, n, rfl⟩) | (go_at_call 46; refine (nothing_c _).mono ?_; rintro e w' ⟨r, hr, hW, rfl, n, rfl⟩) | (go_at_call 51; refine (isInfinity_c _ _).mono ?_; rintro e w' ⟨rfl, n, rfl⟩) | (go_at_call 53; refine (infinity_c _ _).mono ?_; rintro e w' ⟨rfl, n, rfl⟩) | (go_at_call 49; refine (size_c _ (by with_reducible assumption) _).mono ?_; rintro e w' ⟨rfl, n, rfl⟩) | (go_at_call 47; refine (signed_c _ _ (by with_reducible assumption) _).mono ?_; rintro e w' ⟨rfl, n, rfl⟩) | (go_at_call 48; refine (foll64_c _ _ (by first | omega | assumption) _).mono ?_; rintro e w' ⟨rfl, n, rfl⟩))
          go_ret
          exact ⟨_, HQ.out _ R.out, W_sgn _ h1, rfl, _, rfl⟩
        · have f2 : eqF .f64 x 0 = false := by rw [eq64, nx, nz, kz]; simp [z]
          have hr : Fd.sizeV x = Fd.rg x := Fd.sizeV_num nx
          have bx := Fd.key_bound nx
          have hl : Fd.rg x ≤ 9218868437227405312 := Fd.nan_rg_le nx
          obtain ⟨g, hg, ht⟩ := next_tests nx ny c z
          have kk := @Fd.key_sg x
          have h1 : W64 (follV g (Fd.rg x)) := by unfold W64 follV; (repeat' split) <;> omega
          have R : Hd (Fd.sgnV (Fd.sg x) (follV g (Fd.rg x)) = Fd.nxtV x y) := by
            constructor
            have by' := Fd.key_bound ny
            have ef : follV g (Fd.rg x) = if g then Fd.rg x + 1 else Fd.rg x - 1 := by
              unfold follV
              rw [if_neg (by cases s : Fd.sg x <;> simp only [s, Bool.false_eq_true, if_false, if_true] at kk <;> omega)]
              by_cases i : Fd.rg x = 9218868437227405312
              · have : g = false := by
                  rw [hg]; simp
                  cases s : Fd.sg x <;> simp only [s, Bool.false_eq_true, if_false, if_true] at kk <;> omega
                rw [if_pos i, this, i]; rfl
              · rw [if_neg i]
            rw [Fd.nxt_wd hx c z, ef, ← Fd.wd_sgn (by split <;> omega)]
            congr 1
            by_cases q : (0 < Fd.key x ∧ Fd.key x < Fd.key y) ∨ (Fd.key x < 0 ∧ Fd.key y < Fd.key x)
            · have : g = true := by rw [hg]; simpa using q
              rw [if_pos q, this]; rfl
            · have : g = false := by rw [hg]; simpa using q
              rw [if_neg q, this]; rfl
          have sx : Fd.sg x = decide (Fd.key x < 0) := by
            cases s : Fd.sg x <;> simp only [s, Bool.false_eq_true, if_false, if_true] at kk <;> simp <;> omega
          have H1 := Hd.mk h1
          have HL := Hd.mk hl
          have lx : ltF .f64 x 0 = Fd.sg x := by rw [lt64, nx, nz, kz, sx]; rfl
          obtain ⟨q, hq⟩ : ∃ q, q = Fd.rg x := ⟨_, rfl⟩
          obtain ⟨s, hs⟩ : ∃ s, s = Fd.sg x := ⟨_, rfl⟩
          rw [← hq] at hr H1 HL R
          rw [← hs] at R lx
          have h1 : W64 (follV g q) := H1.out
          clear c z kz nz bx kk hg sx hq hs hl H1
          rcases ht with ⟨t1, t2, t3, t4⟩ | ⟨t1, t2, t3, t4⟩ | ⟨t1, t2, t3⟩
          · subst t4
            have e : s = false := by rw [← lx, t3]
            subst e
            clear lx
            go_enter Try.func24, Try.ntmps24
            go_wp2_with (first | (go_at_call 45; refine (isNothing_c _ _).mono ?_; rintro e w' ⟨rfl, n, rfl⟩) | (go_at_call 46; refine (nothing_c _).mono ?_; rintro e w' ⟨r, hr, hW, rfl, n, rfl⟩) | (go_at_call 51; refine (isInfinity_c _ _).mono ?_; rintro e w' ⟨rfl, n, rfl⟩) | (go_at_call 53; refine (infinity_c _ _).mono ?_; rintro e w' ⟨rfl, n, rfl⟩) | (go_at_call 49; refine (size_c _ (by with_reducible assumption) _).mono ?_; rintro e w' ⟨rfl, n, rfl⟩) | (go_at_call 47; refine (signed_c _ _ (by with_reducible assumption) _).mono ?_; rintro e w' ⟨rfl, n, rfl⟩) | (go_at_call 48; refine (foll64_c _ _ HL.out _).mono ?_; rintro e w' ⟨rfl, n, rfl⟩))
            go_ret
            exact ⟨_, HQ.out _ R.out, W_sgn _ h1, rfl, _, rfl⟩
          · subst t4
            have e : s = false := by rw [← lx, t3]
            subst e
            clear lx
            go_enter Try.func24, Try.ntmps24
            go_wp2_with (first | (go_at_call 45; refine (isNothing_c _ _).mono ?_; rintro e w' ⟨rfl, n, rfl⟩) | (go_at_call 46; refine (nothing_c _).mono ?_; rintro e w' ⟨r, hr, hW, rfl, n, rfl⟩) | (go_at_call 51; refine (isInfinity_c _ _).mono ?_; rintro e w' ⟨rfl, n, rfl⟩) | (go_at_call 53; refine (infinity_c _ _).mono ?_; rintro e w' ⟨rfl, n, rfl⟩) | (go_at_call 49; refine (size_c _ (by with_reducible assumption) _).mono ?_; rintro e w' ⟨rfl, n, rfl⟩) | (go_at_call 47; refine (signed_c _ _ (by with_reducible assumption) _).mono ?_; rintro e w' ⟨rfl, n, rfl⟩) | (go_at_call 48; refine (foll64_c _ _ HL.out _).mono ?_; rintro e w' ⟨rfl, n, rfl⟩))
            go_ret
            exact ⟨_, HQ.out _ R.out, W_sgn _ h1, rfl, _, rfl⟩
          · have e : s = true := by rw [← lx, t2]
            subst e
            clear lx
            go_enter Try.func24, Try.ntmps24
            go_wp2_with (first | (go_at_call 45; refine (isNothing_c _ _).mono ?_; rintro e w' ⟨rfl, n, rfl⟩) | (go_at_call 46; refine (nothing_c _).mono ?_; rintro e w' ⟨r, hr, hW, rfl, n, rfl⟩) | (go_at_call 51; refine (isInfinity_c _ _).mono ?_; rintro e w' ⟨rfl, n, rfl⟩) | (go_at_call 53; refine (infinity_c _ _).mono ?_; rintro e w' ⟨rfl, n, rfl⟩) | (go_at_call 49; refine (size_c _ (by with_reducible assumption) _).mono ?_; rintro e w' ⟨rfl, n, rfl⟩) | (go_at_call 47; refine (signed_c _ _ (by with_reducible assumption) _).mono ?_; rintro e w' ⟨rfl, n, rfl⟩) | (go_at_call 48; refine (foll64_c _ _ HL.out _).mono ?_; rintro e w' ⟨rfl, n, rfl⟩))
            go_ret
            exact ⟨_, HQ.out _ R.out, W_sgn _ h1, rfl, _, rfl⟩
    · have R : Hd (∀ r, Fd.nan r = true → Fd.nextQ x y r) := ⟨fun r h => by unfold Fd.nextQ; rw [nx, ny, Bool.or_true, if_pos rfl]; exact h⟩
      go_enter Try.func24, Try.ntmps24
      go_wp2_with (first | (go_at_call 45; refine (isNothing_c _ _).mono ?_; rintro e w' ⟨rfl, n, rfl⟩) | (go_at_call 46; refine (nothing_c _).mono ?_; rintro e w' ⟨r, hr, hW, rfl, n, rfl⟩) | (go_at_call 51; refine (isInfinity_c _ _).mono ?_; rintro e w' ⟨rfl, n, rfl⟩) | (go_at_call 53; refine (infinity_c _ _).mono ?_; rintro e w' ⟨rfl, n, rfl⟩) | (go_at_call 49; refine (size_c _ (by with_reducible assumption) _).mono ?_; rintro e w' ⟨rfl, n, rfl⟩) | (go_at_call 47; refine (signed_c _ _ (by with_reducible assumption) _).mono ?_; rintro e w' ⟨rfl, n, rfl⟩) | (go_at_call 48; refine (foll64_c _ _ (by first | omega | assumption) _).mono ?_; rintro e w' ⟨rfl, n, rfl⟩))
      go_ret
      exact ⟨_, R.out _ hr, hW, rfl, _, rfl⟩
  · have R : Hd (∀ r, Fd.nan r = true → Fd.nextQ x y r) := ⟨fun r h => by unfold Fd.nextQ; rw [nx, Bool.true_or, if_pos rfl]; exact h⟩
    go_enter Try.func24, Try.ntmps24
    go_wp2_with (first | (go_at_call 45; refine (isNothing_c _ _).mono ?_; rintro e w' ⟨rfl, n, rfl⟩) | (go_at_call 46; refine (nothing_c _).mono ?_; rintro e w' ⟨r, hr, hW, rfl, n, rfl⟩) | (go_at_call 51; refine (isInfinity_c _ _).mono ?_; rintro e w' ⟨rfl, n, rfl⟩) | (go_at_call 53; refine (infinity_c _ _).mono ?_; rintro e w' ⟨rfl, n, rfl⟩) | (go_at_call 49; refine (size_c _ (by with_reducible assumption) _).mono ?_; rintro e w' ⟨rfl, n, rfl⟩) | (go_at_call 47; refine (signed_c _ _ (by with_reducible assumption) _).mono ?_; rintro e w' ⟨rfl, n, rfl⟩) | (go_at_call 48; refine (foll64_c _ _ (by first | omega | assumption) _).mono ?_; rintro e w' ⟨rfl, n, rfl⟩))
    go_ret
    exact ⟨_, R.out _ hr, hW, rfl, _, rfl⟩

end Go.Proofs.Ytkiieekpbcnfkaa
