/- Contracts of Max, Min, Nextafter and Nextafter32; no condition but that the arguments are words. -/
import Derived.Test.YtjfoiicooleeiaaC3
import Derived.Test.YtjfoiicooleeiaaDM
import Derived.Test.YtjfoiicooleeiaaFXs
namespace Go.Proofs.Ytjfoiicooleeiaa
open Go.RowKit


theorem kz : Fd.key 0 = 0 := by decide
theorem nz : Fd.nan 0 = false := by decide
theorem W_one : W64 1 := by unfold W64; decide
set_option maxHeartbeats 1000000 in
theorem mNext_c (x y : Nat) (hx : W64 x) (hy : W64 y) (w : World) : Calls Try.prog 46 #[.float .f64 x, .float .f64 y] w (RF (Fd.nextQ x y) w) := by
  cases nx : Fd.nan x
  · cases ny : Fd.nan y
    · have hq : ∀ r, r = Fd.nxtV x y → Fd.nextQ x y r := fun r h => by unfold Fd.nextQ; rw [nx, ny, if_neg (by decide)]; exact h
      have HW : Hd (W64 (Fd.nxtV x y)) := ⟨(Fd.nxt_spec hx hy nx ny).1⟩
      have HQ := Hd.mk hq
      clear hq
      have bx := Fd.key_bound nx
      by_cases c : Fd.key x = Fd.key y
      · have f1 : eqF .f64 x y = true := by rw [eq64, nx, ny]; simp [c]
        have R : Hd (Fd.nxtV x y = x) := ⟨by unfold Fd.nxtV; rw [if_pos c]⟩
        rw [R.out] at HW
        clear bx c
        go_enter Try.func46, Try.ntmps46
        go_wp2_with (go_at_call 59; refine (mIsNaN_c _ _).mono ?_; rintro e w' ⟨rfl, n, rfl⟩)
        go_ret
        exact ⟨x, HQ.out _ R.out.symm, HW.out, rfl, _, rfl⟩
      · have f1 : eqF .f64 x y = false := by rw [eq64, nx, ny]; simp [c]
        by_cases z : Fd.key x = 0
        · have f2 : eqF .f64 x 0 = true := by rw [eq64, nx, nz, kz, z]; rfl
          have R : Hd (Fd.nxtV x y = Fd.cps 1 y) := ⟨by unfold Fd.nxtV; rw [if_neg c, if_pos z]⟩
          rw [R.out] at HW
          clear bx c z
          go_enter Try.func46, Try.ntmps46
          go_wp2_with (first | (go_at_call 59; refine (mIsNaN_c _ _).mono ?_; rintro e w' ⟨rfl, n, rfl⟩) | (go_at_call 61; refine (mCopysign_c _ _ W_one hy _).mono ?_; rintro e w' ⟨rfl, n, rfl⟩))
          go_ret
          exact ⟨_, HQ.out _ R.out.symm, HW.out, rfl, _, rfl⟩
        · have f2 : eqF .f64 x 0 = false := by rw [eq64, nx, nz, kz]; simp [z]
          have wx : x < 18446744073709551616 := hx
          by_cases d : decide (Fd.key x < Fd.key y) = decide (0 < Fd.key x)
          · have f3 : (ltF .f64 x y == ltF .f64 0 x) = true := by
              rw [lt64, lt64, nx, ny, nz, kz]; simpa using d
            have R : Hd (Fd.nxtV x y = (IntKind.u64.wrap ((x : Int) + 1)).toNat) := by
              constructor
              unfold Fd.nxtV; rw [if_neg c, if_neg z, if_pos d, IntKind.wrap_u64]
              have hk := @Fd.word_eq x wx
              have kk := @Fd.key_sg x
              cases s : Fd.sg x <;> simp only [s, Bool.false_eq_true, if_false, if_true] at hk kk <;> omega
            rw [R.out] at HW
            clear bx c z d wx
            go_enter Try.func46, Try.ntmps46
            go_wp2_with (go_at_call 59; refine (mIsNaN_c _ _).mono ?_; rintro e w' ⟨rfl, n, rfl⟩)
            go_ret
            exact ⟨_, HQ.out _ R.out.symm, HW.out, rfl, _, rfl⟩
          · have f3 : (ltF .f64 x y == ltF .f64 0 x) = false := by
              rw [lt64, lt64, nx, ny, nz, kz]; simpa using d
            have R : Hd (Fd.nxtV x y = (IntKind.u64.wrap ((x : Int) - 1)).toNat) := by
              constructor
              unfold Fd.nxtV; rw [if_neg c, if_neg z, if_neg d, IntKind.wrap_u64]
              have hk := @Fd.word_eq x wx
              have kk := @Fd.key_sg x
              cases s : Fd.sg x <;> simp only [s, Bool.false_eq_true, if_false, if_true] at hk kk <;> omega
            rw [R.out] at HW
            clear bx c z d wx
            go_enter Try.func46, Try.ntmps46
            go_wp2_with (go_at_call 59; refine (mIsNaN_c _ _).mono ?_; rintro e w' ⟨rfl, n, rfl⟩)
            go_ret
            exact ⟨_, HQ.out _ R.out.symm, HW.out, rfl, _, rfl⟩
    · have R : Hd (Fd.nextQ x y 9221120237041090561) := ⟨by unfold Fd.nextQ; rw [nx, ny, Bool.or_true, if_pos rfl]; decide⟩
      go_enter Try.func46, Try.ntmps46
      go_wp2_with (first | (go_at_call 59; refine (mIsNaN_c _ _).mono ?_; rintro e w' ⟨rfl, n, rfl⟩) | (go_at_call 60; refine (mNaN_c _).mono ?_; rintro e w' ⟨rfl, n, rfl⟩))
      go_ret
      exact ⟨_, R.out, by unfold W64; decide, rfl, _, rfl⟩
  · have R : Hd (Fd.nextQ x y 9221120237041090561) := ⟨by unfold Fd.nextQ; rw [nx, Bool.true_or, if_pos rfl]; decide⟩
    go_enter Try.func46, Try.ntmps46
    go_wp2_with (first | (go_at_call 59; refine (mIsNaN_c _ _).mono ?_; rintro e w' ⟨rfl, n, rfl⟩) | (go_at_call 60; refine (mNaN_c _).mono ?_; rintro e w' ⟨rfl, n, rfl⟩))
    go_ret
    exact ⟨_, R.out, by unfold W64; decide, rfl, _, rfl⟩

theorem iNext_c (x y : Nat) (hx : W64 x) (hy : W64 y) (w : World) : Calls Try.prog 21 #[.float .f64 x, .float .f64 y] w (RF (Fd.nextQ x y) w) := by
  go_enter Try.func21, Try.ntmps21
  go_wp2_with (go_at_call 46; refine (mNext_c _ _ hx hy _).mono ?_; rintro e w' ⟨r, hr, hW, rfl, n, rfl⟩)
  go_ret
  exact ⟨_, hr, hW, rfl, _, rfl⟩


end Go.Proofs.Ytjfoiicooleeiaa
