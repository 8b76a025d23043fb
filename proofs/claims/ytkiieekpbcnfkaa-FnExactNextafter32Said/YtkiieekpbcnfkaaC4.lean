/- Contracts of Max, Min, Nextafter and Nextafter32; no condition but that the arguments are words. -/
import Derived.Test.YtkiieekpbcnfkaaC3
import Derived.Test.YtkiieekpbcnfkaaDM
import Derived.Test.YtkiieekpbcnfkaaFXs
namespace Go.Proofs.Ytkiieekpbcnfkaa
open Go.RowKit


theorem kz : Fd.key 0 = 0 := by decide
theorem nz : Fd.nan 0 = false := by decide
theorem W_one : W64 1 := by unfold W64; decide
set_option maxHeartbeats 1000000 in
theorem mNext_c (x y : Nat) (hx : W64 x) (hy : W64 y) (w : World) : Calls Try.prog 50 #[.float .f64 x, .float .f64 y] w (RF (Fd.nextQ x y) w) := by
  cases nx : Fd.nan x
  · cases ny : Fd.nan y
    · have hq : ∀ r, r = Fd.nxtV x y → Fd.nextQ x y r := fun r h => by unfold Fd.nextQ; rw [nx, ny, if_neg (by decide)]; exact h
      have HW : Hd (W64 (Fd.nxtV x y)) := ⟨(Fd.nxt_spec hx hy nx ny).1⟩
      have HQ := Hd.mk hq
      clear hq
      have bx := Fd.key_bound nx
      by_cases c : Fd.key x = Fd.key y
      · have f1 : eqF .f64 x y = true := by rw [eq64, nx, ny]; simp [c]
        have R : Hd (Fd.nxtV x y = x) := ⟨by unfold Fd.nxtV; rw [if_pos c]⟩
        rw [R.out] at HW
        clear bx c
        go_enter Try.func50, Try.ntmps50
        go_wp2_with (go_at_call 61; refine (mIsNaN_c _ _).mono ?_; rintro e w' ⟨rfl, n, rfl⟩)
        go_ret
        exact ⟨x, HQ.out _ R.out.symm, HW.out, rfl, _, rfl⟩
      · have f1 : eqF .f64 x y = false := by rw [eq64, nx, ny]; simp [c]
        by_cases z : Fd.key x = 0
        · have f2 : eqF .f64 x 0 = true := by rw [eq64, nx, nz, kz, z]; rfl
          have R : Hd (Fd.nxtV x y = Fd.cps 1 y) := ⟨by unfold Fd.nxtV; rw [if_neg c, if_pos z]⟩
          rw [R.out] at HW
          clear bx c z
          go_enter Try.func50, Try.ntmps50
          go_wp2_with (first | (go_at_call 61; refine (mIsNaN_c _ _).mono ?_; rintro e w' ⟨rfl, n, rfl⟩) | (go_at_call 63; refine (mCopysign_c _ _ W_one hy _).mono ?_; rintro e w' ⟨rfl, n, rfl⟩))
          go_ret
          exact ⟨_, HQ.out _ R.out.symm, HW.out, rfl, _, rfl⟩
        · have f2 : eqF .f64 x 0 = false := by rw [eq64, nx, nz, kz]; simp [z]
          have wx : x < 18446744073709551616 := hx
          by_cases d : decide (Fd.key x < Fd.key y) = decide (0 < Fd.key x)
          · have f3 : (ltF .f64 x y == ltF .f64 0 x) = true := by
              rw [lt64, lt64, nx, ny, nz, kz]; simpa using d
            have R : Hd (Fd.nxtV x y = (IntKind.u64.wrap ((x : Int) + 1)).toNat) := by
              constructor
              unfold Fd.nxtV; rw [if_neg c, if_neg z, if_pos d, IntKind.wrap_u64]
              have hk := @Fd.word_eq x wx
              have kk := @Fd.key_sg x
              cases s : Fd.sg x <;> simp only [s, Bool.false_eq_true, if_false, if_true] at hk kk <;> omega
            rw [R.out] at HW
            clear bx c z d wx
            go_enter Try.func50, Try.ntmps50
            go_wp2_with (go_at_call 61; refine (mIsNaN_c _ _).mono ?_; rintro e w' ⟨rfl, n, rfl⟩)
            go_ret
            exact ⟨_, HQ.out _ R.out.symm, HW.out, rfl, _, rfl⟩
          · have f3 : (ltF .f64 x y == ltF .f64 0 x) = false := by
              rw [lt64, lt64, nx, ny, nz, kz]; simpa using d
            have R : Hd (Fd.nxtV x y = (IntKind.u64.wrap ((x : Int) - 1)).toNat) := by
              constructor
              unfold Fd.nxtV; rw [if_neg c, if_neg z, if_neg d, IntKind.wrap_u64]
              have hk := @Fd.word_eq x wx
              have kk := @Fd.key_sg x
              cases s : Fd.sg x <;> simp only [s, Bool.false_eq_true, if_false, if_true] at hk kk <;> omega
            rw [R.out] at HW
            clear bx c z d wx
            go_enter Try.func50, Try.ntmps50
            go_wp2_with (go_at_call 61; refine (mIsNaN_c _ _).mono ?_; rintro e w' ⟨rfl, n, rfl⟩)
            go_ret
            exact ⟨_, HQ.out _ R.out.symm, HW.out, rfl, _, rfl⟩
    · have R : Hd (Fd.nextQ x y 9221120237041090561) := ⟨by unfold Fd.nextQ; rw [nx, ny, Bool.or_true, if_pos rfl]; decide⟩
      go_enter Try.func50, Try.ntmps50
      go_wp2_with (first | (go_at_call 61; refine (mIsNaN_c _ _).mono ?_; rintro e w' ⟨rfl, n, rfl⟩) | (go_at_call 62; refine (mNaN_c _).mono ?_; rintro e w' ⟨rfl, n, rfl⟩))
      go_ret
      exact ⟨_, R.out, by unfold W64; decide, rfl, _, rfl⟩
  · have R : Hd (Fd.nextQ x y 9221120237041090561) := ⟨by unfold Fd.nextQ; rw [nx, Bool.true_or, if_pos rfl]; decide⟩
    go_enter Try.func50, Try.ntmps50
    go_wp2_with (first | (go_at_call 61; refine (mIsNaN_c _ _).mono ?_; rintro e w' ⟨rfl, n, rfl⟩) | (go_at_call 62; refine (mNaN_c _).mono ?_; rintro e w' ⟨rfl, n, rfl⟩))
    go_ret
    exact ⟨_, R.out, by unfold W64; decide, rfl, _, rfl⟩

theorem iNext_c (x y : Nat) (hx : W64 x) (hy : W64 y) (w : World) : Calls Try.prog 25 #[.float .f64 x, .float .f64 y] w (RF (Fd.nextQ x y) w) := by
  go_enter Try.func25, Try.ntmps25
  go_wp2_with (go_at_call 50; refine (mNext_c _ _ hx hy _).mono ?_; rintro e w' ⟨r, hr, hW, rfl, n, rfl⟩)
  go_ret
  exact ⟨_, hr, hW, rfl, _, rfl⟩

theorem kz32 : Fs.key 0 = 0 := by decide
theorem nz32 : Fs.nan 0 = false := by decide
theorem narR_cps {y : Nat} (hy : W32 y) (ny : Fs.nan y = false) (w1 w2 w3 : World) : narR (Fd.cps (wideR 1 w1) (wideR y w2)) w3 = Fs.cps 1 y := by
  have n1 : Fs.nan 1 = false := by decide
  have nc : Fs.nan (Fs.cps 1 y) = false := Fs.nan_of (by rw [Fs.rg_cps]; decide)
  have hc : W32 (Fs.cps 1 y) := Fs.cps_lt hy
  rw [wideR_num n1, wideR_num ny]
  refine narR_some ?_ w3
  rw [← narO_wide hc nc]
  congr 1
  refine Fd.word_ext (Fd.cps_lt (wide_lt y)) (wide_lt _) ?_ ?_
  · rw [Fd.sg_cps (wide_lt y), sg_wide, sg_wide, Fs.sg_cps hy]
  · rw [Fd.rg_cps, rg_wide, rg_wide, Fs.rg_cps]
set_option maxHeartbeats 1000000 in
theorem mNext32_c (x y : Nat) (hx : W32 x) (hy : W32 y) (w : World) : Calls Try.prog 54 #[.float .f32 x, .float .f32 y] w (RG (Fs.nextQ x y) w) := by
  have gx : ∀ w, Fd.nan (wideR x w) = Fs.nan x := nan_wideR x
  have gy : ∀ w, Fd.nan (wideR y w) = Fs.nan y := nan_wideR y
  cases nx : Fs.nan x
  · cases ny : Fs.nan y
    · have hq : ∀ r, r = Fs.nxtV x y → Fs.nextQ x y r := fun r h => by unfold Fs.nextQ; rw [nx, ny, if_neg (by decide)]; exact h
      have HW : Hd (W32 (Fs.nxtV x y)) := ⟨(Fs.nxt_spec hx hy nx ny).1⟩
      have HQ := Hd.mk hq
      clear hq
      have bx := Fs.key_bound nx
      by_cases c : Fs.key x = Fs.key y
      · have f1 : eqF .f32 x y = true := by rw [eq32, nx, ny]; simp [c]
        have R : Hd (Fs.nxtV x y = x) := ⟨by unfold Fs.nxtV; rw [if_pos c]⟩
        rw [R.out] at HW
        clear bx c
        go_enter Try.func54, Try.ntmps54
        go_wp2_with (go_at_call 61; refine (mIsNaN_c _ _).mono ?_; rintro e w' ⟨rfl, n, rfl⟩)
        go_ret
        exact ⟨x, HQ.out _ R.out.symm, HW.out, rfl, _, rfl⟩
      · have f1 : eqF .f32 x y = false := by rw [eq32, nx, ny]; simp [c]
        by_cases z : Fs.key x = 0
        · have f2 : eqF .f32 x 0 = true := by rw [eq32, nx, nz32, kz32, z]; rfl
          have R : Hd (∀ w1 w2 w3, narR (Fd.cps (wideR 1 w1) (wideR y w2)) w3 = Fs.nxtV x y) := ⟨fun w1 w2 w3 => by unfold Fs.nxtV; rw [if_neg c, if_pos z, narR_cps hy ny]⟩
          clear bx c z
          go_enter Try.func54, Try.ntmps54
          go_wp2_with (first | (go_at_call 61; refine (mIsNaN_c _ _).mono ?_; rintro e w' ⟨rfl, n, rfl⟩) | (go_at_call 63; refine (mCopysign_c _ _ (W_wideR _ _) (W_wideR _ _) _).mono ?_; rintro e w' ⟨rfl, n, rfl⟩))
          go_ret
          exact ⟨_, HQ.out _ (R.out _ _ _), W_narR _ _, rfl, _, rfl⟩
        · have f2 : eqF .f32 x 0 = false := by rw [eq32, nx, nz32, kz32]; simp [z]
          have wx : x < 4294967296 := hx
          by_cases d : decide (Fs.key x < Fs.key y) = decide (0 < Fs.key x)
          · have f3 : (ltF .f32 x y == ltF .f32 0 x) = true := by
              rw [lt32, lt32, nx, ny, nz32, kz32]; simpa using d
            have R : Hd (Fs.nxtV x y = (IntKind.u32.wrap ((x : Int) + 1)).toNat) := by
              constructor
              unfold Fs.nxtV; rw [if_neg c, if_neg z, if_pos d, IntKind.wrap_u32']
              have hk := @Fs.word_eq x wx
              have kk := @Fs.key_sg x
              cases s : Fs.sg x <;> simp only [s, Bool.false_eq_true, if_false, if_true] at hk kk <;> omega
            rw [R.out] at HW
            clear bx c z d wx
            go_enter Try.func54, Try.ntmps54
            go_wp2_with (go_at_call 61; refine (mIsNaN_c _ _).mono ?_; rintro e w' ⟨rfl, n, rfl⟩)
            go_ret
            exact ⟨_, HQ.out _ R.out.symm, HW.out, rfl, _, rfl⟩
          · have f3 : (ltF .f32 x y == ltF .f32 0 x) = false := by
              rw [lt32, lt32, nx, ny, nz32, kz32]; simpa using d
            have R : Hd (Fs.nxtV x y = (IntKind.u32.wrap ((x : Int) - 1)).toNat) := by
              constructor
              unfold Fs.nxtV; rw [if_neg c, if_neg z, if_neg d, IntKind.wrap_u32']
              have hk := @Fs.word_eq x wx
              have kk := @Fs.key_sg x
              cases s : Fs.sg x <;> simp only [s, Bool.false_eq_true, if_false, if_true] at hk kk <;> omega
            rw [R.out] at HW
            clear bx c z d wx
            go_enter Try.func54, Try.ntmps54
            go_wp2_with (go_at_call 61; refine (mIsNaN_c _ _).mono ?_; rintro e w' ⟨rfl, n, rfl⟩)
            go_ret
            exact ⟨_, HQ.out _ R.out.symm, HW.out, rfl, _, rfl⟩
    · have R : Hd (∀ w, Fs.nextQ x y (narR 9221120237041090561 w)) := ⟨fun w => by unfold Fs.nextQ; rw [nx, ny, Bool.or_true, if_pos rfl]; exact narR_nan (by decide) w⟩
      go_enter Try.func54, Try.ntmps54
      go_wp2_with (first | (go_at_call 61; refine (mIsNaN_c _ _).mono ?_; rintro e w' ⟨rfl, n, rfl⟩) | (go_at_call 62; refine (mNaN_c _).mono ?_; rintro e w' ⟨rfl, n, rfl⟩))
      go_ret
      exact ⟨_, R.out _, W_narR _ _, rfl, _, rfl⟩
  · have R : Hd (∀ w, Fs.nextQ x y (narR 9221120237041090561 w)) := ⟨fun w => by unfold Fs.nextQ; rw [nx, Bool.true_or, if_pos rfl]; exact narR_nan (by decide) w⟩
    go_enter Try.func54, Try.ntmps54
    go_wp2_with (first | (go_at_call 61; refine (mIsNaN_c _ _).mono ?_; rintro e w' ⟨rfl, n, rfl⟩) | (go_at_call 62; refine (mNaN_c _).mono ?_; rintro e w' ⟨rfl, n, rfl⟩))
    go_ret
    exact ⟨_, R.out _, W_narR _ _, rfl, _, rfl⟩
theorem iNext32_c (x y : Nat) (hx : W32 x) (hy : W32 y) (w : World) : Calls Try.prog 27 #[.float .f32 x, .float .f32 y] w (RG (Fs.nextQ x y) w) := by
  go_enter Try.func27, Try.ntmps27
  go_wp2_with (go_at_call 54; refine (mNext32_c _ _ hx hy _).mono ?_; rintro e w' ⟨r, hr, hW, rfl, n, rfl⟩)
  go_ret
  exact ⟨_, hr, hW, rfl, _, rfl⟩

end Go.Proofs.Ytkiieekpbcnfkaa
