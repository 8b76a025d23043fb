/- Contracts of the functions on infinities and differences: what each returns, as a function of its arguments' bits; no condition but that these are words. -/
import Derived.Test.YtjijlkegndkjbaaC
import Derived.Test.YtjijlkegndkjbaaDA
namespace Go.Proofs.Ytjijlkegndkjbaa
open Go.RowKit

theorem gt_max (f : Nat) : ltF .f64 9218868437227405311 f = decide (Fd.key f = 9218868437227405312) := by
  have k1 : Fd.key 9218868437227405311 = 9218868437227405311 := by decide
  have n1 : Fd.nan 9218868437227405311 = false := by decide
  rw [lt64, n1, k1, Bool.eq_iff_iff]
  cases nf : Fd.nan f
  · have := Fd.key_bound nf
    simp; omega
  · unfold Fd.nan at nf; simp at nf
    simp; unfold Fd.key; split <;> omega
theorem infV_zero (f : Nat) : decide (Fd.key (Fd.rg f) = 9218868437227405312) = Fd.infV f 0 := by
  unfold Fd.infV; rw [if_pos rfl, Fd.key_rg, Bool.eq_iff_iff]; simp; omega
theorem infV_neg (f : Nat) (hf : W64 f) (s : Int) (hs : s < 0) : decide (Fd.key (Fd.ng f) = 9218868437227405312) = Fd.infV f s := by
  unfold Fd.infV; rw [if_neg (by omega), if_pos hs, Fd.key_ng hf, Bool.eq_iff_iff]; simp; omega
theorem infV_pos (f : Nat) (s : Int) (hs : 0 < s) : decide (Fd.key f = 9218868437227405312) = Fd.infV f s := by
  unfold Fd.infV; rw [if_neg (by omega), if_neg (by omega)]

set_option maxHeartbeats 400000 in
theorem mIsInf_c (f : Nat) (s : Int) (hf : W64 f) (w : World) : Calls Try.prog 41 #[.float .f64 f, .int .i64 s] w (RV (.bool (Fd.infV f s)) w) := by
  rcases (by omega : s = 0 ∨ s < 0 ∨ 0 < s) with h | h | h
  · have R : Hd (ltF .f64 9218868437227405311 (Fd.rg f) = Fd.infV f s) := ⟨by rw [gt_max, infV_zero, h]⟩
    subst h
    go_enter Try.func41, Try.ntmps41
    go_wp2_with (go_at_call 33; refine (mAbs_c _ hf _).mono ?_; rintro e w' ⟨rfl, n, rfl⟩)
    go_ret
    exact ⟨ret_bool R.out, _, rfl⟩
  · have R : Hd (ltF .f64 9218868437227405311 (Op.negFloat .f64 f) = Fd.infV f s) := ⟨by rw [negF_W hf, gt_max, infV_neg f hf s h]⟩
    go_enter Try.func41, Try.ntmps41
    go_wp2
    go_ret
    exact ⟨ret_bool R.out, 0, rfl⟩
  · have R : Hd (ltF .f64 9218868437227405311 f = Fd.infV f s) := ⟨by rw [gt_max, infV_pos f s h]⟩
    go_enter Try.func41, Try.ntmps41
    go_wp2
    go_ret
    exact ⟨ret_bool R.out, 0, rfl⟩
theorem iIsInf_c (f : Nat) (s : Int) (hf : W64 f) (w : World) : Calls Try.prog 28 #[.float .f64 f, .int .i64 s] w (RV (.bool (Fd.infV f s)) w) := by
  go_enter Try.func28, Try.ntmps28
  go_wp2_with (go_at_call 41; refine (mIsInf_c _ _ hf _).mono ?_; rintro e w' ⟨rfl, n, rfl⟩)
  go_ret
  exact ⟨rfl, _, rfl⟩

/-- a number less itself -/
theorem sub_self_res (x : Nat) (w : World) : eqF .f64 (res .sub .f64 x x w) 0 = Fd.fin x := by
  rcases Nat.lt_or_ge (Fd.rg x) 9218868437227405312 with c | c
  · have h : arith .sub .f64 x x = some 0 := Fd.sub_self_fin c
    rw [res_some h]; unfold Fd.fin
    have : eqF .f64 0 0 = true := by decide +kernel
    rw [this]; simp; exact c
  · have h : arith .sub .f64 x x = none := Fd.sub_self_none c
    rw [eqF_nan_l (res_none64 h w)]; unfold Fd.fin; simp; omega
theorem isInf_fin (x : Nat) (h : Fd.nan x = false) : Fd.isInf x = !Fd.fin x := by
  unfold Fd.nan at h; unfold Fd.isInf Fd.fin; rw [Bool.eq_iff_iff]; simp at h ⊢; omega
theorem isInfinity_c (x : Nat) (w : World) : Calls Try.prog 40 #[.float .f64 x] w (RV (.bool (Fd.isInf x)) w) := by
  cases nx : Fd.nan x
  · have f1 := num_eq nx
    have R : Hd (∀ w, (!eqF .f64 (res .sub .f64 x x w) 0) = Fd.isInf x) := ⟨fun w => by rw [sub_self_res, isInf_fin x nx]⟩
    clear nx
    go_enter Try.func40, Try.ntmps40
    go_wp2
    go_ret
    exact ⟨ret_bool (R.out _), _, rfl⟩
  · have f1 := nan_eq nx
    have R : Hd (Fd.isInf x = false) := ⟨by unfold Fd.nan at nx; unfold Fd.isInf; simp at nx ⊢; omega⟩
    clear nx
    go_enter Try.func40, Try.ntmps40
    go_wp2
    go_ret
    exact ⟨ret_bool R.out.symm, 0, rfl⟩
theorem k_zero : Fd.key 0 = 0 := by decide
theorem n_zero : Fd.nan 0 = false := by decide
set_option maxHeartbeats 1000000 in
theorem sIsInf_c (f : Nat) (s : Int) (_hf : W64 f) (w : World) : Calls Try.prog 27 #[.float .f64 f, .int .i64 s] w (RV (.bool (Fd.infV f s)) w) := by
  cases c : Fd.isInf f
  · have R : Hd (Fd.infV f s = false) := by
      constructor; unfold Fd.isInf at c; unfold Fd.infV; simp at c
      have h : Fd.key f ≠ 9218868437227405312 ∧ Fd.key f ≠ -9218868437227405312 := by unfold Fd.key; split <;> omega
      (repeat' split) <;> simp <;> omega
    go_enter Try.func27, Try.ntmps27
    go_wp2_with (go_at_call 40; refine (isInfinity_c _ _).mono ?_; rintro e w' ⟨rfl, n, rfl⟩)
    go_ret
    exact ⟨ret_bool R.out.symm, _, rfl⟩
  · have hr : Fd.rg f = 9218868437227405312 := by unfold Fd.isInf at c; simpa using c
    have nf : Fd.nan f = false := by unfold Fd.nan; rw [hr]; decide
    cases sf : Fd.sg f
    · have k : Fd.key f = 9218868437227405312 := by unfold Fd.key; rw [sf, hr]; rfl
      have f1 : ltF .f64 0 f = true := by rw [lt64, nf, n_zero, k_zero, k]; decide
      have f2 : ltF .f64 f 0 = false := by rw [lt64, nf, n_zero, k_zero, k]; decide
      have R : Hd (Fd.infV f s = decide (0 ≤ s)) := by
        constructor; unfold Fd.infV; rw [hr, k]
        by_cases h : s = 0
        · rw [if_pos h, h]; decide
        · rw [if_neg h]; by_cases h2 : s < 0
          · rw [if_pos h2]; simp; omega
          · rw [if_neg h2]; simp; omega
      clear nf k hr sf
      by_cases hs : 0 ≤ s
      · go_enter Try.func27, Try.ntmps27
        go_wp2_with (go_at_call 40; refine (isInfinity_c _ _).mono ?_; rintro e w' ⟨rfl, n, rfl⟩)
        go_ret
        exact ⟨ret_bool (by rw [R.out]; simp [hs]), _, rfl⟩
      · go_enter Try.func27, Try.ntmps27
        go_wp2_with (go_at_call 40; refine (isInfinity_c _ _).mono ?_; rintro e w' ⟨rfl, n, rfl⟩)
        go_ret
        exact ⟨ret_bool (by rw [R.out]; simp [hs]), _, rfl⟩
    · have k : Fd.key f = -9218868437227405312 := by unfold Fd.key; rw [sf, hr]; rfl
      have f1 : ltF .f64 0 f = false := by rw [lt64, nf, n_zero, k_zero, k]; decide
      have f2 : ltF .f64 f 0 = true := by rw [lt64, nf, n_zero, k_zero, k]; decide
      have R : Hd (Fd.infV f s = decide (s ≤ 0)) := by
        constructor; unfold Fd.infV; rw [hr, k]
        by_cases h : s = 0
        · rw [if_pos h, h]; decide
        · rw [if_neg h]; by_cases h2 : s < 0
          · rw [if_pos h2]; simp; omega
          · rw [if_neg h2]; simp; omega
      clear nf k hr sf
      by_cases hs : s ≤ 0
      · by_cases h0 : 0 ≤ s
        all_goals
          go_enter Try.func27, Try.ntmps27
          go_wp2_with (go_at_call 40; refine (isInfinity_c _ _).mono ?_; rintro e w' ⟨rfl, n, rfl⟩)
          go_ret
          exact ⟨ret_bool (by rw [R.out]; simp [hs]), _, rfl⟩
      · go_enter Try.func27, Try.ntmps27
        go_wp2_with (go_at_call 40; refine (isInfinity_c _ _).mono ?_; rintro e w' ⟨rfl, n, rfl⟩)
        go_ret
        exact ⟨ret_bool (by rw [R.out]; simp [hs]), _, rfl⟩

/-- what Dim gives -/
def dimQ (x y r : Nat) : Prop :=
  match arith .sub .f64 x y with
  | none => Fd.nan r = true
  | some v => r = if leF .f64 v 0 then 0 else v
theorem W_zero : W64 0 := by unfold W64; decide
theorem mDim_c (x y : Nat) (w : World) : Calls Try.prog 38 #[.float .f64 x, .float .f64 y] w (RF (dimQ x y) w) := by
  cases h : arith .sub .f64 x y with
  | none =>
    have q : ∀ w, leF .f64 (res .sub .f64 x y w) 0 = false := fun w => leF_nan_l (res_none64 h w)
    have R : Hd (∀ w, dimQ x y (res .sub .f64 x y w)) := ⟨fun w => by unfold dimQ; rw [h]; exact res_none64 h w⟩
    clear h
    go_enter Try.func38, Try.ntmps38
    go_wp2
    go_ret
    exact ⟨_, R.out _, res_W .sub x y w, rfl, _, rfl⟩
  | some v =>
    have q : ∀ w, res .sub .f64 x y w = v := fun w => res_some h w
    have hW : Hd (W64 v) := ⟨arith_lt h⟩
    have R : Hd (dimQ x y (if leF .f64 v 0 then 0 else v)) := ⟨by unfold dimQ; rw [h]⟩
    clear h
    cases c : leF .f64 v 0
    · rw [c, if_neg (by decide)] at R
      go_enter Try.func38, Try.ntmps38
      go_wp2
      go_ret
      exact ⟨_, R.out, hW.out, rfl, _, rfl⟩
    · rw [c, if_pos rfl] at R
      go_enter Try.func38, Try.ntmps38
      go_wp2
      go_ret
      exact ⟨_, R.out, W_zero, rfl, _, rfl⟩
theorem iDim_c (x y : Nat) (w : World) : Calls Try.prog 23 #[.float .f64 x, .float .f64 y] w (RF (dimQ x y) w) := by
  go_enter Try.func23, Try.ntmps23
  go_wp2_with (go_at_call 38; refine (mDim_c _ _ _).mono ?_; rintro e w' ⟨r, hr, hW, rfl, n, rfl⟩)
  go_ret
  exact ⟨_, hr, hW, rfl, _, rfl⟩
theorem sDim_c (x y : Nat) (w : World) : Calls Try.prog 24 #[.float .f64 x, .float .f64 y] w (RF (dimQ x y) w) := by
  cases h : arith .sub .f64 x y with
  | none =>
    have q : ∀ w, leF .f64 (res .sub .f64 x y w) 0 = false := fun w => leF_nan_l (res_none64 h w)
    have R : Hd (∀ w, dimQ x y (res .sub .f64 x y w)) := ⟨fun w => by unfold dimQ; rw [h]; exact res_none64 h w⟩
    clear h
    go_enter Try.func24, Try.ntmps24
    go_wp2
    go_ret
    exact ⟨_, R.out _, res_W .sub x y w, rfl, _, rfl⟩
  | some v =>
    have q : ∀ w, res .sub .f64 x y w = v := fun w => res_some h w
    have hW : Hd (W64 v) := ⟨arith_lt h⟩
    have R : Hd (dimQ x y (if leF .f64 v 0 then 0 else v)) := ⟨by unfold dimQ; rw [h]⟩
    clear h
    cases c : leF .f64 v 0
    · rw [c, if_neg (by decide)] at R
      go_enter Try.func24, Try.ntmps24
      go_wp2
      go_ret
      exact ⟨_, R.out, hW.out, rfl, _, rfl⟩
    · rw [c, if_pos rfl] at R
      go_enter Try.func24, Try.ntmps24
      go_wp2
      go_ret
      exact ⟨_, R.out, W_zero, rfl, _, rfl⟩

end Go.Proofs.Ytjijlkegndkjbaa
