/- Contracts of the library's small functions and of the thin package: what each returns, as a function of its arguments' bits; no condition but that these are words. -/
import Derived.Test.YtjfoiicooleeiaaW
import Derived.Test.YtjfoiicooleeiaaB
namespace Go.Proofs.Ytjfoiicooleeiaa
open Go.RowKit

@[go_sem] theorem c_b64 (a : Nat) (w : World) : (callFunc 63 #[.float .f64 a]).run Try.prog w = .ok (.value (.int .u64 a)) w := by
  rw [run_callFunc_extern Try.func63 (by kernel_rfl) (by kernel_rfl) (by kernel_rfl) (e := Extern.MathFloatBits.float64bits) (by kernel_rfl)]; rfl
@[go_sem] theorem c_f64 (n : Int) (w : World) : (callFunc 62 #[.int .u64 n]).run Try.prog w = .ok (.value (.float .f64 n.toNat)) w := by
  rw [run_callFunc_extern Try.func62 (by kernel_rfl) (by kernel_rfl) (by kernel_rfl) (e := Extern.MathFloatBits.float64frombits) (by kernel_rfl)]; rfl

theorem nan_eq {a : Nat} : Fd.nan a = true → eqF .f64 a a = false := fun h => by rw [eq64, h]; rfl
theorem num_eq {a : Nat} : Fd.nan a = false → eqF .f64 a a = true := fun h => by rw [eq64, h]; simp
theorem eqF_nan_l {a b : Nat} : Fd.nan a = true → eqF .f64 a b = false := fun h => by rw [eq64, h]; rfl
theorem eqF_nan_r {a b : Nat} : Fd.nan b = true → eqF .f64 a b = false := fun h => by rw [eq64, h]; cases Fd.nan a <;> rfl
theorem ltF_nan_l {a b : Nat} : Fd.nan a = true → ltF .f64 a b = false := fun h => by rw [lt64, h]; rfl
theorem ltF_nan_r {a b : Nat} : Fd.nan b = true → ltF .f64 a b = false := fun h => by rw [lt64, h]; cases Fd.nan a <;> rfl
theorem leF_nan_l {a b : Nat} : Fd.nan a = true → leF .f64 a b = false := fun h => by rw [le64, h]; rfl
theorem leF_nan_r {a b : Nat} : Fd.nan b = true → leF .f64 a b = false := fun h => by rw [le64, h]; cases Fd.nan a <;> rfl
theorem one_by_0 : arith .quo .f64 4607182418800017408 0 = some 9218868437227405312 := by decide +kernel
theorem one_by_neg0 : arith .quo .f64 4607182418800017408 9223372036854775808 = some 18442240474082181120 := by decide +kernel
theorem ret_bool {a b : Bool} (h : a = b) : Ending.returned (.bool a) = .returned (.bool b) := by rw [h]
theorem ret_float {k : FloatKind} {a b : Nat} (h : a = b) : Ending.returned (.float k a) = .returned (.float k b) := by rw [h]
theorem ret_int {k : IntKind} {a b : Int} (h : a = b) : Ending.returned (.int k a) = .returned (.int k b) := by rw [h]

set_option maxHeartbeats 1000000 in
theorem same_c (a b : Nat) (ha : W64 a) (hb : W64 b) (w : World) : Calls Try.prog 24 #[.float .f64 a, .float .f64 b] w (RB (Fd.sameV a b) w) := by
  cases na : Fd.nan a
  · have f1 := num_eq na
    cases nb : Fd.nan b
    · have f2 := num_eq nb
      by_cases k : Fd.key a = Fd.key b
      · have f3 : eqF .f64 a b = true := by rw [eq64, na, nb]; simp [k]
        by_cases z : Fd.key a = 0
        · have za := (Fd.key_zero ha).1 z
          have zb := (Fd.key_zero hb).1 (k ▸ z)
          have f4 : eqF .f64 a 0 = true := by rw [eq64, na]; simp; exact ⟨by decide, z⟩
          have R : ∀ w1 w2, eqF .f64 (res .quo .f64 4607182418800017408 a w1) (res .quo .f64 4607182418800017408 b w2) = Fd.sameV a b := by
            intro w1 w2
            rcases za with rfl | rfl <;> rcases zb with rfl | rfl <;> simp only [res_some one_by_0, res_some one_by_neg0] <;> decide +kernel
          clear na nb k z ha hb za zb
          have R' := Hd.mk R
          clear R
          go_enter Try.func24, Try.ntmps24
          go_wp2
          go_ret
          exact ⟨ret_bool (R'.out _ _), _, rfl⟩
        · have f4 : eqF .f64 a 0 = false := by rw [eq64, na]; simp; intro _; exact z
          have e := Fd.key_ext ha hb k z
          have R : Fd.sameV a b = true := by rw [e]; exact Fd.sameV_refl b
          clear e na nb k z ha hb
          go_enter Try.func24, Try.ntmps24
          go_wp2
          go_ret
          exact ⟨ret_bool R.symm, 0, rfl⟩
      · have f3 : eqF .f64 a b = false := by rw [eq64, na, nb]; simp [k]
        have R : Fd.sameV a b = false := by unfold Fd.sameV; simp [na, nb]; intro h; exact k (by rw [h])
        clear na nb k ha hb
        go_enter Try.func24, Try.ntmps24
        go_wp2
        go_ret
        exact ⟨ret_bool R.symm, 0, rfl⟩
    · have f2 := nan_eq nb
      have R : Fd.sameV a b = false := by unfold Fd.sameV; simp [na, nb]
      clear na nb ha hb
      go_enter Try.func24, Try.ntmps24
      go_wp2
      go_ret
      exact ⟨ret_bool R.symm, 0, rfl⟩
  · have f1 := nan_eq na
    have R : Fd.sameV a b = !eqF .f64 b b := by
      unfold Fd.sameV; rw [na]; cases nb : Fd.nan b
      · rw [num_eq nb]; rfl
      · rw [nan_eq nb]; rfl
    clear na ha hb
    go_enter Try.func24, Try.ntmps24
    go_wp2
    go_ret
    exact ⟨ret_bool R.symm, 0, rfl⟩

theorem W_rg (a : Nat) : W64 (Fd.rg a) := Fd.rg_W a
theorem W_ng {a : Nat} (h : W64 a) : W64 (Fd.ng a) := Fd.ng_lt h
theorem W_cps {a b : Nat} (h : W64 b) : W64 (Fd.cps a b) := Fd.cps_lt h
theorem W_inf (s : Int) : W64 (Fd.infW s) := Fd.infW_W s
theorem W_size {a : Nat} (h : W64 a) : W64 (Fd.sizeV a) := Fd.sizeV_W h
theorem W_sgn {a : Nat} (b : Bool) (h : W64 a) : W64 (Fd.sgnV b a) := Fd.sgnV_W h
theorem negF_W {a : Nat} (h : W64 a) : Op.negFloat .f64 a = Fd.ng a := negF64 a h

set_option maxHeartbeats 1000000 in
theorem sameFloat_c (a b : Nat) (ha : W64 a) (hb : W64 b) (w : World) : Calls Try.prog 14 #[.float .f64 a, .float .f64 b] w (RB (Fd.sameV a b) w) := by
  cases na : Fd.nan a
  · have f1 := num_eq na
    cases nb : Fd.nan b
    · have f2 := num_eq nb
      by_cases z : Fd.key a = 0 ∧ Fd.key b = 0
      · obtain ⟨z1, z2⟩ := z
        have f3 : eqF .f64 a 0 = true := by rw [eq64, na]; simp; exact ⟨by decide, z1⟩
        have f4 : eqF .f64 b 0 = true := by rw [eq64, nb]; simp; exact ⟨by decide, z2⟩
        have R : ∀ w1 w2, (ltF .f64 0 (res .quo .f64 4607182418800017408 a w1) == ltF .f64 0 (res .quo .f64 4607182418800017408 b w2)) = Fd.sameV a b := by
          intro w1 w2
          rcases (Fd.key_zero ha).1 z1 with rfl | rfl <;> rcases (Fd.key_zero hb).1 z2 with rfl | rfl <;> simp only [res_some one_by_0, res_some one_by_neg0] <;> decide +kernel
        have R' := Hd.mk R
        clear R na nb z1 z2 ha hb
        go_enter Try.func14, Try.ntmps14
        go_wp2
        go_ret
        exact ⟨ret_bool (R'.out _ _), _, rfl⟩
      · have R : Hd (eqF .f64 a b = Fd.sameV a b) := by
          constructor
          rw [eq64, na, nb]; unfold Fd.sameV; rw [na, nb]; simp
          constructor
          · intro h
            exact Fd.key_ext ha hb h (by intro h0; exact z ⟨h0, h ▸ h0⟩)
          · intro h; rw [h]
        by_cases z1 : Fd.key a = 0
        · have f3 : eqF .f64 a 0 = true := by rw [eq64, na]; simp; exact ⟨by decide, z1⟩
          have f4 : eqF .f64 b 0 = false := by rw [eq64, nb]; simp; intro _ h; exact z ⟨z1, h⟩
          clear na nb z z1 ha hb
          go_enter Try.func14, Try.ntmps14
          go_wp2
          go_ret
          exact ⟨ret_bool R.out, 0, rfl⟩
        · have f3 : eqF .f64 a 0 = false := by rw [eq64, na]; simp; intro _ h; exact z1 h
          clear na nb z z1 ha hb
          go_enter Try.func14, Try.ntmps14
          go_wp2
          go_ret
          exact ⟨ret_bool R.out, 0, rfl⟩
    · have f2 := nan_eq nb
      have R : Fd.sameV a b = false := by unfold Fd.sameV; simp [na, nb]
      clear na nb ha hb
      go_enter Try.func14, Try.ntmps14
      go_wp2
      go_ret
      exact ⟨ret_bool R.symm, 0, rfl⟩
  · have f1 := nan_eq na
    have R : Fd.sameV a b = !eqF .f64 b b := by
      unfold Fd.sameV; rw [na]; cases nb : Fd.nan b
      · rw [num_eq nb]; rfl
      · rw [nan_eq nb]; rfl
    clear na ha hb
    go_enter Try.func14, Try.ntmps14
    go_wp2
    go_ret
    exact ⟨ret_bool R.symm, 0, rfl⟩

-- the library's own small functions
theorem mAbs_c (a : Nat) (ha : W64 a) (w : World) : Calls Try.prog 67 #[.float .f64 a] w (RV (.float .f64 (Fd.rg a)) w) := by
  have R : Hd (bits .andNot .u64 (a : Int) 9223372036854775808 = ((a % 9223372036854775808 : Nat) : Int)) := ⟨b_not63 a ha⟩
  clear ha
  go_enter Try.func67, Try.ntmps67
  go_wp2
  go_ret
  exact ⟨ret_float (by rw [R.out]; rfl), 0, rfl⟩
theorem mCopysign_c (a b : Nat) (ha : W64 a) (hb : W64 b) (w : World) : Calls Try.prog 61 #[.float .f64 a, .float .f64 b] w (RV (.float .f64 (Fd.cps a b)) w) := by
  have R : Hd ((bits .or .u64 (bits .andNot .u64 (a : Int) 9223372036854775808) (bits .and .u64 (b : Int) 9223372036854775808)).toNat = Fd.cps a b) := by
    constructor
    rw [b_not63 a ha, b_and63 b hb, b_or63 _ _ (by omega) (by unfold W64 at hb; omega)]; rfl
  clear ha hb
  go_enter Try.func61, Try.ntmps61
  go_wp2
  go_ret
  exact ⟨ret_float R.out, 0, rfl⟩
theorem mIsNaN_c (a : Nat) (w : World) : Calls Try.prog 59 #[.float .f64 a] w (RV (.bool (Fd.nan a)) w) := by
  have R : Hd ((!eqF .f64 a a) = Fd.nan a) := ⟨by rw [eq64]; cases Fd.nan a <;> simp⟩
  go_enter Try.func59, Try.ntmps59
  go_wp2
  go_ret
  exact ⟨ret_bool R.out, 0, rfl⟩
theorem mNaN_c (w : World) : Calls Try.prog 60 #[] w (RV (.float .f64 9221120237041090561) w) := by
  go_enter Try.func60, Try.ntmps60
  go_wp2
  go_ret
  exact ⟨rfl, 0, rfl⟩
theorem mInf_c (s : Int) (w : World) : Calls Try.prog 66 #[.int .i64 s] w (RV (.float .f64 (Fd.infW s)) w) := by
  by_cases h : 0 ≤ s
  · have R : Hd (Fd.infW s = 9218868437227405312) := ⟨by unfold Fd.infW; rw [if_neg (by omega)]⟩
    go_enter Try.func66, Try.ntmps66
    go_wp2
    go_ret
    exact ⟨ret_float R.out.symm, 0, rfl⟩
  · have R : Hd (Fd.infW s = 18442240474082181120) := ⟨by unfold Fd.infW; rw [if_pos (by omega)]⟩
    go_enter Try.func66, Try.ntmps66
    go_wp2
    go_ret
    exact ⟨ret_float R.out.symm, 0, rfl⟩

-- the reference's small functions
theorem isNothing_c (a : Nat) (w : World) : Calls Try.prog 27 #[.float .f64 a] w (RV (.bool (Fd.nan a)) w) := by
  have R : Hd ((!eqF .f64 a a) = Fd.nan a) := ⟨by rw [eq64]; cases Fd.nan a <;> simp⟩
  go_enter Try.func27, Try.ntmps27
  go_wp2
  go_ret
  exact ⟨ret_bool R.out, 0, rfl⟩
theorem nothing_c (w : World) : Calls Try.prog 28 #[] w (RF (fun r => Fd.nan r = true) w) := by
  have R : Hd (∀ w, Fd.nan (res .quo .f64 0 0 w) = true) := ⟨fun w => res_none64 (by decide +kernel) w⟩
  go_enter Try.func28, Try.ntmps28
  go_wp2
  go_ret
  exact ⟨_, R.out _, res_W .quo 0 0 w, rfl, _, rfl⟩
theorem one_by : ∀ w, res .quo .f64 4607182418800017408 0 w = 9218868437227405312 := fun w => res_some one_by_0 w
theorem mone_by : ∀ w, res .quo .f64 13830554455654793216 0 w = 18442240474082181120 := fun w => res_some (by decide +kernel) w
theorem infinity_c (s : Bool) (w : World) : Calls Try.prog 47 #[.bool s] w (RV (.float .f64 (Fd.sgnV s 9218868437227405312)) w) := by
  cases s
  · go_enter Try.func47, Try.ntmps47
    go_wp2
    go_ret
    exact ⟨ret_float (by rw [one_by]; rfl), _, rfl⟩
  · go_enter Try.func47, Try.ntmps47
    go_wp2
    go_ret
    exact ⟨ret_float (by rw [mone_by]; rfl), _, rfl⟩
theorem sInf_c (s : Int) (w : World) : Calls Try.prog 22 #[.int .i64 s] w (RV (.float .f64 (Fd.infW s)) w) := by
  have R : Hd (Fd.sgnV (decide (s < 0)) 9218868437227405312 = Fd.infW s) := by
    constructor; unfold Fd.sgnV Fd.infW
    by_cases h : s < 0 <;> simp [h, Fd.ng]
  go_enter Try.func22, Try.ntmps22
  go_wp2_with (go_at_call 47; refine (infinity_c _ _).mono ?_; rintro e w' ⟨rfl, n, rfl⟩)
  go_ret
  exact ⟨ret_float R.out, _, rfl⟩
set_option maxHeartbeats 1000000 in
theorem isNegative_c (a : Nat) (ha : W64 a) (w : World) : Calls Try.prog 42 #[.float .f64 a] w (RV (.bool (Fd.negV a)) w) := by
  cases na : Fd.nan a
  · by_cases z : Fd.key a = 0
    · have f1 : ltF .f64 a 0 = false := by rw [lt64, na]; simp; intro _; have : Fd.key 0 = 0 := by decide
                                           omega
      have f2 : eqF .f64 a 0 = true := by rw [eq64, na]; simp; exact ⟨by decide, z⟩
      have R : Hd (∀ w, ltF .f64 (res .quo .f64 4607182418800017408 a w) 0 = Fd.negV a) := by
        constructor; intro w
        rcases (Fd.key_zero ha).1 z with rfl | rfl <;> simp only [res_some one_by_0, res_some one_by_neg0] <;> decide +kernel
      clear na z ha
      go_enter Try.func42, Try.ntmps42
      go_wp2
      go_ret
      exact ⟨ret_bool (R.out _), _, rfl⟩
    · have f2 : eqF .f64 a 0 = false := by rw [eq64, na]; simp; intro _; exact z
      have k0 : Fd.key 0 = 0 := by decide
      cases s : Fd.sg a
      · have f1 : ltF .f64 a 0 = false := by
          rw [lt64, na, k0]; simp; intro _; unfold Fd.key; rw [s]; simp
        have R : Hd (Fd.negV a = false) := ⟨by rw [Fd.negV_num na, s]⟩
        clear na z ha s k0
        go_enter Try.func42, Try.ntmps42
        go_wp2
        go_ret
        exact ⟨ret_bool R.out.symm, 0, rfl⟩
      · have f1 : ltF .f64 a 0 = true := by
          rw [lt64, na, k0]; simp; refine ⟨by decide, ?_⟩; unfold Fd.key at z ⊢; rw [s] at z ⊢; simp at z ⊢; omega
        have R : Hd (Fd.negV a = true) := ⟨by rw [Fd.negV_num na, s]⟩
        clear na z ha s k0 f2
        go_enter Try.func42, Try.ntmps42
        go_wp2
        go_ret
        exact ⟨ret_bool R.out.symm, 0, rfl⟩
  · have f1 : ltF .f64 a 0 = false := ltF_nan_l na
    have f2 : eqF .f64 a 0 = false := eqF_nan_l na
    have R : Hd (Fd.negV a = false) := ⟨by unfold Fd.negV; rw [na]; rfl⟩
    clear na ha
    go_enter Try.func42, Try.ntmps42
    go_wp2
    go_ret
    exact ⟨ret_bool R.out.symm, 0, rfl⟩
theorem size_c (a : Nat) (ha : W64 a) (w : World) : Calls Try.prog 40 #[.float .f64 a] w (RV (.float .f64 (Fd.sizeV a)) w) := by
  cases h : Fd.negV a
  · have R : Hd (Fd.sizeV a = a) := by
      constructor; unfold Fd.negV at h; unfold Fd.sizeV
      cases na : Fd.nan a
      · rw [na] at h; simp at h; simp; exact Fd.rg_of_pos ha h
      · rfl
    go_enter Try.func40, Try.ntmps40
    go_wp2_with (go_at_call 42; refine (isNegative_c _ ha _).mono ?_; rintro e w' ⟨rfl, n, rfl⟩)
    go_ret
    exact ⟨ret_float R.out.symm, _, rfl⟩
  · have R : Hd (Fd.sizeV a = Op.negFloat .f64 a) := by
      constructor; unfold Fd.negV at h; unfold Fd.sizeV
      simp at h; rw [h.1]; simp; rw [negF_W ha, Fd.ng_pos ha h.2]
    go_enter Try.func40, Try.ntmps40
    go_wp2_with (go_at_call 42; refine (isNegative_c _ ha _).mono ?_; rintro e w' ⟨rfl, n, rfl⟩)
    go_ret
    exact ⟨ret_float R.out.symm, _, rfl⟩
theorem signed_c (s : Bool) (a : Nat) (ha : W64 a) (w : World) : Calls Try.prog 41 #[.bool s, .float .f64 a] w (RV (.float .f64 (Fd.sgnV s a)) w) := by
  have R : Hd (Op.negFloat .f64 a = Fd.sgnV true a) := ⟨by rw [negF_W ha]; unfold Fd.sgnV; rw [if_pos rfl]⟩
  have R0 : Hd (a = Fd.sgnV false a) := ⟨by unfold Fd.sgnV; rw [if_neg (by decide)]⟩
  clear ha
  cases s
  · go_enter Try.func41, Try.ntmps41
    go_wp2
    go_ret
    exact ⟨ret_float R0.out, 0, rfl⟩
  · go_enter Try.func41, Try.ntmps41
    go_wp2
    go_ret
    exact ⟨ret_float R.out, 0, rfl⟩

theorem sCopysign_c (a b : Nat) (ha : W64 a) (hb : W64 b) (w : World) : Calls Try.prog 23 #[.float .f64 a, .float .f64 b] w (RV (.float .f64 (if Fd.nan a then a else Fd.sgnV (Fd.negV b) (Fd.rg a))) w) := by
  cases na : Fd.nan a
  · have R : Hd (Fd.sizeV a = Fd.rg a) := ⟨Fd.sizeV_num na⟩
    go_enter Try.func23, Try.ntmps23
    go_wp2_with (first | (go_at_call 27; refine (isNothing_c _ _).mono ?_; rintro e w' ⟨rfl, n, rfl⟩) | (go_at_call 42; refine (isNegative_c _ hb _).mono ?_; rintro e w' ⟨rfl, n, rfl⟩) | (go_at_call 40; refine (size_c _ ha _).mono ?_; rintro e w' ⟨rfl, n, rfl⟩) | (go_at_call 41; refine (signed_c _ _ (W_size ha) _).mono ?_; rintro e w' ⟨rfl, n, rfl⟩))
    go_ret
    exact ⟨ret_float (by rw [R.out]), _, rfl⟩
  · go_enter Try.func23, Try.ntmps23
    go_wp2_with (first | (go_at_call 27; refine (isNothing_c _ _).mono ?_; rintro e w' ⟨rfl, n, rfl⟩))
    go_ret
    exact ⟨rfl, _, rfl⟩

end Go.Proofs.Ytjfoiicooleeiaa
