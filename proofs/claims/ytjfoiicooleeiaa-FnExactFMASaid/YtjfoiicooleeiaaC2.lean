/- Contracts of the functions on infinities and differences: what each returns, as a function of its arguments' bits; no condition but that these are words. -/
import Derived.Test.YtjfoiicooleeiaaC
import Derived.Test.YtjfoiicooleeiaaDA
namespace Go.Proofs.Ytjfoiicooleeiaa
open Go.RowKit

theorem gt_max (f : Nat) : ltF .f64 9218868437227405311 f = decide (Fd.key f = 9218868437227405312) := by
  have k1 : Fd.key 9218868437227405311 = 9218868437227405311 := by decide
  have n1 : Fd.nan 9218868437227405311 = false := by decide
  rw [lt64, n1, k1, Bool.eq_iff_iff]
  cases nf : Fd.nan f
  · have := Fd.key_bound nf
    simp; omega
  · unfold Fd.nan at nf; simp at nf
    simp; unfold Fd.key; split <;> omega
theorem infV_zero (f : Nat) : decide (Fd.key (Fd.rg f) = 9218868437227405312) = Fd.infV f 0 := by
  unfold Fd.infV; rw [if_pos rfl, Fd.key_rg, Bool.eq_iff_iff]; simp; omega
theorem infV_neg (f : Nat) (hf : W64 f) (s : Int) (hs : s < 0) : decide (Fd.key (Fd.ng f) = 9218868437227405312) = Fd.infV f s := by
  unfold Fd.infV; rw [if_neg (by omega), if_pos hs, Fd.key_ng hf, Bool.eq_iff_iff]; simp; omega
theorem infV_pos (f : Nat) (s : Int) (hs : 0 < s) : decide (Fd.key f = 9218868437227405312) = Fd.infV f s := by
  unfold Fd.infV; rw [if_neg (by omega), if_neg (by omega)]

set_option maxHeartbeats 400000 in
theorem mIsInf_c (f : Nat) (s : Int) (hf : W64 f) (w : World) : Calls Try.prog 64 #[.float .f64 f, .int .i64 s] w (RV (.bool (Fd.infV f s)) w) := by
  rcases (by omega : s = 0 ∨ s < 0 ∨ 0 < s) with h | h | h
  · have R : Hd (ltF .f64 9218868437227405311 (Fd.rg f) = Fd.infV f s) := ⟨by rw [gt_max, infV_zero, h]⟩
    subst h
    go_enter Try.func64, Try.ntmps64
    go_wp2_with (go_at_call 67; refine (mAbs_c _ hf _).mono ?_; rintro e w' ⟨rfl, n, rfl⟩)
    go_ret
    exact ⟨ret_bool R.out, _, rfl⟩
  · have R : Hd (ltF .f64 9218868437227405311 (Op.negFloat .f64 f) = Fd.infV f s) := ⟨by rw [negF_W hf, gt_max, infV_neg f hf s h]⟩
    go_enter Try.func64, Try.ntmps64
    go_wp2
    go_ret
    exact ⟨ret_bool R.out, 0, rfl⟩
  · have R : Hd (ltF .f64 9218868437227405311 f = Fd.infV f s) := ⟨by rw [gt_max, infV_pos f s h]⟩
    go_enter Try.func64, Try.ntmps64
    go_wp2
    go_ret
    exact ⟨ret_bool R.out, 0, rfl⟩

/-- a number less itself -/
theorem sub_self_res (x : Nat) (w : World) : eqF .f64 (res .sub .f64 x x w) 0 = Fd.fin x := by
  rcases Nat.lt_or_ge (Fd.rg x) 9218868437227405312 with c | c
  · have h : arith .sub .f64 x x = some 0 := Fd.sub_self_fin c
    rw [res_some h]; unfold Fd.fin
    have : eqF .f64 0 0 = true := by decide +kernel
    rw [this]; simp; exact c
  · have h : arith .sub .f64 x x = none := Fd.sub_self_none c
    rw [eqF_nan_l (res_none64 h w)]; unfold Fd.fin; simp; omega
theorem isInf_fin (x : Nat) (h : Fd.nan x = false) : Fd.isInf x = !Fd.fin x := by
  unfold Fd.nan at h; unfold Fd.isInf Fd.fin; rw [Bool.eq_iff_iff]; simp at h ⊢; omega
theorem isInfinity_c (x : Nat) (w : World) : Calls Try.prog 29 #[.float .f64 x] w (RV (.bool (Fd.isInf x)) w) := by
  cases nx : Fd.nan x
  · have f1 := num_eq nx
    have R : Hd (∀ w, (!eqF .f64 (res .sub .f64 x x w) 0) = Fd.isInf x) := ⟨fun w => by rw [sub_self_res, isInf_fin x nx]⟩
    clear nx
    go_enter Try.func29, Try.ntmps29
    go_wp2
    go_ret
    exact ⟨ret_bool (R.out _), _, rfl⟩
  · have f1 := nan_eq nx
    have R : Hd (Fd.isInf x = false) := ⟨by unfold Fd.nan at nx; unfold Fd.isInf; simp at nx ⊢; omega⟩
    clear nx
    go_enter Try.func29, Try.ntmps29
    go_wp2
    go_ret
    exact ⟨ret_bool R.out.symm, 0, rfl⟩
theorem isFinite_c (x : Nat) (w : World) : Calls Try.prog 39 #[.float .f64 x] w (RV (.bool (Fd.fin x)) w) := by
  have R : Hd (∀ w, eqF .f64 (res .sub .f64 x x w) 0 = Fd.fin x) := ⟨sub_self_res x⟩
  go_enter Try.func39, Try.ntmps39
  go_wp2
  go_ret
  exact ⟨ret_bool (R.out _), _, rfl⟩
theorem sIsFinite_c (x : Nat) (w : World) : Calls Try.prog 19 #[.float .f64 x] w (RV (.bool (Fd.fin x)) w) := by
  go_enter Try.func19, Try.ntmps19
  go_wp2_with (go_at_call 39; refine (isFinite_c _ _).mono ?_; rintro e w' ⟨rfl, n, rfl⟩)
  go_ret
  exact ⟨rfl, _, rfl⟩

/-- what Dim gives -/
def dimQ (x y r : Nat) : Prop :=
  match arith .sub .f64 x y with
  | none => Fd.nan r = true
  | some v => r = if leF .f64 v 0 then 0 else v
theorem W_zero : W64 0 := by unfold W64; decide

end Go.Proofs.Ytjfoiicooleeiaa
