/- FnDimValue: the call returns true; no condition but that the arguments are words. -/
import Derived.Test.YtjijlkegndkjbaaC2
namespace Go.Proofs.Ytjijlkegndkjbaa
open Go.RowKit
theorem dim_facts {x y a b : Nat} (ha : dimQ x y a) (hb : dimQ y x b) (hWa : W64 a) (hWb : W64 b) :
    (arith .sub .f64 x y = none ∧ Fd.nan a = true ∧ Fd.nan b = true) ∨
    (∃ v, arith .sub .f64 x y = some v ∧ eqF .f64 v v = true ∧ leF .f64 0 a = true ∧ leF .f64 0 b = true ∧ (eqF .f64 a 0 = true ∨ (eqF .f64 a 0 = false ∧ eqF .f64 b 0 = true)) ∧ ∃ u, arith .sub .f64 a b = some u ∧ eqF .f64 u v = true) := by
  have k0 : Fd.key 0 = 0 := by decide
  have n0 : Fd.nan 0 = false := by decide
  have l00 : leF .f64 0 0 = true := by decide +kernel
  have e00 : eqF .f64 0 0 = true := by decide +kernel
  unfold dimQ at ha hb
  cases h : arith .sub .f64 x y with
  | none =>
    have h' : arith .sub .f64 y x = none := Fd.sub_swap_none h
    rw [h] at ha; rw [h'] at hb
    exact Or.inl ⟨rfl, ha, hb⟩
  | some v =>
    obtain ⟨u, hu, hk, hnu, hnv, hWv, hWu⟩ := Fd.sub_swap h
    have hu' : arith .sub .f64 y x = some u := hu
    rw [h] at ha; rw [hu'] at hb
    simp only at ha hb
    have lv : leF .f64 v 0 = decide (Fd.key v ≤ 0) := by rw [le64, hnv, n0, k0]; rfl
    have lu : leF .f64 u 0 = decide (Fd.key u ≤ 0) := by rw [le64, hnu, n0, k0]; rfl
    refine Or.inr ⟨v, rfl, num_eq hnv, ?_⟩
    rcases (by omega : Fd.key v = 0 ∨ 0 < Fd.key v ∨ Fd.key v < 0) with c | c | c
    · have ea : a = 0 := by rw [ha, lv]; simp; omega
      have eb : b = 0 := by rw [hb, lu]; simp; omega
      subst ea; subst eb
      refine ⟨l00, l00, Or.inl e00, 0, Fd.sub_zero (by decide) n0, ?_⟩
      rw [eq64, n0, hnv, k0, c]; rfl
    · have ea : a = v := by rw [ha, lv]; simp; intro _; omega
      have eb : b = 0 := by rw [hb, lu]; simp; omega
      rw [ea, eb]
      refine ⟨?_, l00, Or.inr ⟨?_, e00⟩, v, Fd.sub_zero hWv hnv, num_eq hnv⟩
      · rw [le64, n0, hnv, k0]; simp; omega
      · rw [eq64, n0, hnv, k0]; simp; omega
    · have ea : a = 0 := by rw [ha, lv]; simp; omega
      have eb : b = u := by rw [hb, lu]; simp; intro _; omega
      rw [ea, eb]
      obtain ⟨z, hz, hkz, hnz, _⟩ := Fd.sub_swap (Fd.sub_zero hWu hnu)
      refine ⟨l00, ?_, Or.inl e00, z, hz, ?_⟩
      · rw [le64, n0, hnu, k0]; simp; omega
      · rw [eq64, hnz, hnv]; simp; omega
set_option maxHeartbeats 1000000 in
theorem law_FnDimValue (x y : Nat) (_hx : W64 x) (_hy : W64 y) (w : World) : Calls Try.prog 7 #[.float .f64 x, .float .f64 y] w (RB true w) := by
  go_enter Try.func7, Try.ntmps7
  go_wp2_with fail
  refine (iDim_c _ _ _).mono ?_
  rintro e w' ⟨r1, h1, hW1, rfl, n, rfl⟩
  go_wp2_with fail
  refine (iDim_c _ _ _).mono ?_
  rintro e w' ⟨r2, h2, hW2, rfl, n, rfl⟩
  rcases dim_facts h1 h2 hW1 hW2 with ⟨q1, q2, q3⟩ | ⟨v, q1, q2, q3, q4, q5, u, q6, q7⟩
  · have f1 : ∀ w1 w2, eqF .f64 (res .sub .f64 x y w1) (res .sub .f64 x y w2) = false := fun w1 w2 => eqF_nan_l (res_none64 q1 w1)
    have f2 := nan_eq q2
    have f3 := nan_eq q3
    clear h1 h2 hW1 hW2 q1 q2 q3
    go_wp2
    go_ret
    exact ⟨rfl, _, rfl⟩
  · have f1 : ∀ w, res .sub .f64 x y w = v := fun w => res_some q1 w
    have f2 : ∀ w, res .sub .f64 r1 r2 w = u := fun w => res_some q6 w
    clear h1 h2 hW1 hW2 q1 q6
    rcases q5 with q5 | ⟨q5, q5'⟩
    · go_wp2
      go_ret
      exact ⟨rfl, _, rfl⟩
    · go_wp2
      go_ret
      exact ⟨rfl, _, rfl⟩
end Go.Proofs.Ytjijlkegndkjbaa
