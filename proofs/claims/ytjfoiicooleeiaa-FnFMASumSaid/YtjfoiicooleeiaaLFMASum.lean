/- FnFMASum: the call returns true; no condition but that the arguments are words. -/
import Derived.Test.YtjfoiicooleeiaaCF
namespace Go.Proofs.Ytjfoiicooleeiaa
open Go.RowKit
set_option maxHeartbeats 1000000 in
theorem law_FnFMASum (x y : Nat) (_hx : W64 x) (_hy : W64 y) (w : World) : Calls Try.prog 7 #[.float .f64 x, .float .f64 y] w (RB true w) := by
  go_enter Try.func7, Try.ntmps7
  go_wp2_with fail
  refine (sCopysign_c 0 13830554455654793216 (by unfold W64; decide) (by unfold W64; decide) _).mono ?_
  rintro e w' ⟨rfl, n, rfl⟩
  have z0 : (if Fd.nan 0 then 0 else Fd.sgnV (Fd.negV 13830554455654793216) (Fd.rg 0)) = 9223372036854775808 := by decide
  rw [z0]
  clear z0
  go_wp2_with fail
  refine (iFMA_c x 4607182418800017408 y _).mono ?_
  rintro e w' ⟨r, hr, hW, rfl, n, rfl⟩
  have q1 : ∀ w, Fd.sameV r (res .add .f64 x y w) = true := fun w => fq_same (op := .add) (a := x) (b := y) hr (Fd.fma_one x y) w
  clear hr
  go_wp2_with (first | (go_at_call 24; refine (same_c _ _ hW (res_W _ _ _ _) _).mono ?_; rintro e w' ⟨rfl, n, rfl⟩))
  refine (iFMA_c 4607182418800017408 x y _).mono ?_
  rintro e w' ⟨s, hs, hWs, rfl, n, rfl⟩
  have q2 : ∀ w, Fd.sameV s (res .add .f64 x y w) = true := fun w => fq_same (op := .add) (a := x) (b := y) hs ((Fd.fma_comm _ _ _).trans (Fd.fma_one x y)) w
  clear hs
  go_wp2_with (first | (go_at_call 24; refine (same_c _ _ hWs (res_W _ _ _ _) _).mono ?_; rintro e w' ⟨rfl, n, rfl⟩))
  refine (iFMA_c x y 9223372036854775808 _).mono ?_
  rintro e w' ⟨t, ht, hWt, rfl, n, rfl⟩
  have q3 : ∀ w, Fd.sameV t (res .mul .f64 x y w) = true := fun w => fq_same (op := .mul) (a := x) (b := y) ht (Fd.fma_nz x y) w
  clear ht
  go_wp2_with (first | (go_at_call 24; refine (same_c _ _ hWt (res_W _ _ _ _) _).mono ?_; rintro e w' ⟨rfl, n, rfl⟩))
  go_ret
  exact ⟨rfl, _, rfl⟩
end Go.Proofs.Ytjfoiicooleeiaa
