/- FnFMAScaled: the call returns true; no condition but that the arguments are words. -/
import Derived.Test.YtjfoiicooleeiaaCF
import Derived.Test.YtjfoiicooleeiaaCQ
namespace Go.Proofs.Ytjfoiicooleeiaa
open Go.RowKit
theorem moved {x x' : Nat} {k : Int} (mv : Fd.MV x k) (h : Fd.LD x k x') : Fd.sg x' = Fd.sg x ∧ 0 < Fd.rg x' ∧ Fd.rg x' < 9218868437227405312 ∧ Fd.EX (Fd.rg x) k (Fd.rg x') := by
  obtain ⟨h0, h1, _, _, R, r0, r1, ex⟩ := mv
  obtain ⟨R', lq, ey⟩ := Fd.ld_fin h0 h1 h
  have e1 := Fd.lq_unique lq (Fd.ex_lq ex)
  subst e1
  rw [Nat.min_eq_left (by omega)] at ey
  have ry : Fd.rg x' = R' := by rw [ey, Fd.rg_wd (by omega)]
  have sy : Fd.sg x' = Fd.sg x := by rw [ey, Fd.sg_wd (by omega)]
  rw [ry]; exact ⟨sy, r0, r1, ex⟩
theorem fma_moved {x y z x' y' : Nat} {k : Int} (mx : Fd.MV x k) (my : Fd.MV y (-k)) (hx : Fd.LD x k x') (hy : Fd.LD y (-k) y') : Ieee.double.fma x' y' z = Ieee.double.fma x y z := by
  obtain ⟨sx, x0, x1, a, b, ab, ex⟩ := moved mx hx
  obtain ⟨sy, y0, y1, c, d, cd, ey⟩ := moved my hy
  have fx := mx.2.1
  have fy := my.2.1
  have e : Fd.mg (Fd.rg x') * Fd.mg (Fd.rg y') = Fd.mg (Fd.rg x) * Fd.mg (Fd.rg y) := by
    apply Nat.eq_of_mul_eq_mul_right (Nat.two_pow_pos (b + d))
    have : a + c = b + d := by omega
    have m : (Fd.mg (Fd.rg x) * 2 ^ a) * (Fd.mg (Fd.rg y) * 2 ^ c) = (Fd.mg (Fd.rg x') * 2 ^ b) * (Fd.mg (Fd.rg y') * 2 ^ d) := by rw [ex, ey]
    have l : (Fd.mg (Fd.rg x) * 2 ^ a) * (Fd.mg (Fd.rg y) * 2 ^ c) = Fd.mg (Fd.rg x) * Fd.mg (Fd.rg y) * 2 ^ (a + c) := by rw [Nat.pow_add]; grind
    have r : (Fd.mg (Fd.rg x') * 2 ^ b) * (Fd.mg (Fd.rg y') * 2 ^ d) = Fd.mg (Fd.rg x') * Fd.mg (Fd.rg y') * 2 ^ (b + d) := by rw [Nat.pow_add]; grind
    rw [← r, ← m, l, this]
  rcases Fd.kinds z with hz | hz | hz
  · obtain ⟨r, h1, h2⟩ := Fd.fma_fin fx fy hz
    obtain ⟨q, g1, g2⟩ := Fd.fma_fin x1 y1 hz
    have t : Fd.TT x' y' z = Fd.TT x y z := by unfold Fd.TT; rw [sx, sy, e]
    have hp : 0 < 2 ^ Fd.LL := Nat.two_pow_pos Fd.LL
    rw [t] at g1 g2
    rw [g2, h2, Fd.near_unique hp hp g1 h1 rfl, sx, sy]
  · unfold Ieee.Format.fma
    rw [Fd.read_fin fx, Fd.read_fin fy, Fd.read_fin x1, Fd.read_fin y1, Fd.read_inf hz]; rfl
  · unfold Ieee.Format.fma
    rw [Fd.read_fin fx, Fd.read_fin fy, Fd.read_fin x1, Fd.read_fin y1, Fd.read_nan hz]; rfl
set_option maxHeartbeats 2000000 in
theorem law_FnFMAScaled (x y z : Nat) (k : Int) (hx : W64 x) (hy : W64 y) (_hz : W64 z) (_hk : I64 k) (w : World) : Calls Try.prog 8 #[.float .f64 x, .float .f64 y, .float .f64 z, .int .i64 k] w (RB true w) := by
  clear _hz _hk
  rcases (by omega : 5000 < k ∨ (k ≤ 5000 ∧ k < -5000) ∨ (k ≤ 5000 ∧ -5000 ≤ k)) with c | ⟨c1, c2⟩ | ⟨c1, c2⟩
  · go_enter Try.func8, Try.ntmps8
    go_wp2
    go_ret
    exact ⟨rfl, 0, rfl⟩
  · go_enter Try.func8, Try.ntmps8
    go_wp2
    go_ret
    exact ⟨rfl, 0, rfl⟩
  · go_enter Try.func8, Try.ntmps8
    go_wp2_with fail
    refine (moves_c x k hx _).mono ?_
    rintro e w' ⟨b, hb, rfl, n, rfl⟩
    have HB := Hd.mk hb
    clear hb
    cases b
    · go_wp2
      go_ret
      exact ⟨rfl, _, rfl⟩
    · have MX := Hd.mk (HB.out rfl)
      clear HB
      go_wp2_with fail
      refine (moves_c y (-k) hy _).mono ?_
      rintro e w' ⟨b, hb, rfl, n, rfl⟩
      have HB := Hd.mk hb
      clear hb
      cases b
      · go_wp2
        go_ret
        exact ⟨rfl, _, rfl⟩
      · have MY := Hd.mk (HB.out rfl)
        clear HB
        go_wp2_with fail
        refine (iFMA_c x y z _).mono ?_
        rintro e w' ⟨r, hr, hW, rfl, n, rfl⟩
        have HR := Hd.mk hr
        clear hr
        go_wp2_with fail
        refine (sCopysign_c 0 13830554455654793216 (by unfold W64; decide) (by unfold W64; decide) _).mono ?_
        rintro e w' ⟨rfl, n, rfl⟩
        have z0 : (if Fd.nan 0 then 0 else Fd.sgnV (Fd.negV 13830554455654793216) (Fd.rg 0)) = 9223372036854775808 := by decide
        rw [z0]
        clear z0
        go_wp2_with fail
        refine (iLdexp_c x k hx _).mono ?_
        rintro e w' ⟨x', hx', hWx, rfl, n, rfl⟩
        have HX := Hd.mk (hx' (Or.inr (by omega)))
        clear hx'
        go_wp2_with fail
        refine (iLdexp_c y (-k) hy _).mono ?_
        rintro e w' ⟨y', hy', hWy, rfl, n, rfl⟩
        have HY := Hd.mk (hy' (Or.inr (by omega)))
        clear hy'
        go_wp2_with fail
        refine (iFMA_c x' y' z _).mono ?_
        rintro e w' ⟨s, hs, hWs, rfl, n, rfl⟩
        have q1 : Fd.sameV s r = true := fq_fq HR.out hs (fma_moved MX.out MY.out HX.out HY.out)
        clear hs HR MX MY HX HY
        go_wp2_with (first | (go_at_call 24; refine (same_c _ _ hWs hW _).mono ?_; rintro e w' ⟨rfl, n, rfl⟩))
        refine (iFMA_c x y 9223372036854775808 _).mono ?_
        rintro e w' ⟨t, ht, hWt, rfl, n, rfl⟩
        have q3 : ∀ w, Fd.sameV t (res .mul .f64 x y w) = true := fun w => fq_same (op := .mul) (a := x) (b := y) ht (Fd.fma_nz x y) w
        clear ht
        go_wp2_with (first | (go_at_call 24; refine (same_c _ _ hWt (res_W _ _ _ _) _).mono ?_; rintro e w' ⟨rfl, n, rfl⟩))
        go_ret
        exact ⟨rfl, _, rfl⟩
end Go.Proofs.Ytjfoiicooleeiaa
