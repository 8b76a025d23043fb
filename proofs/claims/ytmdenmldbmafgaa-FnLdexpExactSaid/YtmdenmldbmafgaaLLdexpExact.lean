/- FnLdexpExact: the call returns true; no condition but that the arguments are words. -/
import Derived.Test.YtmdenmldbmafgaaCQ
namespace Go.Proofs.Ytmdenmldbmafgaa
open Go.RowKit
theorem exact_back {x y z : Nat} {k : Int} (hx : W64 x) (mv : Fd.MV x k) (hy : Fd.LD x k y) (hz : Fd.LD y (-k) z) : z = x := by
  obtain ⟨h0, h1, k1, k2, R, r0, r1, ex⟩ := mv
  obtain ⟨R', lq, ey⟩ := Fd.ld_fin h0 h1 hy
  have e1 := Fd.lq_unique lq (Fd.ex_lq ex)
  subst e1
  rw [Nat.min_eq_left (by omega)] at ey
  have ry : Fd.rg y = R' := by rw [ey, Fd.rg_wd (by omega)]
  have sy : Fd.sg y = Fd.sg x := by rw [ey, Fd.sg_wd (by omega)]
  obtain ⟨R2, lq2, ez⟩ := Fd.ld_fin (x := y) (by omega) (by omega) hz
  rw [ry] at lq2
  have e2 := Fd.lq_unique lq2 (Fd.ex_lq (Fd.ex_back ex))
  rw [ez, e2, sy, Nat.min_eq_left (by omega), Fd.wd_of hx]
set_option maxHeartbeats 1000000 in
theorem law_FnLdexpExact (x : Nat) (k : Int) (hx : W64 x) (_hk : I64 k) (w : World) : Calls Try.prog 3 #[.float .f64 x, .int .i64 k] w (RB true w) := by
  go_enter Try.func3, Try.ntmps3
  go_wp2_with fail
  refine (moves_c x k hx _).mono ?_
  rintro e w' ⟨b, hb, rfl, n, rfl⟩
  have HB := Hd.mk hb
  clear hb
  cases b
  · go_wp2
    go_ret
    exact ⟨rfl, _, rfl⟩
  · have MV := Hd.mk (HB.out rfl)
    have k1 : -5000 ≤ k := MV.out.2.2.1
    have k2 : k ≤ 5000 := MV.out.2.2.2.1
    clear HB
    go_wp2_with fail
    refine (iLdexp_c x k hx _).mono ?_
    rintro e w' ⟨r, hr, hW, rfl, n, rfl⟩
    have HR := Hd.mk (hr (Or.inr (by omega)))
    clear hr
    go_wp2_with fail
    refine (sLdexp_c x k hx _).mono ?_
    rintro e w' ⟨s, hs, hWs, rfl, n, rfl⟩
    obtain rfl := Fd.ld_unique HR.out hs
    clear hs
    have q := Fd.sameV_refl r
    go_wp2_with (first | (go_at_call 16; refine (same_c _ _ hW hW _).mono ?_; rintro e w' ⟨rfl, n, rfl⟩))
    refine (iLdexp_c x k hx _).mono ?_
    rintro e w' ⟨y, hy, hWy, rfl, n, rfl⟩
    have HY := Hd.mk (hy (Or.inr (by omega)))
    clear hy
    go_wp2_with fail
    refine (iLdexp_c y (-k) hWy _).mono ?_
    rintro e w' ⟨z, hz, hWz, rfl, n, rfl⟩
    have e := exact_back hx MV.out HY.out (hz (Or.inr (by omega)))
    subst e
    have q2 := Fd.sameV_refl z
    clear hz HY HR
    go_wp2_with (first | (go_at_call 16; refine (same_c _ _ hWz hWz _).mono ?_; rintro e w' ⟨rfl, n, rfl⟩))
    go_ret
    exact ⟨rfl, _, rfl⟩
end Go.Proofs.Ytmdenmldbmafgaa
