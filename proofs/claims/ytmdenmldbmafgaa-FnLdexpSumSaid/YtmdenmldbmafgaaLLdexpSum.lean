/- FnLdexpSum: the call returns true; no condition but that the arguments are words. -/
import Derived.Test.YtmdenmldbmafgaaCQ
namespace Go.Proofs.Ytmdenmldbmafgaa
open Go.RowKit
theorem sum_facts {x y z v : Nat} {a b : Int} (mv : Fd.MV x a) (hy : Fd.LD x a y) (hz : Fd.LD y b z) (hv : Fd.LD x (a + b) v) : z = v ∧ eqF .f64 y 0 = false := by
  obtain ⟨h0, h1, k1, k2, R, r0, r1, ex⟩ := mv
  obtain ⟨R', lq, ey⟩ := Fd.ld_fin h0 h1 hy
  have e1 := Fd.lq_unique lq (Fd.ex_lq ex)
  subst e1
  rw [Nat.min_eq_left (by omega)] at ey
  have ry : Fd.rg y = R' := by rw [ey, Fd.rg_wd (by omega)]
  have sy : Fd.sg y = Fd.sg x := by rw [ey, Fd.sg_wd (by omega)]
  obtain ⟨R2, lq2, ez⟩ := Fd.ld_fin (x := y) (by omega) (by omega) hz
  obtain ⟨R3, lq3, ev⟩ := Fd.ld_fin h0 h1 hv
  rw [ry] at lq2
  constructor
  · have : R2 = R3 := by
      obtain ⟨c, d, e2, e3⟩ := ex
      exact Fd.lq_value lq2 lq3 ⟨d, c, by omega, e3.symm⟩
    rw [ez, ev, sy, this]
  · have ny : Fd.nan y = false := by unfold Fd.nan; rw [ry]; simp; omega
    rw [eq64, ny, show Fd.nan 0 = false by decide, show Fd.key 0 = 0 by decide]
    simp; unfold Fd.key; rw [ry]; split <;> omega
set_option maxHeartbeats 1000000 in
theorem law_FnLdexpSum (x : Nat) (a b : Int) (hx : W64 x) (_ha : I64 a) (_hb : I64 b) (w : World) : Calls Try.prog 6 #[.float .f64 x, .int .i64 a, .int .i64 b] w (RB true w) := by
  go_enter Try.func6, Try.ntmps6
  go_wp2_with fail
  refine (moves_c x a hx _).mono ?_
  rintro e w' ⟨t, ht, rfl, n, rfl⟩
  have HB := Hd.mk ht
  clear ht _ha _hb
  cases t
  · go_wp2
    go_ret
    exact ⟨rfl, _, rfl⟩
  · have MV := Hd.mk (HB.out rfl)
    have k1 : -5000 ≤ a := MV.out.2.2.1
    have k2 : a ≤ 5000 := MV.out.2.2.2.1
    clear HB
    rcases (by omega : 5000 < b ∨ (b ≤ 5000 ∧ b < -5000) ∨ (b ≤ 5000 ∧ -5000 ≤ b)) with c | ⟨c1, c2⟩ | ⟨c1, c2⟩
    · go_wp2
      go_ret
      exact ⟨rfl, _, rfl⟩
    · go_wp2
      go_ret
      exact ⟨rfl, _, rfl⟩
    · go_wp2_with fail
      refine (iLdexp_c x a hx _).mono ?_
      rintro e w' ⟨y, hy, hWy, rfl, n, rfl⟩
      have HY := Hd.mk (hy (Or.inr (by omega)))
      clear hy
      go_wp2_with fail
      refine (iLdexp_c y b hWy _).mono ?_
      rintro e w' ⟨z, hz, hWz, rfl, n, rfl⟩
      have HZ := Hd.mk (hz (Or.inr (by omega)))
      clear hz
      go_wp2_with fail
      refine (iLdexp_c x (a + b) hx _).mono ?_
      rintro e w' ⟨v, hv, hWv, rfl, n, rfl⟩
      obtain ⟨rfl, q2⟩ := sum_facts MV.out HY.out HZ.out (hv (Or.inr (by omega)))
      clear hv HZ
      have q := Fd.sameV_refl z
      go_wp2_with (first | (go_at_call 16; refine (same_c _ _ hWz hWz _).mono ?_; rintro e w' ⟨rfl, n, rfl⟩))
      refine (iLdexp_c x a hx _).mono ?_
      rintro e w' ⟨y', hy', hWy', rfl, n, rfl⟩
      obtain rfl := Fd.ld_unique HY.out (hy' (Or.inr (by omega)))
      clear hy' HY
      go_wp2
      go_ret
      exact ⟨rfl, _, rfl⟩
end Go.Proofs.Ytmdenmldbmafgaa
