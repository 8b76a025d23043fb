/- FnFrexpScaled: the call returns true; no condition but that the arguments are words. -/
import Derived.Test.YtmdenmldbmafgaaCQ
namespace Go.Proofs.Ytmdenmldbmafgaa
open Go.RowKit
theorem ex_pq {r R m : Nat} {k j : Int} (ex : Fd.EX r j R) (pq : Fd.PQ r m k) : Fd.PQ R m (k + j) := by
  obtain ⟨l, u, c, d, e1, e2⟩ := pq
  obtain ⟨a, b, e3, e4⟩ := ex
  refine ⟨l, u, c + a, b + d, by omega, ?_⟩
  rw [Nat.pow_add, Nat.pow_add]
  have : Fd.mg R * (2 ^ b * 2 ^ d) = Fd.mg R * 2 ^ b * 2 ^ d := by grind
  rw [this, ← e4]
  have : Fd.mg r * 2 ^ a * 2 ^ d = Fd.mg r * 2 ^ d * 2 ^ a := by grind
  rw [this, e2]; grind
theorem wd_ne {s : Bool} {r : Nat} (h0 : 0 < r) (h1 : r < 9218868437227405312) : eqF .f64 (Fd.wd s r) 0 = false := by
  have k := Fd.key_wd (s := s) (r := r) (by omega)
  have n := Fd.nan_wd (s := s) (r := r) (by omega)
  rw [eq64, n, k, show Fd.nan 0 = false by decide, show Fd.key 0 = 0 by decide]
  simp; unfold Fd.sm; split <;> omega
set_option maxHeartbeats 1000000 in
theorem law_FnFrexpScaled (x : Nat) (k : Int) (hx : W64 x) (_hk : I64 k) (w : World) : Calls Try.prog 10 #[.float .f64 x, .int .i64 k] w (RB true w) := by
  go_enter Try.func10, Try.ntmps10
  go_wp2_with fail
  refine (moves_c x k hx _).mono ?_
  rintro e w' ⟨t, ht, rfl, n, rfl⟩
  have HB := Hd.mk ht
  clear ht _hk
  cases t
  · go_wp2
    go_ret
    exact ⟨rfl, _, rfl⟩
  · obtain ⟨h0, h1, k1, k2, R, r0, r1, ex⟩ := HB.out rfl
    have H0 := Hd.mk h0
    have H1 := Hd.mk h1
    have R0 := Hd.mk r0
    have R1 := Hd.mk r1
    have EXH := Hd.mk ex
    clear HB h0 h1 r0 r1 ex
    go_wp2_with fail
    refine (iFrexp_c _ hx H0.out H1.out _).mono ?_
    rintro e w' ⟨m, j, pq, rfl, n, rfl⟩
    obtain ⟨j1, j2⟩ := Fd.pq_bound H0.out H1.out pq
    have PQ := Hd.mk pq
    have hW : W64 (Fd.wd (Fd.sg x) (1021 * 4503599627370496 + m)) := Fd.wd_lt (by have := pq.high; omega)
    have nz := wd_ne (s := Fd.sg x) (r := 1021 * 4503599627370496 + m) (by omega) (by have := pq.high; omega)
    obtain ⟨v, hv⟩ : ∃ v, v = Fd.wd (Fd.sg x) (1021 * 4503599627370496 + m) := ⟨_, rfl⟩
    have HV := Hd.mk hv
    rw [← hv] at hW nz ⊢
    clear pq hv
    go_wp2_with fail
    refine (iLdexp_c x k hx _).mono ?_
    rintro e w' ⟨y, hy, hWy, rfl, n, rfl⟩
    obtain ⟨R', lq, ey⟩ := Fd.ld_fin H0.out H1.out (hy (Or.inr (by omega)))
    have eR := Fd.lq_unique lq (Fd.ex_lq EXH.out)
    have RI := R1.out
    have RP := R0.out
    rw [eR, Nat.min_eq_left (by omega)] at ey
    have ry : Hd (Fd.rg y = R) := ⟨by rw [ey, Fd.rg_wd (by omega)]⟩
    have sy : Hd (Fd.sg y = Fd.sg x) := ⟨by rw [ey, Fd.sg_wd (by omega)]⟩
    clear hy lq eR ey RI RP
    go_wp2_with fail
    refine (iFrexp_c y hWy (by rw [ry.out]; exact R0.out) (by rw [ry.out]; exact R1.out) _).mono ?_
    rintro e w' ⟨m', j', pq', rfl, n, rfl⟩
    rw [ry.out] at pq'
    obtain ⟨em, ej⟩ := Fd.pq_unique pq' (ex_pq EXH.out PQ.out)
    rw [em, sy.out, ← HV.out, ej]
    clear pq' em ej PQ HV EXH
    have q := Fd.sameV_refl v
    have t1 : (j + k + 53 == j + 53 + k) = true := by simp; omega
    go_wp2_with (first | (go_at_call 16; refine (same_c _ _ hW hW _).mono ?_; rintro e w' ⟨rfl, n, rfl⟩))
    go_ret
    exact ⟨rfl, _, rfl⟩
end Go.Proofs.Ytmdenmldbmafgaa
