/- FnIlogbPower: the call returns true; no condition but that the arguments are words. -/
import Derived.Test.YtmdenmldbmafgaaCQ
namespace Go.Proofs.Ytmdenmldbmafgaa
open Go.RowKit
theorem i2f_num (n : Int) : Fd.nan (i2f n) = false := by
  unfold i2f FloatKind.nearest FloatKind.encode
  obtain ⟨r, h, e⟩ := Fd.nearest_form (decide (n < 0)) n.natAbs 0
  show Fd.nan (Ieee.double.nearest (decide (n < 0)) n.natAbs 0) = false
  rw [e]; exact Fd.nan_wd h
/-- 2 to the power of k as a rung -/
theorem power_rung {v : Nat} {k : Int} (k1 : -1074 ≤ k) (k2 : k ≤ 1023) (h : Fd.LD 4607182418800017408 k v) :
    0 < Fd.rg v ∧ Fd.rg v < 9218868437227405312 ∧ Fd.PQ (Fd.rg v) 4503599627370496 (k - 52) := by
  obtain ⟨e, he⟩ : ∃ e : Nat, e = 1022 := ⟨_, rfl⟩
  have one : Fd.rg 4607182418800017408 = e * 4503599627370496 + 4503599627370496 := by rw [he]; decide
  obtain ⟨j, hj⟩ : ∃ j : Nat, k + 1074 = (j : Int) := ⟨(k + 1074).toNat, by omega⟩
  have m1 : Fd.mg (Fd.rg 4607182418800017408) = 2 ^ (e + 52) := by rw [one, Fd.mg_pow]
  have m2 : Fd.mg (Fd.dbls j 1) = 2 ^ j := by rw [Fd.mg_dbls, Fd.mg_small (by omega), Nat.one_mul]
  have ex : Fd.EX (Fd.rg 4607182418800017408) k (Fd.dbls j 1) := by
    refine ⟨j, e + 52, by omega, ?_⟩
    rw [m1, m2]; grind
  obtain ⟨R, lq, ev⟩ := Fd.ld_fin (x := 4607182418800017408) (by decide) (by decide) h
  have eR := Fd.lq_unique lq (Fd.ex_lq ex)
  have lt : Fd.dbls j 1 < 9218868437227405312 := by
    apply Fd.mg_lt_iff.1
    obtain ⟨a, ha⟩ : ∃ a : Nat, a = 2046 := ⟨_, rfl⟩
    rw [m2, Fd.mg_inf ha]
    exact Fd.pow_lt_iff.2 (by omega)
  have pos : 0 < Fd.dbls j 1 := Fd.dbls_pos (by omega)
  rw [eR, Nat.min_eq_left (by omega)] at ev
  have rv : Fd.rg v = Fd.dbls j 1 := by rw [ev, Fd.rg_wd (by omega)]
  rw [rv]
  refine ⟨pos, lt, by omega, by omega, ?_⟩
  rcases (by omega : 52 ≤ j ∨ j < 52) with c | c
  · refine ⟨j - 52, 0, by omega, ?_⟩
    rw [m2, Nat.pow_zero, Nat.mul_one, show (4503599627370496 : Nat) = 2 ^ 52 by decide, Fd.pow_sum, show 52 + (j - 52) = j by omega]
  · refine ⟨0, 52 - j, by omega, ?_⟩
    rw [m2, Fd.pow_sum, Nat.pow_zero, Nat.mul_one, show (4503599627370496 : Nat) = 2 ^ 52 by decide, show j + (52 - j) = 52 by omega]
set_option maxHeartbeats 1000000 in
theorem law_FnIlogbPower (k : Int) (_hk : I64 k) (w : World) : Calls Try.prog 11 #[.int .i64 k] w (RB true w) := by
  clear _hk
  rcases (by omega : k < -1074 ∨ (-1074 ≤ k ∧ 1023 < k) ∨ (-1074 ≤ k ∧ k ≤ 1023)) with c | ⟨c1, c2⟩ | ⟨k1, k2⟩
  · go_enter Try.func11, Try.ntmps11
    go_wp2
    go_ret
    exact ⟨rfl, 0, rfl⟩
  · go_enter Try.func11, Try.ntmps11
    go_wp2
    go_ret
    exact ⟨rfl, 0, rfl⟩
  · have t1 : eqF .f64 (i2f k) (i2f k) = true := num_eq (i2f_num _)
    go_enter Try.func11, Try.ntmps11
    go_wp2_with fail
    refine (iLdexp_c 4607182418800017408 k (by unfold W64; decide) _).mono ?_
    rintro e w' ⟨x, hl, hx, rfl, n, rfl⟩
    obtain ⟨h0, h1, pq⟩ := power_rung k1 k2 (hl (Or.inr (by omega)))
    have IU : Hd (∀ i, IQ x i → i = k) := ⟨fun i hi => by have := iq_unique hi (Or.inr (Or.inr ⟨h0, h1, _, _, pq, rfl⟩)); omega⟩
    have JU : Hd (∀ r, JQ x r → r = i2f k) := ⟨fun r hr => by have := jq_unique hr (Or.inr (Or.inr (Or.inr ⟨h0, h1, _, _, pq, rfl⟩))); rw [this]; congr 1; omega⟩
    have NU : Hd (∀ i, IQ (Fd.ng x) i → i = k) := ⟨fun i hi => by
      have g := Fd.rg_ng hx
      have := iq_unique hi (Or.inr (Or.inr ⟨by rw [g]; exact h0, by rw [g]; exact h1, _, _, by rw [g]; exact pq, rfl⟩)); omega⟩
    have hn := W_ng hx
    have gn : Op.negFloat .f64 x = Fd.ng x := negF_W hx
    clear hl h0 h1 pq
    go_wp2_with fail
    refine (iIlogb_c x hx _).mono ?_
    rintro e w' ⟨i, hi, rfl, n, rfl⟩
    have ei := IU.out i hi
    subst ei
    clear hi IU
    go_wp2_with fail
    refine (iLogb_c x hx _).mono ?_
    rintro e w' ⟨r, hr, hW, rfl, n, rfl⟩
    have er := JU.out r hr
    subst er
    clear hr JU
    go_wp2_with fail
    refine (iIlogb_c _ hn _).mono ?_
    rintro e w' ⟨j, hj, rfl, n, rfl⟩
    have ej := NU.out j hj
    subst ej
    clear hj NU
    go_wp2
    go_ret
    exact ⟨ret_bool (by simp), _, rfl⟩
end Go.Proofs.Ytmdenmldbmafgaa
