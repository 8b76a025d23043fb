/- Contracts of the library's normalize, frexp, ilogb, Frexp, Ilogb, Logb and of the reference's: the fraction and the exponent; conditions: as told in each line. -/
import Derived.Test.YtmdenmldbmafgaaC6
import Derived.Test.YtmdenmldbmafgaaDQ
namespace Go.Proofs.Ytmdenmldbmafgaa
open Go.RowKit

theorem or_field (s f p : Nat) (hs : s ≤ 1) (hf : f < 4503599627370496) (hp : p < 2048) :
    bits .or .u64 ((s * 9223372036854775808 + f : Nat) : Int) ((p * 4503599627370496 : Nat) : Int) = ((s * 9223372036854775808 + (p * 4503599627370496 + f) : Nat) : Int) := by
  rw [bits_or_u64_nat _ _ (by omega) (by omega)]
  have e1 : s * 9223372036854775808 + f = f ||| s * 2 ^ 63 := by rw [or_high f s 63 (by omega)]; omega
  have e2 : f ||| p * 2 ^ 52 = f + p * 2 ^ 52 := or_high f p 52 hf
  have e3 : (f + p * 2 ^ 52) ||| s * 2 ^ 63 = f + p * 2 ^ 52 + s * 2 ^ 63 := or_high _ s 63 (by omega)
  have e4 : f ||| s * 2 ^ 63 ||| p * 4503599627370496 = f ||| p * 2 ^ 52 ||| s * 2 ^ 63 := by
    rw [Nat.or_assoc, Nat.or_comm (s * 2 ^ 63), ← Nat.or_assoc]
  rw [e1, e4, e2, e3]; congr 1; omega

theorem ret_tuple {k : FloatKind} {a b : Nat} {q : IntKind} {i j : Int} (h1 : a = b) (h2 : i = j) : Ending.returned (.tuple #[.float k a, .int q i]) = .returned (.tuple #[.float k b, .int q j]) := by rw [h1, h2]
theorem wd_nat {s : Bool} {r : Nat} : Fd.wd s r = s.toNat * 9223372036854775808 + r := by unfold Fd.wd; cases s <;> simp

/-- 'x * 2 ^ 52' of a small number -/
theorem mul_52 {x : Nat} (h : Fd.rg x < 4503599627370496) : arith .mul .f64 x 4841369599423283200 = some (Fd.wd (Fd.sg x) (Fd.dbls 52 (Fd.rg x))) ∧ Fd.dbls 52 (Fd.rg x) < 108 * 4503599627370496 := by
  obtain ⟨R, h1, h2⟩ := Fd.mul_fin (x := x) (y := 4841369599423283200) (by omega) (by decide)
  have lb : Fd.dbls 52 (Fd.rg x) < 108 * 4503599627370496 := by
    apply Fd.mg_lt_iff.1
    rw [Fd.mg_dbls, Fd.mg_small (by omega), show 108 * 4503599627370496 = 107 * 4503599627370496 + 4503599627370496 by omega, Fd.mg_pow]
    have : Fd.rg x * 2 ^ 52 < 2 ^ 52 * 2 ^ 52 := Nat.mul_lt_mul_of_pos_right h (Nat.two_pow_pos _)
    rw [Fd.pow_sum] at this
    exact Nat.lt_trans this (Fd.pow_lt_iff.2 (by omega))
  have sc : Fd.sg 4841369599423283200 = false := by decide
  have mc : Fd.mg (Fd.rg 4841369599423283200) = 2 ^ 52 * 2 ^ Fd.LL := by
    obtain ⟨e, he⟩ : ∃ e : Nat, e = 1074 := ⟨_, rfl⟩
    have e1 : Fd.rg 4841369599423283200 = e * 4503599627370496 + 4503599627370496 := by rw [he]; decide
    have l := Fd.LL_eq
    rw [e1, Fd.mg_pow, Fd.pow_sum, show e + 52 = 52 + Fd.LL by omega]
  rw [mc] at h1
  have h3 : Fd.Near (Fd.mg (Fd.rg x) * 2 ^ 52) 1 R := by
    refine Fd.near_unscale (c := 2 ^ Fd.LL) (Nat.two_pow_pos _) ?_
    rw [Nat.mul_assoc, Nat.one_mul]; exact h1
  rw [← Fd.mg_dbls] at h3
  have e := Fd.near_mg h3
  refine ⟨?_, lb⟩
  have hs : (Fd.sg x ^^ false) = Fd.sg x := by cases Fd.sg x <;> rfl
  rw [sc, hs, e, Nat.min_eq_left (by omega)] at h2
  exact h2

/-- a finite number that is not zero, brought among the normal ones -/
def NQ (r : Nat) (r' j : Nat) : Prop := r' = Fd.dbls j r ∧ (j = 0 ∨ j = 52) ∧ 4503599627370496 ≤ r' ∧ r' < 9218868437227405312
def RN (x : Nat) (w : World) (e : Ending) (w' : World) : Prop := ∃ r' j : Nat, NQ (Fd.rg x) r' j ∧ e = .returned (.tuple #[.float .f64 (Fd.wd (Fd.sg x) r'), .int .i64 (-(j : Int))]) ∧ ∃ n, w' = w.drewN n
set_option maxHeartbeats 400000 in
theorem normalize_c (x : Nat) (hx : W64 x) (h0 : 0 < Fd.rg x) (h1 : Fd.rg x < 9218868437227405312) (w : World) : Calls Try.prog 55 #[.float .f64 x] w (RN x w) := by
  rcases Nat.lt_or_ge (Fd.rg x) 4503599627370496 with c | c
  · have t : ltF .f64 (Fd.rg x) 4503599627370496 = true := by rw [lt_words (by omega) (by omega)]; simp; exact c
    obtain ⟨m, lb⟩ := mul_52 (x := x) c
    have q1 : ∀ w, res .mul .f64 x 4841369599423283200 w = Fd.wd (Fd.sg x) (Fd.dbls 52 (Fd.rg x)) := fun w => res_some m w
    have R : Hd (NQ (Fd.rg x) (Fd.dbls 52 (Fd.rg x)) 52) := by
      refine ⟨rfl, Or.inr rfl, ?_, by omega⟩
      rcases Nat.lt_or_ge (Fd.dbls 52 (Fd.rg x)) 4503599627370496 with d | d
      · exfalso
        have e := Fd.mg_small (m := Fd.dbls 52 (Fd.rg x)) (by omega)
        rw [Fd.mg_dbls, Fd.mg_small (by omega)] at e
        have : 1 * 2 ^ 52 ≤ Fd.rg x * 2 ^ 52 := Nat.mul_le_mul_right _ h0
        omega
      · exact d
    clear m lb c h0 h1
    go_enter Try.func55, Try.ntmps55
    go_wp2_with (go_at_call 59; refine (mAbs_c _ hx _).mono ?_; rintro e w' ⟨rfl, n, rfl⟩)
    go_ret2
    exact ⟨_, 52, R.out, rfl, _, rfl⟩
  · have t : ltF .f64 (Fd.rg x) 4503599627370496 = false := by rw [lt_words (by omega) (by omega)]; simp; omega
    have R : Hd (NQ (Fd.rg x) (Fd.rg x) 0) := ⟨rfl, Or.inl rfl, c, h1⟩
    have e : Hd (Fd.wd (Fd.sg x) (Fd.rg x) = x) := ⟨Fd.wd_of hx⟩
    clear c h0 h1
    go_enter Try.func55, Try.ntmps55
    go_wp2_with (go_at_call 59; refine (mAbs_c _ hx _).mono ?_; rintro e w' ⟨rfl, n, rfl⟩)
    go_ret2
    exact ⟨_, 0, R.out, by rw [e.out]; rfl, _, rfl⟩
theorem nq_pq {r r' j : Nat} (h : NQ r r' j) : Fd.PQ r (4503599627370496 + r' % 4503599627370496) (((r' / 4503599627370496 : Nat) : Int) - 1075 - j) := by
  obtain ⟨h1, h2, h3, h4⟩ := h
  obtain ⟨l, u, a, b, e1, e2⟩ := Fd.pq_norm h3
  refine ⟨l, u, a, b + j, by omega, ?_⟩
  rw [← e2, h1, Fd.mg_dbls, Nat.pow_add]; grind
/-- the exponent's field of a word -/
theorem exp_field {s : Bool} {r : Nat} (h : r < 9218868437227405312) :
    wrap64 (bits .and .u64 (((Fd.wd s r : Nat) : Int) / 4503599627370496) 2047) = ((r / 4503599627370496 : Nat) : Int) := by
  have d : (((Fd.wd s r : Nat) : Int) / 4503599627370496) = ((Fd.wd s r / 4503599627370496 : Nat) : Int) := by omega
  have e : Fd.wd s r / 4503599627370496 % 2048 = r / 4503599627370496 := by unfold Fd.wd; split <;> omega
  have l : Fd.wd s r < 18446744073709551616 := Fd.wd_lt (by omega)
  rw [d, b_low11 _ (by omega), e]; unfold wrap64; omega
def RK (x : Nat) (d : Int) (w : World) (e : Ending) (w' : World) : Prop := ∃ m k, Fd.PQ (Fd.rg x) m k ∧ e = .returned (.int .i64 (k + d)) ∧ ∃ n, w' = w.drewN n
set_option maxHeartbeats 400000 in
theorem milogb_c (x : Nat) (hx : W64 x) (h0 : 0 < Fd.rg x) (h1 : Fd.rg x < 9218868437227405312) (w : World) :
    Calls Try.prog 51 #[.float .f64 x] w (RK x 52 w) := by
  go_enter Try.func51, Try.ntmps51
  go_wp2_with fail
  refine (normalize_c x hx h0 h1 _).mono ?_
  rintro e w' ⟨r', j, hn, rfl, n, rfl⟩
  have PQ := Hd.mk (nq_pq hn)
  obtain ⟨h5, hj, hl, hh⟩ := hn
  have E := Hd.mk (exp_field (s := Fd.sg x) hh)
  have HJ : Hd (j ≤ 52 ∧ 1 ≤ r' / 4503599627370496 ∧ r' / 4503599627370496 ≤ 2046) := ⟨by omega⟩
  clear h5 hj hl hh h0 h1
  go_wp2
  go_ret
  refine ⟨_, _, PQ.out, ret_int ?_, _, rfl⟩
  rw [E.out]
  have := HJ.out
  unfold wrap64
  omega
def RX (x : Nat) (w : World) (e : Ending) (w' : World) : Prop := ∃ m k, Fd.PQ (Fd.rg x) m k ∧ e = .returned (.tuple #[.float .f64 (Fd.wd (Fd.sg x) (1021 * 4503599627370496 + m)), .int .i64 (k + 53)]) ∧ ∃ n, w' = w.drewN n
theorem frac_field {s : Bool} {r : Nat} (h1 : 4503599627370496 ≤ r) (h2 : r < 9218868437227405312) :
    (bits .or .u64 (bits .andNot .u64 ((Fd.wd s r : Nat) : Int) 9218868437227405312) 4602678819172646912).toNat = Fd.wd s (1021 * 4503599627370496 + (4503599627370496 + r % 4503599627370496)) := by
  have l : Fd.wd s r < 18446744073709551616 := Fd.wd_lt (by omega)
  rw [b_notExp _ l]
  have e1 : Fd.wd s r / 9223372036854775808 = s.toNat := by rw [wd_nat]; have : s.toNat ≤ 1 := by cases s <;> decide
                                                            omega
  have e2 : Fd.wd s r % 4503599627370496 = r % 4503599627370496 := by unfold Fd.wd; split <;> omega
  rw [e1, e2]
  have o := or_field s.toNat (r % 4503599627370496) 1022 (by cases s <;> decide) (by omega) (by omega)
  rw [show ((1022 * 4503599627370496 : Nat) : Int) = 4602678819172646912 from rfl] at o
  rw [o, wd_nat]
  omega
set_option maxHeartbeats 400000 in
theorem mfrexp_c (x : Nat) (hx : W64 x) (h0 : 0 < Fd.rg x) (h1 : Fd.rg x < 9218868437227405312) (w : World) :
    Calls Try.prog 53 #[.float .f64 x] w (RX x w) := by
  have nx : Fd.nan x = false := by unfold Fd.nan; simp; omega
  have f1 : eqF .f64 x 0 = false := by
    rw [eq64, nx, show Fd.nan 0 = false by decide, show Fd.key 0 = 0 by decide]; simp; unfold Fd.key; split <;> omega
  have f2 : Fd.infV x 0 = false := by unfold Fd.infV; rw [if_pos rfl]; simp; omega
  go_enter Try.func53, Try.ntmps53
  go_wp2_with (first | (go_at_call 49; refine (mIsInf_c _ _ hx _).mono ?_; rintro e w' ⟨rfl, n, rfl⟩) | (go_at_call 50; refine (mIsNaN_c _ _).mono ?_; rintro e w' ⟨rfl, n, rfl⟩))
  refine (normalize_c x hx h0 h1 _).mono ?_
  rintro e w' ⟨r', j, hn, rfl, n, rfl⟩
  have PQ := Hd.mk (nq_pq hn)
  obtain ⟨h5, hj, hl, hh⟩ := hn
  have E := Hd.mk (exp_field (s := Fd.sg x) hh)
  have E2 := Hd.mk (frac_field (s := Fd.sg x) hl hh)
  have HJ : Hd (j ≤ 52 ∧ 1 ≤ r' / 4503599627370496 ∧ r' / 4503599627370496 ≤ 2046) := ⟨by omega⟩
  clear h5 hj hl hh h0 h1
  go_wp2
  go_ret2
  refine ⟨_, _, PQ.out, ?_, _, rfl⟩
  simp only [E.out, E2.out]
  have := HJ.out
  refine ret_tuple rfl ?_
  unfold wrap64
  omega
theorem mfrexp_same (x : Nat) (hx : W64 x) (h : Fd.rg x = 0 ∨ 9218868437227405312 ≤ Fd.rg x) (w : World) :
    Calls Try.prog 53 #[.float .f64 x] w (RV (.tuple #[.float .f64 x, .int .i64 0]) w) := by
  have k0 : Fd.key 0 = 0 := by decide
  have n0 : Fd.nan 0 = false := by decide
  rcases h with h | h
  · have nx : Fd.nan x = false := by unfold Fd.nan; simp; omega
    have f1 : eqF .f64 x 0 = true := by rw [eq64, nx, n0, k0]; simp; unfold Fd.key; split <;> omega
    go_enter Try.func53, Try.ntmps53
    go_wp2
    go_ret2
    exact ⟨rfl, 0, rfl⟩
  · have f1 : eqF .f64 x 0 = false := by rw [eq64, n0, k0]; simp; intro _; unfold Fd.key; split <;> omega
    cases nx : Fd.nan x
    · have f2 : Fd.infV x 0 = true := by unfold Fd.nan at nx; unfold Fd.infV; rw [if_pos rfl]; simp at nx ⊢; omega
      go_enter Try.func53, Try.ntmps53
      go_wp2_with (first | (go_at_call 49; refine (mIsInf_c _ _ hx _).mono ?_; rintro e w' ⟨rfl, n, rfl⟩) | (go_at_call 50; refine (mIsNaN_c _ _).mono ?_; rintro e w' ⟨rfl, n, rfl⟩))
      go_ret2
      exact ⟨rfl, _, rfl⟩
    · have f2 : Fd.infV x 0 = false := by unfold Fd.nan at nx; unfold Fd.infV; rw [if_pos rfl]; simp at nx ⊢; omega
      go_enter Try.func53, Try.ntmps53
      go_wp2_with (first | (go_at_call 49; refine (mIsInf_c _ _ hx _).mono ?_; rintro e w' ⟨rfl, n, rfl⟩) | (go_at_call 50; refine (mIsNaN_c _ _).mono ?_; rintro e w' ⟨rfl, n, rfl⟩))
      go_ret2
      exact ⟨rfl, _, rfl⟩
set_option maxHeartbeats 400000 in
theorem iFrexp_c (x : Nat) (hx : W64 x) (h0 : 0 < Fd.rg x) (h1 : Fd.rg x < 9218868437227405312) (w : World) :
    Calls Try.prog 27 #[.float .f64 x] w (RX x w) := by
  go_enter Try.func27, Try.ntmps27
  go_wp2_with (first | (go_at_call 53; refine (mfrexp_c x hx h0 h1 _).mono ?_; rintro e w' ⟨m, k, pq, rfl, n, rfl⟩) | (go_at_call 42; go_in))
  go_ret2
  exact ⟨m, k, pq, rfl, _, rfl⟩
set_option maxHeartbeats 400000 in
theorem iFrexp_same (x : Nat) (hx : W64 x) (h : Fd.rg x = 0 ∨ 9218868437227405312 ≤ Fd.rg x) (w : World) :
    Calls Try.prog 27 #[.float .f64 x] w (RV (.tuple #[.float .f64 x, .int .i64 0]) w) := by
  go_enter Try.func27, Try.ntmps27
  go_wp2_with (first | (go_at_call 53; refine (mfrexp_same x hx h _).mono ?_; rintro e w' ⟨rfl, n, rfl⟩) | (go_at_call 42; go_in))
  go_ret2
  exact ⟨rfl, _, rfl⟩

end Go.Proofs.Ytmdenmldbmafgaa
