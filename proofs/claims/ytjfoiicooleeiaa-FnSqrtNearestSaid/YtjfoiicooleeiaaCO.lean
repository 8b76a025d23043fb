/- Contract of the library's Ldexp: the nearest number to the product, for powers of at most 2 to the power of 62 in absolute value. -/
import Derived.Test.YtjfoiicooleeiaaCN
namespace Go.Proofs.Ytjfoiicooleeiaa
open Go.RowKit

theorem rne_none {m n : Nat} (hm : m < 9007199254740992) (hn : 54 ≤ n) : Fd.rne m (2 ^ n) = 0 := by
  have h : 2 ^ 54 ≤ 2 ^ n := Nat.pow_le_pow_right (by omega) (by omega)
  unfold Fd.rne
  rw [Nat.div_eq_of_lt (by omega), Nat.mod_eq_of_lt (by omega), if_neg (by omega)]
/-- '1 * z' -/
theorem mul_one_l {z : Nat} (hz : z < 18446744073709551616) (h : Fd.rg z < 9218868437227405312) : arith .mul .f64 4607182418800017408 z = some z := by
  obtain ⟨R, h1, h2⟩ := Fd.mul_fin (x := 4607182418800017408) (y := z) (by decide) h
  have sc : Fd.sg 4607182418800017408 = false := by decide
  have mc : Fd.mg (Fd.rg 4607182418800017408) = 2 ^ Fd.LL := by
    obtain ⟨e, he⟩ : ∃ e : Nat, e = 1022 := ⟨_, rfl⟩
    have e1 : Fd.rg 4607182418800017408 = e * 4503599627370496 + 4503599627370496 := by rw [he]; decide
    have l := Fd.LL_eq
    rw [e1, Fd.mg_pow, show e + 52 = Fd.LL by omega]
  rw [mc, Nat.mul_comm] at h1
  have h3 : Fd.Near (Fd.mg (Fd.rg z)) 1 R := Fd.near_unscale (c := 2 ^ Fd.LL) (Nat.two_pow_pos _) (by rw [Nat.one_mul]; exact h1)
  have e := Fd.near_mg h3
  have hs : (false ^^ Fd.sg z) = Fd.sg z := by cases Fd.sg z <;> rfl
  rw [sc, hs, e, Nat.min_eq_left (by omega), Fd.wd_of hz] at h2
  exact h2
/-- '2 ^ -53 * z' -/
theorem mul_53_l {z : Nat} (h : Fd.rg z < 9218868437227405312) : ∃ R, arith .mul .f64 4368491638549381120 z = some (Fd.wd (Fd.sg z) (min R 9218868437227405312)) ∧ Fd.Near (Fd.mg (Fd.rg z)) (2 ^ 53) R := by
  obtain ⟨R, h1, h2⟩ := Fd.mul_fin (x := 4368491638549381120) (y := z) (by decide) h
  have sc : Fd.sg 4368491638549381120 = false := by decide
  have hs : (false ^^ Fd.sg z) = Fd.sg z := by cases Fd.sg z <;> rfl
  rw [sc, hs] at h2
  refine ⟨R, h2, ?_⟩
  obtain ⟨e, he⟩ : ∃ e : Nat, e = 969 := ⟨_, rfl⟩
  have l := Fd.LL_eq
  have mc : Fd.mg (Fd.rg 4368491638549381120) = 2 ^ (e + 52) := by
    have e1 : Fd.rg 4368491638549381120 = e * 4503599627370496 + 4503599627370496 := by rw [he]; decide
    rw [e1, Fd.mg_pow]
  rw [mc, Nat.mul_comm] at h1
  refine Fd.near_unscale (c := 2 ^ (e + 52)) (Nat.two_pow_pos _) ?_
  rw [Fd.pow_sum, show 53 + (e + 52) = Fd.LL by omega]
  exact h1

/-- the exponent's field, as ldexp reads it -/
theorem exp_field_i {s : Bool} {r : Nat} (h : r < 9218868437227405312) :
    bits .and .i64 (wrap64 (((Fd.wd s r : Nat) : Int) / 4503599627370496)) 2047 = ((r / 4503599627370496 : Nat) : Int) := by
  have d : (((Fd.wd s r : Nat) : Int) / 4503599627370496) = ((Fd.wd s r / 4503599627370496 : Nat) : Int) := by omega
  have l : Fd.wd s r < 18446744073709551616 := Fd.wd_lt (by omega)
  have e : Fd.wd s r / 4503599627370496 % 2048 = r / 4503599627370496 := by unfold Fd.wd; split <;> omega
  have wr : wrap64 ((Fd.wd s r / 4503599627370496 : Nat) : Int) = ((Fd.wd s r / 4503599627370496 : Nat) : Int) := by unfold wrap64; omega
  have b := (bits_nat .i64 63 (by decide) (fun n h0 h1 => by rw [IntKind.wrap_i64]; omega) (Fd.wd s r / 4503599627370496) 2047 (by omega) (by decide)).1
  rw [show ((2047 : Nat) : Int) = 2047 from rfl] at b
  have a : Fd.wd s r / 4503599627370496 &&& 2047 = Fd.wd s r / 4503599627370496 % 2048 := and_low _ 11
  rw [d, wr, b, a, e]
theorem field_put {s : Bool} {r p : Nat} (hr : r < 9218868437227405312) (hp : p < 2048) :
    bits .or .u64 (bits .andNot .u64 ((Fd.wd s r : Nat) : Int) 9218868437227405312) ((p * 4503599627370496 : Nat) : Int) = ((Fd.wd s (p * 4503599627370496 + r % 4503599627370496) : Nat) : Int) := by
  have l : Fd.wd s r < 18446744073709551616 := Fd.wd_lt (by omega)
  have hs : s.toNat ≤ 1 := by cases s <;> decide
  rw [b_notExp _ l]
  have e1 : Fd.wd s r / 9223372036854775808 = s.toNat := by rw [wd_nat]; omega
  have e2 : Fd.wd s r % 4503599627370496 = r % 4503599627370496 := by unfold Fd.wd; split <;> omega
  rw [e1, e2, or_field s.toNat (r % 4503599627370496) p hs (by omega) hp, wd_nat]

/-- what Ldexp gives, where the power is at most 2 to the power of 62 in absolute value -/
def LX (x : Nat) (k : Int) (v : Nat) : Prop := ((Fd.rg x = 0 ∨ 9218868437227405312 ≤ Fd.rg x) ∨ (-4611686018427387904 ≤ k ∧ k ≤ 4611686018427387904)) → Fd.LD x k v
theorem wd_lt0 {s : Bool} {r : Nat} (h0 : 0 < r) (h1 : r < 9218868437227405312) : ltF .f64 (Fd.wd s r) 0 = s := by
  have k := Fd.key_wd (s := s) (r := r) (by omega)
  have n := Fd.nan_wd (s := s) (r := r) (by omega)
  rw [lt64, n, k, show Fd.nan 0 = false by decide, show Fd.key 0 = 0 by decide]
  cases s <;> unfold Fd.sm <;> simp; omega
set_option maxHeartbeats 2000000 in
theorem mldexp_fin (x : Nat) (k : Int) (hx : W64 x) (h0 : 0 < Fd.rg x) (h1 : Fd.rg x < 9218868437227405312) (w : World) :
    Calls Try.prog 58 #[.float .f64 x, .int .i64 k] w (RF (LX x k) w) := by
  rcases kind4 x with ⟨_, _, q1, q2, q3, q4, q5⟩ | ⟨a, _⟩ | ⟨a, _⟩ | ⟨a, _⟩ <;> try omega
  have H0 := Hd.mk h0
  have H1 := Hd.mk h1
  clear h0 h1
  go_enter Try.func58, Try.ntmps58
  go_wp2_with (first | (go_at_call 64; refine (mIsInf_c _ _ hx _).mono ?_; rintro e w' ⟨rfl, n, rfl⟩) | (go_at_call 59; refine (mIsNaN_c _ _).mono ?_; rintro e w' ⟨rfl, n, rfl⟩))
  refine (normalize_c x hx H0.out H1.out _).mono ?_
  rintro e w' ⟨r', j, hn, rfl, n, rfl⟩
  have PQ := Hd.mk (nq_pq hn)
  obtain ⟨h5, hj, hl, hh⟩ := hn
  clear h5
  obtain ⟨E, hE⟩ : ∃ E : Nat, E = r' / 4503599627370496 := ⟨_, rfl⟩
  obtain ⟨f, hf⟩ : ∃ f : Nat, f = r' % 4503599627370496 := ⟨_, rfl⟩
  obtain ⟨t, ht⟩ : ∃ t : Int, t = wrap64 (wrap64 (k + -(j : Int)) + wrap64 ((E : Int) - 1023)) := ⟨_, rfl⟩
  obtain ⟨y, hy⟩ : ∃ y, y = Fd.wd (Fd.sg x) r' := ⟨_, rfl⟩
  have wy : W64 y := by rw [hy]; exact Fd.wd_lt (by omega)
  have sy : Fd.sg y = Fd.sg x := by rw [hy, Fd.sg_wd (by omega)]
  have ly : ltF .f64 y 0 = Fd.sg x := by rw [hy]; exact wd_lt0 (by omega) hh
  have EF : Hd (bits .and .i64 (wrap64 ((y : Int) / 4503599627370496)) 2047 = (E : Int)) := ⟨by rw [hy, exp_field_i hh, hE]⟩
  have EP : Hd (∀ p : Nat, p < 2048 → bits .or .u64 (bits .andNot .u64 (y : Int) 9218868437227405312) ((p * 4503599627370496 : Nat) : Int) = ((Fd.wd (Fd.sg x) (p * 4503599627370496 + f) : Nat) : Int)) := ⟨fun p hp => by rw [hy, field_put hh hp, hf]⟩
  have ET : Hd (wrap64 (wrap64 (k + -(j : Int)) + wrap64 (bits .and .i64 (wrap64 ((y : Int) / 4503599627370496)) 2047 - 1023)) = t) := by
    constructor
    rw [EF.out, ht]
  -- what is rounded: the fraction times a power of 2
  have LQ : Hd (∀ R, (∃ a b : Nat, t + 1022 = (a : Int) - b ∧ Fd.Near ((4503599627370496 + f) * 2 ^ a) (2 ^ b) R) → LX x k (Fd.wd (Fd.sg x) (min R 9218868437227405312))) := by
    constructor
    rintro R ⟨a, b, e1, e2⟩ hk
    have h0 := H0.out
    have h1 := H1.out
    have et : t = k - j + E - 1023 := by rw [ht]; unfold wrap64; omega
    refine Or.inl ⟨H0.out, H1.out, R, Fd.lq_frac PQ.out ⟨a, b, by omega, by rw [← hf]; exact e2⟩, rfl⟩
  have HF : Hd (f < 4503599627370496) := ⟨by omega⟩
  rw [← hy]
  clear hj hl hh hE hf ht PQ hy EF
  go_upto_region 9 with (fail)
  rw [ET.out]
  clear ET
  rcases (by omega : t < -1075 ∨ (-1075 ≤ t ∧ t < -1022) ∨ (-1022 ≤ t ∧ t ≤ 1023) ∨ 1023 < t) with c | ⟨c, d⟩ | ⟨c, d⟩ | c
  · have hz : W64 0 := W_zero
    have R : Hd (LX x k (Fd.cps 0 y)) := by
      constructor
      have e : Fd.cps 0 y = Fd.wd (Fd.sg x) (min 0 9218868437227405312) := by
        refine Fd.word_ext (Fd.cps_lt wy) (Fd.wd_lt (by omega)) ?_ ?_
        · rw [Fd.sg_cps wy, Fd.sg_wd (by omega), sy]
        · rw [Fd.rg_cps, Fd.rg_wd (by omega)]; decide
      rw [e]
      have hf := HF.out
      have nr := Fd.near_of_rne_small (m := 4503599627370496 + f) (n := (-(t + 1022)).toNat) (by omega) (by omega)
      rw [rne_none (by omega) (by omega)] at nr
      exact LQ.out 0 ⟨0, (-(t + 1022)).toNat, by omega, by rw [Nat.pow_zero, Nat.mul_one]; exact nr⟩
    clear LQ
    go_wp2_with (go_at_call 61; refine (mCopysign_c _ _ hz wy _).mono ?_; rintro e w' ⟨rfl, n, rfl⟩)
    go_ret
    exact ⟨_, R.out, W_cps wy, rfl, _, rfl⟩
  · obtain ⟨p, hp⟩ : ∃ p : Nat, t + 53 + 1023 = (p : Int) := ⟨(t + 53 + 1023).toNat, by omega⟩
    have hf := HF.out
    have ez : (bits .or .u64 (bits .andNot .u64 (y : Int) 9218868437227405312) ((t + 53 + 1023) * 4503599627370496)).toNat = Fd.wd (Fd.sg x) (p * 4503599627370496 + f) := by
      rw [hp, show ((p : Int) * 4503599627370496) = ((p * 4503599627370496 : Nat) : Int) from rfl, EP.out p (by omega)]; rfl
    have EZ := Hd.mk ez
    obtain ⟨R, m1, m2⟩ := mul_53_l (z := Fd.wd (Fd.sg x) (p * 4503599627370496 + f)) (by rw [Fd.rg_wd (by omega)]; omega)
    rw [Fd.sg_wd (by omega), Fd.rg_wd (by omega), show p * 4503599627370496 + f = (p - 1) * 4503599627370496 + (4503599627370496 + f) by omega, Fd.mg_at (by omega)] at *
    have L := Hd.mk (LQ.out R ⟨p - 1, 53, by omega, m2⟩)
    have M : Hd (∀ w, res .mul .f64 4368491638549381120 (Fd.wd (Fd.sg x) ((p - 1) * 4503599627370496 + (4503599627370496 + f))) w = Fd.wd (Fd.sg x) (min R 9218868437227405312)) := ⟨fun w => res_some m1 w⟩
    clear ez m1 m2 hf hp LQ EP
    go_wp2
    go_ret
    exact ⟨_, L.out, Fd.wd_lt (by omega), ret_float (by rw [EZ.out, M.out]), _, rfl⟩
  · obtain ⟨p, hp⟩ : ∃ p : Nat, t + 1023 = (p : Int) := ⟨(t + 1023).toNat, by omega⟩
    have hf := HF.out
    have ez : (bits .or .u64 (bits .andNot .u64 (y : Int) 9218868437227405312) ((t + 1023) * 4503599627370496)).toNat = Fd.wd (Fd.sg x) (p * 4503599627370496 + f) := by
      rw [hp, show ((p : Int) * 4503599627370496) = ((p * 4503599627370496 : Nat) : Int) from rfl, EP.out p (by omega)]; rfl
    have EZ := Hd.mk ez
    have m1 := mul_one_l (z := Fd.wd (Fd.sg x) (p * 4503599627370496 + f)) (Fd.wd_lt (by omega)) (by rw [Fd.rg_wd (by omega)]; omega)
    have mm : Fd.mg (p * 4503599627370496 + f) = (4503599627370496 + f) * 2 ^ (p - 1) := by
      rw [show p * 4503599627370496 + f = (p - 1) * 4503599627370496 + (4503599627370496 + f) by omega, Fd.mg_at (by omega)]
    have l := LQ.out (p * 4503599627370496 + f) ⟨p - 1, 0, by omega, by rw [Nat.pow_zero]; exact Fd.near_one_exact mm.symm⟩
    rw [Nat.min_eq_left (by omega)] at l
    have L := Hd.mk l
    have M : Hd (∀ w, res .mul .f64 4607182418800017408 (Fd.wd (Fd.sg x) (p * 4503599627370496 + f)) w = Fd.wd (Fd.sg x) (p * 4503599627370496 + f)) := ⟨fun w => res_some m1 w⟩
    have W : Hd (W64 (Fd.wd (Fd.sg x) (p * 4503599627370496 + f))) := ⟨Fd.wd_lt (by omega)⟩
    clear ez m1 mm l hf hp LQ EP
    go_wp2
    go_ret
    exact ⟨_, L.out, W.out, ret_float (by rw [EZ.out, M.out]), _, rfl⟩
  · have R : Hd (LX x k (Fd.wd (Fd.sg x) 9218868437227405312)) := by
      constructor
      have hf := HF.out
      obtain ⟨a, ha⟩ : ∃ a : Nat, t + 1022 = (a : Int) := ⟨(t + 1022).toNat, by omega⟩
      have mm : Fd.mg (Fd.dbls a (4503599627370496 + f)) = (4503599627370496 + f) * 2 ^ a := by rw [Fd.mg_dbls, Fd.mg_small (by omega)]
      have big : 9218868437227405312 ≤ Fd.dbls a (4503599627370496 + f) := by
        rw [Fd.dbls_high (by omega)]; omega
      have := LQ.out (Fd.dbls a (4503599627370496 + f)) ⟨a, 0, by omega, by rw [Nat.pow_zero]; exact Fd.near_one_exact mm.symm⟩
      rw [Nat.min_eq_right big] at this
      exact this
    clear LQ
    cases s : Fd.sg x
    all_goals
      rw [s] at R ly
      go_wp2_with (go_at_call 66; refine (mInf_c _ _).mono ?_; rintro e w' ⟨rfl, n, rfl⟩)
      go_ret
      exact ⟨_, R.out, Fd.wd_lt (by omega), rfl, _, rfl⟩
set_option maxHeartbeats 1000000 in
theorem mldexp_same (x : Nat) (k : Int) (hx : W64 x) (h : Fd.rg x = 0 ∨ 9218868437227405312 ≤ Fd.rg x) (w : World) :
    Calls Try.prog 58 #[.float .f64 x, .int .i64 k] w (RF (LX x k) w) := by
  have R : Hd (LX x k x) := ⟨fun _ => Or.inr ⟨h, rfl⟩⟩
  rcases kind4 x with ⟨_, _, q1, q2, q3, q4, q5⟩ | ⟨a, q1, q2, q3, q4, _⟩ | ⟨a, q1, q2, q3, q4, _⟩ | ⟨a, q1, q2, q3, q4, _⟩
  · omega
  all_goals
    clear a h
    go_enter Try.func58, Try.ntmps58
    go_wp2_with (first | (go_at_call 64; refine (mIsInf_c _ _ hx _).mono ?_; rintro e w' ⟨rfl, n, rfl⟩) | (go_at_call 59; refine (mIsNaN_c _ _).mono ?_; rintro e w' ⟨rfl, n, rfl⟩))
    go_ret
    first | exact ⟨_, R.out, hx, rfl, _, rfl⟩ | exact ⟨_, R.out, hx, rfl, 0, rfl⟩
theorem iLdexp_c (x : Nat) (k : Int) (hx : W64 x) (w : World) : Calls Try.prog 18 #[.float .f64 x, .int .i64 k] w (RF (LX x k) w) := by
  have C : ∀ w, Calls Try.prog 58 #[.float .f64 x, .int .i64 k] w (RF (LX x k) w) := by
    intro w
    by_cases c : Fd.rg x = 0 ∨ 9218868437227405312 ≤ Fd.rg x
    · exact mldexp_same x k hx c w
    · exact mldexp_fin x k hx (by omega) (by omega) w
  have H := Hd.mk C
  clear C
  go_enter Try.func18, Try.ntmps18
  go_wp2_with (first | (go_at_call 58; refine (H.out _).mono ?_; rintro e w' ⟨r, hr, hW, rfl, n, rfl⟩) | (go_at_call 44; go_in))
  go_ret
  exact ⟨_, hr, hW, rfl, _, rfl⟩

end Go.Proofs.Ytjfoiicooleeiaa
