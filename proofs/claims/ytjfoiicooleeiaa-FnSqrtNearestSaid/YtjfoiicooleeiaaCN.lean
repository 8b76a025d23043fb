/- Contracts of the reference's shift, scaled and Ldexp, and of the library's ldexp: the nearest number to the product; conditions: as told in each line. -/
import Derived.Test.YtjfoiicooleeiaaCM
import Derived.Test.YtjfoiicooleeiaaDL
import Derived.Deep.Cut
namespace Go.Proofs.Ytjfoiicooleeiaa
open Go.RowKit

set_option maxHeartbeats 1000000 in
theorem shift_c (m n : Nat) (hm : m < 9007199254740992) (h1 : 1 ≤ n) (h2 : n ≤ 60000) (w : World) :
    Calls Try.prog 56 #[.int .u64 (m : Int), .int .i64 (n : Int)] w (RV (.int .u64 ((Fd.rne m (2 ^ n) : Nat) : Int)) w) := by
  have HM := Hd.mk hm
  rcases (by omega : 64 < n ∨ n = 64 ∨ n < 64) with c | c | c
  · have R : Hd (Fd.rne m (2 ^ n) = 0) := ⟨Fd.rne_big hm (by omega)⟩
    clear hm
    go_enter Try.func56, Try.ntmps56
    go_wp2
    go_ret
    exact ⟨ret_int (by rw [R.out]; rfl), 0, rfl⟩
  · subst c
    have R : Hd (Fd.rne m (2 ^ 64) = 0) := ⟨Fd.rne_big hm (by omega)⟩
    have t1 : decide ((9223372036854775808 : Int) < (m : Int)) = false := by simp; omega
    have t2 : ((m : Int) == 9223372036854775808) = false := by simp; omega
    clear hm
    go_enter Try.func56, Try.ntmps56
    go_wp2
    go_ret
    exact ⟨ret_int (by rw [R.out]; rfl), 0, rfl⟩
  · have hp : 0 < 2 ^ n := Nat.two_pow_pos n
    have c2 : ((2 : Int) ^ n) = ((2 ^ n : Nat) : Int) := by simp
    obtain ⟨q, hq⟩ : ∃ q, q = m / 2 ^ n := ⟨_, rfl⟩
    obtain ⟨s, hs⟩ : ∃ s, s = m % 2 ^ n := ⟨_, rfl⟩
    have hd : 2 ^ n * q + s = m := by rw [hq, hs]; exact Nat.div_add_mod m (2 ^ n)
    have E1 : Hd ((m : Int) / 2 ^ n = (q : Int)) := ⟨by rw [c2, hq, Int.natCast_ediv]⟩
    have E2 : Hd (IntKind.u64.wrap ((m : Int) - IntKind.u64.wrap ((m : Int) / 2 ^ n * 2 ^ n)) = (s : Int)) := by
      constructor
      rw [E1.out, c2, IntKind.wrap_u64, IntKind.wrap_u64]
      have e : ((q : Int) * ((2 ^ n : Nat) : Int)) = ((2 ^ n * q : Nat) : Int) := by rw [Int.natCast_mul]; grind
      rw [e]
      generalize 2 ^ n * q = z at *
      omega
    have HQ : Hd (q ≤ m) := ⟨by rw [hq]; exact Nat.div_le_self _ _⟩
    have HS : Hd (s < 2 ^ n) := ⟨by rw [hs]; exact Nat.mod_lt _ hp⟩
    have HR : Hd (Fd.rne m (2 ^ n) = q + (if 2 ^ n < 2 * s ∨ (2 ^ n = 2 * s ∧ q % 2 = 1) then 1 else 0)) := ⟨by unfold Fd.rne; rw [← hq, ← hs]⟩
    clear hm hd c2 hq hs hp
    go_enter Try.func56, Try.ntmps56
    go_upto_region 7 with (fail)
    rw [E2.out, E1.out]
    clear E1 E2
    go_upto_region 8 with (fail)
    obtain ⟨h, hh⟩ : ∃ h, h = 2 ^ (n - 1) := ⟨_, rfl⟩
    have EH : Hd (IntKind.u64.wrap (2 ^ (n - 1)) = (h : Int)) := by
      constructor
      have c2 : ((2 : Int) ^ (n - 1)) = ((2 ^ (n - 1) : Nat) : Int) := by simp
      have lt : 2 ^ (n - 1) < 2 ^ 64 := Nat.pow_lt_pow_right (by omega) (by omega)
      rw [c2, IntKind.wrap_u64, hh]
      omega
    have HN : Hd (2 ^ n = 2 * h) := ⟨by rw [hh, Fd.two_mul_pow]; congr 1; omega⟩
    rw [EH.out]
    clear EH hh c h1 h2
    go_wp2
    all_goals
      go_ret
      refine ⟨ret_int ?_, 0, rfl⟩
      have a1 := HQ.out
      have a2 := HM.out
      rw [HR.out, HN.out]
      try simp only [beq_iff_eq, beq_eq_false_iff_ne, ne_eq] at *
      try rw [IntKind.wrap_u64]
      split <;> omega
theorem rne_le (m n : Nat) (hm : m < 9007199254740992) : Fd.rne m (2 ^ n) ≤ 9007199254740992 := by
  have := (Fd.rne_spec m (2 ^ n) (Nat.two_pow_pos n)).2.2.2.2.2
  have : m / 2 ^ n ≤ m := Nat.div_le_self _ _
  omega
set_option maxHeartbeats 1000000 in
theorem scaled_c (m : Nat) (e : Int) (h1 : 4503599627370496 ≤ m) (h2 : m < 9007199254740992) (he : -50000 ≤ e ∧ e ≤ 50000) (w : World) :
    Calls Try.prog 43 #[.int .u64 (m : Int), .int .i64 e] w (RF (fun v => ∃ R, v = min R 9218868437227405312 ∧ ∃ a b : Nat, e + 1074 = (a : Int) - b ∧ Fd.Near (m * 2 ^ a) (2 ^ b) R) w) := by
  have t0 : ((m : Int) == 0) = false := by simp; omega
  have H2 := Hd.mk h2
  obtain ⟨e1, e2⟩ := he
  by_cases c : e < -1074
  · obtain ⟨n, hn⟩ : ∃ n : Nat, e = -1074 - (n : Int) := ⟨(-1074 - e).toNat, by omega⟩
    subst hn
    have EN : Hd ((-1074 : Int) - (-1074 - (n : Int)) = (n : Int)) := ⟨by omega⟩
    have b1 : 1 ≤ n := by omega
    have b2 : n ≤ 60000 := by omega
    have N := Hd.mk (Fd.near_of_rne_small h2 b1)
    have L := Hd.mk (rne_le m n h2)
    obtain ⟨q, hq⟩ : ∃ q, q = Fd.rne m (2 ^ n) := ⟨_, rfl⟩
    have HQ := Hd.mk hq
    have P : Hd (Fd.PW q (-1074) q) := ⟨⟨0, 0, by omega, by rw [Fd.mg_small (by rw [hq]; exact L.out)]⟩⟩
    clear h1 h2 hq c e1 e2
    go_enter Try.func43, Try.ntmps43
    go_wp2_with fail
    rw [EN.out]
    refine (shift_c m n H2.out b1 b2 _).mono ?_
    rintro e w' ⟨rfl, k, rfl⟩
    rw [← HQ.out] at N L ⊢
    clear EN HQ
    have hW : Hd (W64 (min q 9218868437227405312)) := ⟨by unfold W64; omega⟩
    go_wp2_with (go_at_call 52; refine (power_c _ _ _ L.out (by omega) P.out _).mono ?_; rintro e w' ⟨rfl, n2, rfl⟩)
    go_ret
    exact ⟨_, ⟨q, rfl, 0, n, by omega, by rw [Nat.pow_zero, Nat.mul_one]; exact N.out⟩, hW.out, rfl, _, rfl⟩
  · obtain ⟨a, ha⟩ : ∃ a : Nat, e + 1074 = (a : Int) := ⟨(e + 1074).toNat, by omega⟩
    have mm : Fd.mg (Fd.dbls a m) = m * 2 ^ a := by rw [Fd.mg_dbls, Fd.mg_small (by omega)]
    have P : Hd (Fd.PW m e (Fd.dbls a m)) := ⟨⟨a, 0, by omega, by rw [mm, Nat.pow_zero, Nat.mul_one]⟩⟩
    have R : Hd (∃ R, min (Fd.dbls a m) 9218868437227405312 = min R 9218868437227405312 ∧ ∃ a b : Nat, e + 1074 = (a : Int) - b ∧ Fd.Near (m * 2 ^ a) (2 ^ b) R) :=
      ⟨⟨_, rfl, a, 0, by omega, by rw [Nat.pow_zero]; exact Fd.near_one_exact mm.symm⟩⟩
    have L : Hd (m ≤ 9007199254740992) := ⟨by omega⟩
    have hW : Hd (W64 (min (Fd.dbls a m) 9218868437227405312)) := ⟨by unfold W64; omega⟩
    clear h1 h2 mm ha
    go_enter Try.func43, Try.ntmps43
    go_wp2_with (go_at_call 52; refine (power_c _ _ _ L.out (by omega) P.out _).mono ?_; rintro e w' ⟨rfl, n, rfl⟩)
    go_ret
    exact ⟨_, R.out, hW.out, rfl, _, rfl⟩
set_option maxHeartbeats 1000000 in
theorem sLdexp_c (x : Nat) (k : Int) (hx : W64 x) (w : World) : Calls Try.prog 16 #[.float .f64 x, .int .i64 k] w (RF (Fd.LD x k) w) := by
  rcases kind4 x with ⟨h0, h1, q1, q2, q3, q4, q5⟩ | ⟨a, q1, q2, q3, q4, _⟩ | ⟨a, q1, q2, q3, q4, _⟩ | ⟨a, q1, q2, q3, q4, _⟩
  · have H0 := Hd.mk h0
    have H1 := Hd.mk h1
    have sz : Fd.sizeV x = Fd.rg x := Fd.sizeV_num q3
    have ng : Fd.negV x = Fd.sg x := Fd.negV_num q3
    have FIN : Hd (∀ m j (k' : Int) v, Fd.PQ (Fd.rg x) m j → (k' = k ∨ (2098 ≤ k ∧ 2098 ≤ k') ∨ (k ≤ -2099 ∧ k' ≤ -2099)) → (∃ R, v = min R 9218868437227405312 ∧ ∃ a b : Nat, j + k' + 1074 = (a : Int) - b ∧ Fd.Near (m * 2 ^ a) (2 ^ b) R) → Fd.LD x k (Fd.sgnV (Fd.sg x) v)) := by
      constructor
      rintro m j k' v pq hk ⟨R, rfl, hab⟩
      have lq := Fd.lq_frac pq hab
      have l : Fd.LD x k' (Fd.sgnV (Fd.sg x) (min R 9218868437227405312)) := Or.inl ⟨h0, h1, R, lq, by rw [Fd.wd_sgn (by omega)]⟩
      rcases hk with rfl | hk
      · exact l
      · exact Fd.ld_clamp (by omega) l (Fd.lq_exists _ _)
    clear h0 h1
    rcases (by omega : 10000 < k ∨ (k ≤ 10000 ∧ k < -10000) ∨ (k ≤ 10000 ∧ -10000 ≤ k)) with c | ⟨c1, c2⟩ | ⟨c1, c2⟩
    all_goals
      go_enter Try.func16, Try.ntmps16
      go_wp2_with (first | (go_at_call 39; refine (isFinite_c _ _).mono ?_; rintro e w' ⟨rfl, n, rfl⟩) | (go_at_call 40; refine (size_c _ hx _).mono ?_; rintro e w' ⟨rfl, n, rfl⟩))
      refine (parts_c _ H0.out H1.out _).mono ?_
      rintro e w' ⟨m, j, pq, rfl, n, rfl⟩
      obtain ⟨hj1, hj2⟩ := Fd.pq_bound H0.out H1.out pq
      have PQ := Hd.mk pq
      clear pq
      go_wp2_with (go_at_call 42; refine (isNegative_c _ hx _).mono ?_; rintro e w' ⟨rfl, n, rfl⟩)
      refine (scaled_c m _ PQ.out.low PQ.out.high (by omega) _).mono ?_
      rintro e w' ⟨v, hv, hW, rfl, n, rfl⟩
      have HV := Hd.mk hv
      clear hv
      go_wp2_with (go_at_call 41; refine (signed_c _ _ hW _).mono ?_; rintro e w' ⟨rfl, n, rfl⟩)
      go_ret
    · exact ⟨_, FIN.out m j 10000 v PQ.out (by omega) HV.out, W_sgn _ hW, rfl, _, rfl⟩
    · exact ⟨_, FIN.out m j (-10000) v PQ.out (by omega) (by obtain ⟨R, e1, a, b, e2, e3⟩ := HV.out; exact ⟨R, e1, a, b, by omega, e3⟩), W_sgn _ hW, rfl, _, rfl⟩
    · exact ⟨_, FIN.out m j k v PQ.out (Or.inl rfl) HV.out, W_sgn _ hW, rfl, _, rfl⟩
  all_goals
    have R : Hd (Fd.LD x k x) := ⟨Or.inr ⟨by omega, rfl⟩⟩
    clear a
    go_enter Try.func16, Try.ntmps16
    go_wp2_with (go_at_call 39; refine (isFinite_c _ _).mono ?_; rintro e w' ⟨rfl, n, rfl⟩)
    go_ret
    exact ⟨_, R.out, hx, rfl, _, rfl⟩

end Go.Proofs.Ytjfoiicooleeiaa
