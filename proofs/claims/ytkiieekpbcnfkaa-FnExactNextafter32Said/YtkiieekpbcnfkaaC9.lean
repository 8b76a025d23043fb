/- Contracts of the reference's following and Nextafter; conditions: as told in each line. -/
import Derived.Test.YtkiieekpbcnfkaaC8
import Derived.Test.YtkiieekpbcnfkaaC4
import Derived.Deep.Cut
namespace Go.Proofs.Ytkiieekpbcnfkaa
open Go.RowKit

theorem pos_facts {r : Nat} (h0 : 0 < r) (h2 : r < 9218868437227405312) : eqF .f64 r 0 = false ∧ Fd.isInf r = false := by
  refine ⟨by rw [eq_words (by omega) (by omega)]; simp; omega, ?_⟩
  unfold Fd.isInf; rw [(pos_word (x := r) (by omega)).2]; simp; omega
theorem power_at (X : Int) (M r : Nat) (k : Int) (hX : X = (M : Int)) (hm : M ≤ 9007199254740992) (hk : -100000 ≤ k ∧ k ≤ 100000) (hr : Fd.PW M k r) (hI : r ≤ 9218868437227405312) (w : World) :
    Calls Try.prog 52 #[.int .u64 X, .int .i64 k] w (RV (.float .f64 r) w) := by
  subst hX
  have := power_c M r k hm hk hr w
  rw [Nat.min_eq_left hI] at this
  exact this
theorem pw_at {M r e : Nat} {k : Int} (h : r = e * 4503599627370496 + M) (hM : (e = 0 ∧ M ≤ 9007199254740992) ∨ (4503599627370496 ≤ M ∧ M ≤ 9007199254740992)) (hk : k + 1074 = e) : Fd.PW M k r :=
  ⟨e, 0, by omega, by rw [h, Fd.mg_at hM, Nat.pow_zero, Nat.mul_one]⟩
set_option maxHeartbeats 1000000 in
theorem foll64_norm (r : Nat) (g : Bool) (h1 : 4503599627370496 ≤ r) (h2 : r < 9218868437227405312) (w : World) :
    Calls Try.prog 48 #[.float .f64 r, .bool g, .int .i64 53, .int .i64 (-1074)] w (RV (.float .f64 (if g then r + 1 else r - 1)) w) := by
  obtain ⟨z, hi⟩ := pos_facts (r := r) (by omega) h2
  have HU : Hd (∀ m k, Fd.PQ r m k → m = 4503599627370496 + r % 4503599627370496 ∧ k = ((r / 4503599627370496 : Nat) : Int) - 1075) := ⟨fun m k h => Fd.pq_unique h (Fd.pq_norm h1)⟩
  have H1 := Hd.mk h1
  have H2 := Hd.mk h2
  clear h1 h2
  cases g
  all_goals
    go_enter Try.func48, Try.ntmps48
    go_wp2_with (go_at_call 51; refine (isInfinity_c _ _).mono ?_; rintro e w' ⟨rfl, n, rfl⟩)
    refine (parts_c _ (by have := H1.out; omega) H2.out _).mono ?_
    rintro e w' ⟨m, k, pq, rfl, n, rfl⟩
    obtain ⟨em, ek⟩ := HU.out m k pq
    have hk1 : -1074 ≤ k := by have := H1.out; have := H2.out; omega
    have hk2 : k ≤ 971 := by have := H1.out; have := H2.out; omega
    have EM := Hd.mk em
    have EK := Hd.mk ek
    clear em ek HU pq
    go_wp2_with fail
  · have c1 : (m : Int) = 4503599627370496 := by assumption
    have c2 : -1074 < k := by assumption
    refine (power_at _ 9007199254740991 (r - 1) _ rfl (by omega) (by omega) (pw_at (e := (k + 1074 - 1).toNat) ?_ (by omega) (by omega)) (by have := H2.out; omega) _).mono ?_
    · have := EM.out; have := EK.out; have := H1.out; omega
    · rintro e w' ⟨rfl, n, rfl⟩
      clear c1
      go_wp2
      go_ret
      exact ⟨rfl, _, rfl⟩
  · have c1 : (m : Int) = 4503599627370496 := by assumption
    have c2 : k ≤ -1074 := by assumption
    refine (power_at _ 4503599627370495 (r - 1) _ rfl (by omega) (by omega) (pw_at (e := 0) ?_ (by omega) (by omega)) (by have := H2.out; omega) _).mono ?_
    · have := EM.out; have := EK.out; have := H1.out; omega
    · rintro e w' ⟨rfl, n, rfl⟩
      clear c1
      go_wp2
      go_ret
      exact ⟨rfl, _, rfl⟩
  · have c1 : ¬ (m : Int) = 4503599627370496 := by assumption
    refine (power_at _ (m - 1) (r - 1) _ ?_ (by have := EM.out; omega) (by omega) (pw_at (e := (k + 1074).toNat) ?_ (by have := EM.out; omega) (by omega)) (by have := H2.out; omega) _).mono ?_
    · have := EM.out; rw [IntKind.wrap_u64]; omega
    · have := EM.out; have := EK.out; have := H1.out; omega
    · rintro e w' ⟨rfl, n, rfl⟩
      clear c1
      go_wp2
      go_ret
      exact ⟨rfl, _, rfl⟩
  · refine (power_at _ (m + 1) (r + 1) _ ?_ (by have := EM.out; omega) (by omega) (pw_at (e := (k + 1074).toNat) ?_ (by have := EM.out; omega) (by omega)) (by have := H2.out; omega) _).mono ?_
    · have := EM.out; rw [IntKind.wrap_u64]; omega
    · have := EM.out; have := EK.out; have := H1.out; omega
    · rintro e w' ⟨rfl, n, rfl⟩
      go_wp2
      go_ret
      exact ⟨rfl, _, rfl⟩
set_option maxHeartbeats 1000000 in
theorem foll64_sub (r : Nat) (g : Bool) (h0 : 0 < r) (h1 : r < 4503599627370496) (w : World) :
    Calls Try.prog 48 #[.float .f64 r, .bool g, .int .i64 53, .int .i64 (-1074)] w (RV (.float .f64 (if g then r + 1 else r - 1)) w) := by
  obtain ⟨z, hi⟩ := pos_facts (r := r) h0 (by omega)
  obtain ⟨l1, l2, l3⟩ := log_frac h0 h1
  obtain ⟨j, hj⟩ : ∃ j, j = 52 - r.log2 := ⟨_, rfl⟩
  have HU : Hd (∀ m k, Fd.PQ r m k → m = r * 2 ^ j ∧ k = -1074 - (j : Int)) := ⟨fun m k h => by have := Fd.pq_unique h (Fd.pq_sub h0 h1); rw [← hj] at this; exact this⟩
  have hj1 : 1 ≤ j := by omega
  have hj2 : j ≤ 52 := by omega
  have H1 := Hd.mk h1
  have H0 := Hd.mk h0
  clear h1 hj l1 l2 l3 h0
  cases g
  all_goals
    go_enter Try.func48, Try.ntmps48
    go_wp2_with (go_at_call 51; refine (isInfinity_c _ _).mono ?_; rintro e w' ⟨rfl, n, rfl⟩)
    refine (parts_c _ H0.out (by have := H1.out; omega) _).mono ?_
    rintro e w' ⟨m, k, pq, rfl, n, rfl⟩
    obtain ⟨em, ek⟩ := HU.out m k pq
    subst ek
    have EV : Hd ((m : Int) / 2 ^ ((-1074 : Int) - (-1074 - (j : Int))).toNat = (r : Int)) := ⟨shr_frac em (by omega)⟩
    clear em HU pq
    go_upto_region 10 with (fail)
    rw [EV.out]
    clear EV
    have t1 : ((r : Int) == 4503599627370496) = false := by have := H1.out; simp; omega
    go_wp2_with fail
    clear t1
  · refine (power_at _ (r - 1) (r - 1) _ ?_ (by have := H1.out; omega) (by omega) (pw_at (e := 0) (by omega) (by have := H1.out; omega) (by omega)) (by have := H1.out; omega) _).mono ?_
    · have := H1.out; have := H0.out; rw [IntKind.wrap_u64]; omega
    · rintro e w' ⟨rfl, n, rfl⟩
      go_wp2
      go_ret
      exact ⟨rfl, _, rfl⟩
  · refine (power_at _ (r + 1) (r + 1) _ ?_ (by have := H1.out; omega) (by omega) (pw_at (e := 0) (by omega) (by have := H1.out; omega) (by omega)) (by have := H1.out; omega) _).mono ?_
    · have := H1.out; rw [IntKind.wrap_u64]; omega
    · rintro e w' ⟨rfl, n, rfl⟩
      go_wp2
      go_ret
      exact ⟨rfl, _, rfl⟩

/-- the rung after or before a rung -/
def follV (g : Bool) (r : Nat) : Nat := if r = 0 then 1 else if r = 9218868437227405312 then 9218868437227405311 else if g then r + 1 else r - 1
set_option maxHeartbeats 1000000 in
theorem foll64_c (r : Nat) (g : Bool) (h2 : r ≤ 9218868437227405312) (w : World) :
    Calls Try.prog 48 #[.float .f64 r, .bool g, .int .i64 53, .int .i64 (-1074)] w (RV (.float .f64 (follV g r)) w) := by
  by_cases z : r = 0
  · subst z
    have t : eqF .f64 0 0 = true := by decide +kernel
    go_enter Try.func48, Try.ntmps48
    go_wp2_with fail
    refine (power_at _ 1 1 _ rfl (by omega) (by omega) (pw_at (e := 0) (by omega) (by omega) (by omega)) (by omega) _).mono ?_
    rintro e w' ⟨rfl, n, rfl⟩
    go_wp2
    go_ret
    exact ⟨rfl, _, rfl⟩
  · by_cases i : r = 9218868437227405312
    · subst i
      have t : eqF .f64 9218868437227405312 0 = false := by decide +kernel
      have ti : Fd.isInf 9218868437227405312 = true := by decide
      go_enter Try.func48, Try.ntmps48
      go_wp2_with (go_at_call 51; refine (isInfinity_c _ _).mono ?_; rintro e w' ⟨rfl, n, rfl⟩)
      refine (power_at _ 9007199254740991 9218868437227405311 _ rfl (by omega) (by omega) (pw_at (e := 2045) (by omega) (by omega) (by omega)) (by omega) _).mono ?_
      rintro e w' ⟨rfl, n, rfl⟩
      go_wp2
      go_ret
      exact ⟨rfl, _, rfl⟩
    · have e : follV g r = if g then r + 1 else r - 1 := by unfold follV; rw [if_neg z, if_neg i]
      rw [e]
      rcases Nat.lt_or_ge r 4503599627370496 with c | c
      · exact foll64_sub r g (by omega) c w
      · exact foll64_norm r g c (by omega) w
/-- a rung of 32 bits as one of 64, also beyond the greatest number -/
def embu (q : Nat) : Nat := Fd.dbls (Fs.fp q + n925) (Fs.fm q)
theorem embu_emb {q : Nat} (h : q < 2139095040) : embu q = emb q := by unfold embu emb; rw [if_pos h]
theorem mg_embu (q : Nat) : Fd.mg (embu q) = Fs.mg q * 2 ^ n925 := by
  have := Fs.fm_lt q
  unfold embu
  rw [Fd.mg_dbls' _ _ (by omega), Fs.mg_fm, Nat.pow_add]; grind
theorem embu_lt {q : Nat} (h : q ≤ 2139095040) : embu q < 9218868437227405312 := by
  apply Fd.mg_lt_iff.1
  obtain ⟨a, ha⟩ : ∃ a : Nat, a = 2046 := ⟨_, rfl⟩
  obtain ⟨b, hb⟩ : ∃ b : Nat, b = 254 := ⟨_, rfl⟩
  rw [mg_embu, Fd.mg_inf ha]
  have h1 : Fs.mg q ≤ 2 ^ (b + 23) := by rw [← Fs.mg_inf hb]; exact Fs.mg_le h
  have h2 : Fs.mg q * 2 ^ n925 ≤ 2 ^ (b + 23) * 2 ^ n925 := Nat.mul_le_mul_right _ h1
  rw [Fd.pow_sum] at h2
  have := n925_eq
  exact Nat.lt_of_le_of_lt h2 (Fd.pow_lt_iff.2 (by omega))
theorem embu_mono {a b : Nat} (h : a < b) : embu a < embu b := by
  apply Fd.mg_lt_iff.1
  rw [mg_embu, mg_embu]
  exact Nat.mul_lt_mul_of_pos_right (Fs.mg_lt h) (Nat.two_pow_pos _)
theorem pw32_at {M q e : Nat} {k : Int} (h : q = e * 8388608 + M) (hM : (e = 0 ∧ M ≤ 16777216) ∨ (8388608 ≤ M ∧ M ≤ 16777216)) (hk : k + 149 = e) : Fd.PW M k (embu q) := by
  have := n925_eq
  refine ⟨e + n925, 0, by omega, ?_⟩
  rw [mg_embu, h, Fs.mg_at hM, Nat.pow_zero, Nat.mul_one, Nat.pow_add, Nat.mul_assoc]
theorem pw32_top : Fd.PW 1 128 (embu 2139095040) := by
  obtain ⟨b, hb⟩ : ∃ b : Nat, b = 254 := ⟨_, rfl⟩
  have := n925_eq
  refine ⟨b + 23 + n925, 0, by omega, ?_⟩
  rw [mg_embu, Fs.mg_inf hb, Nat.pow_zero, Nat.mul_one, Fd.pow_sum, Nat.one_mul]
set_option maxHeartbeats 1000000 in
theorem foll32_norm (q : Nat) (g : Bool) (h1 : 8388608 ≤ q) (h2 : q < 2139095040) (w : World) :
    Calls Try.prog 48 #[.float .f64 (emb q), .bool g, .int .i64 24, .int .i64 (-149)] w (RV (.float .f64 (embu (if g then q + 1 else q - 1))) w) := by
  obtain ⟨p1, p2⟩ := emb_pos (q := q) (by omega) h2
  obtain ⟨z, hi⟩ := pos_facts p1 p2
  have HU : Hd (∀ m k, Fd.PQ (emb q) m k → m = (8388608 + q % 8388608) * 536870912 ∧ k = ((q / 8388608 : Nat) : Int) - 179) := ⟨fun m k h => Fd.pq_unique h (emb_norm h1 h2)⟩
  have P1 := Hd.mk p1
  have P2 := Hd.mk p2
  have H1 := Hd.mk h1
  have H2 := Hd.mk h2
  obtain ⟨M, hM⟩ : ∃ M, M = 8388608 + q % 8388608 := ⟨_, rfl⟩
  have HM := Hd.mk hM
  obtain ⟨x, hx⟩ : ∃ x, x = emb q := ⟨_, rfl⟩
  rw [← hx] at z hi HU P1 P2 ⊢
  clear h1 h2 p1 p2 hM hx
  cases g
  all_goals
    go_enter Try.func48, Try.ntmps48
    go_wp2_with (go_at_call 51; refine (isInfinity_c _ _).mono ?_; rintro e w' ⟨rfl, n, rfl⟩)
    refine (parts_c _ P1.out P2.out _).mono ?_
    rintro e w' ⟨m, k, pq, rfl, n, rfl⟩
    obtain ⟨em, ek⟩ := HU.out m k pq
    have hk1 : -178 ≤ k := by have := H1.out; have := H2.out; omega
    have hk2 : k ≤ 75 := by have := H1.out; have := H2.out; omega
    have EV : Hd ((m : Int) / 2 ^ (k + 53 - 24 - k).toNat = (M : Int)) := by
      constructor
      refine shr_frac (j := 29) ?_ (by omega)
      rw [em, HM.out]
    have EK := Hd.mk ek
    clear em ek HU pq
    go_upto_region 10 with (fail)
    rw [EV.out]
    clear EV
    go_wp2_with fail
  · have c1 : (M : Int) = 8388608 := by assumption
    refine (power_at _ 16777215 (embu (q - 1)) _ rfl (by omega) (by omega) (pw32_at (e := (k + 53 - 24 - 1 + 149).toNat) ?_ (by omega) (by omega)) ?_ _).mono ?_
    · have := HM.out; have := EK.out; have := H1.out; omega
    · have := H2.out; exact Nat.le_of_lt (embu_lt (by omega))
    · rintro e w' ⟨rfl, n, rfl⟩
      clear c1
      go_wp2
      go_ret
      exact ⟨rfl, _, rfl⟩
  · have c1 : (M : Int) = 8388608 := by assumption
    refine (power_at _ 8388607 (embu (q - 1)) _ rfl (by omega) (by omega) (pw32_at (e := 0) ?_ (by omega) (by omega)) ?_ _).mono ?_
    · have := HM.out; have := EK.out; have := H1.out; omega
    · have := H2.out; exact Nat.le_of_lt (embu_lt (by omega))
    · rintro e w' ⟨rfl, n, rfl⟩
      clear c1
      go_wp2
      go_ret
      exact ⟨rfl, _, rfl⟩
  · have c1 : ¬ (M : Int) = 8388608 := by assumption
    refine (power_at _ (M - 1) (embu (q - 1)) _ ?_ (by have := HM.out; omega) (by omega) (pw32_at (e := (k + 53 - 24 + 149).toNat) ?_ (by have := HM.out; omega) (by omega)) ?_ _).mono ?_
    · have := HM.out; first | (rw [IntKind.wrap_u64]; omega) | omega
    · have := HM.out; have := EK.out; have := H1.out; omega
    · have := H2.out; exact Nat.le_of_lt (embu_lt (by omega))
    · rintro e w' ⟨rfl, n, rfl⟩
      clear c1
      go_wp2
      go_ret
      exact ⟨rfl, _, rfl⟩
  · refine (power_at _ (M + 1) (embu (q + 1)) _ ?_ (by have := HM.out; omega) (by omega) (pw32_at (e := (k + 53 - 24 + 149).toNat) ?_ (by have := HM.out; omega) (by omega)) ?_ _).mono ?_
    · have := HM.out; first | (rw [IntKind.wrap_u64]; omega) | omega
    · have := HM.out; have := EK.out; have := H1.out; omega
    · have := H2.out; exact Nat.le_of_lt (embu_lt (by omega))
    · rintro e w' ⟨rfl, n, rfl⟩
      go_wp2
      go_ret
      exact ⟨rfl, _, rfl⟩
set_option maxHeartbeats 1000000 in
theorem foll32_sub (q : Nat) (g : Bool) (h0 : 0 < q) (h1 : q < 8388608) (w : World) :
    Calls Try.prog 48 #[.float .f64 (emb q), .bool g, .int .i64 24, .int .i64 (-149)] w (RV (.float .f64 (embu (if g then q + 1 else q - 1))) w) := by
  obtain ⟨p1, p2⟩ := emb_pos (q := q) h0 (by omega)
  obtain ⟨z, hi⟩ := pos_facts p1 p2
  obtain ⟨pq0, l⟩ := emb_sub h0 h1
  obtain ⟨j, hj⟩ : ∃ j, j = 52 - q.log2 := ⟨_, rfl⟩
  rw [← hj] at pq0 l
  have HU : Hd (∀ m k, Fd.PQ (emb q) m k → m = q * 2 ^ j ∧ k = -149 - (j : Int)) := ⟨fun m k h => Fd.pq_unique h pq0⟩
  have hj2 : j ≤ 52 := by omega
  have P1 := Hd.mk p1
  have P2 := Hd.mk p2
  have H1 := Hd.mk h1
  have H0 := Hd.mk h0
  obtain ⟨x, hx⟩ : ∃ x, x = emb q := ⟨_, rfl⟩
  rw [← hx] at z hi HU P1 P2 ⊢
  clear h1 h0 hj p1 p2 pq0 hx
  cases g
  all_goals
    go_enter Try.func48, Try.ntmps48
    go_wp2_with (go_at_call 51; refine (isInfinity_c _ _).mono ?_; rintro e w' ⟨rfl, n, rfl⟩)
    refine (parts_c _ P1.out P2.out _).mono ?_
    rintro e w' ⟨m, k, pq, rfl, n, rfl⟩
    obtain ⟨em, ek⟩ := HU.out m k pq
    subst ek
    have EV : Hd ((m : Int) / 2 ^ ((-149 : Int) - (-149 - (j : Int))).toNat = (q : Int)) := ⟨shr_frac em (by omega)⟩
    clear em HU pq
    go_upto_region 10 with (fail)
    rw [EV.out]
    clear EV
    have t1 : ((q : Int) == 8388608) = false := by have := H1.out; simp; omega
    go_wp2_with fail
    clear t1
  · refine (power_at _ (q - 1) (embu (q - 1)) _ ?_ (by have := H1.out; omega) (by omega) (pw32_at (e := 0) (by omega) (by have := H1.out; omega) (by omega)) ?_ _).mono ?_
    · have := H1.out; have := H0.out; first | (rw [IntKind.wrap_u64]; omega) | omega
    · have := H1.out; exact Nat.le_of_lt (embu_lt (by omega))
    · rintro e w' ⟨rfl, n, rfl⟩
      go_wp2
      go_ret
      exact ⟨rfl, _, rfl⟩
  · refine (power_at _ (q + 1) (embu (q + 1)) _ ?_ (by have := H1.out; omega) (by omega) (pw32_at (e := 0) (by omega) (by have := H1.out; omega) (by omega)) ?_ _).mono ?_
    · have := H1.out; first | (rw [IntKind.wrap_u64]; omega) | omega
    · have := H1.out; exact Nat.le_of_lt (embu_lt (by omega))
    · rintro e w' ⟨rfl, n, rfl⟩
      go_wp2
      go_ret
      exact ⟨rfl, _, rfl⟩
theorem foll32_c (q : Nat) (g : Bool) (h0 : 0 < q) (h2 : q < 2139095040) (w : World) :
    Calls Try.prog 48 #[.float .f64 (emb q), .bool g, .int .i64 24, .int .i64 (-149)] w (RV (.float .f64 (embu (if g then q + 1 else q - 1))) w) := by
  rcases Nat.lt_or_ge q 8388608 with c | c
  · exact foll32_sub q g h0 c w
  · exact foll32_norm q g c h2 w
theorem foll32_zero (w : World) :
    Calls Try.prog 48 #[.float .f64 0, .bool true, .int .i64 24, .int .i64 (-149)] w (RV (.float .f64 (emb 1)) w) := by
  have t : eqF .f64 0 0 = true := by decide +kernel
  go_enter Try.func48, Try.ntmps48
  go_wp2_with fail
  refine (power_at _ 1 (embu 1) _ rfl (by omega) (by omega) (pw32_at (e := 0) (by omega) (by omega) (by omega)) (Nat.le_of_lt (embu_lt (by omega))) _).mono ?_
  rintro e w' ⟨rfl, n, rfl⟩
  go_wp2
  go_ret
  exact ⟨ret_float (embu_emb (by omega)), _, rfl⟩

end Go.Proofs.Ytkiieekpbcnfkaa
