/- Contracts of Ilogb, Logb and the reference's Ilogb, Logb, Frexp; no condition but that the arguments are words. -/
import Derived.Test.YtkiieekpbcnfkaaCL
namespace Go.Proofs.Ytkiieekpbcnfkaa
open Go.RowKit

/-- the four kinds of a word, with the tests' answers -/
theorem kind4 (x : Nat) :
    (0 < Fd.rg x ∧ Fd.rg x < 9218868437227405312 ∧ eqF .f64 x 0 = false ∧ Fd.infV x 0 = false ∧ Fd.nan x = false ∧ Fd.fin x = true ∧ Fd.isInf x = false) ∨
    (Fd.rg x = 0 ∧ eqF .f64 x 0 = true ∧ Fd.infV x 0 = false ∧ Fd.nan x = false ∧ Fd.fin x = true ∧ Fd.isInf x = false) ∨
    (Fd.rg x = 9218868437227405312 ∧ eqF .f64 x 0 = false ∧ Fd.infV x 0 = true ∧ Fd.nan x = false ∧ Fd.fin x = false ∧ Fd.isInf x = true) ∨
    (9218868437227405312 < Fd.rg x ∧ eqF .f64 x 0 = false ∧ Fd.infV x 0 = false ∧ Fd.nan x = true ∧ Fd.fin x = false ∧ Fd.isInf x = false) := by
  have k0 : Fd.key 0 = 0 := by decide
  have n0 : Fd.nan 0 = false := by decide
  have i0 : Fd.infV x 0 = decide (Fd.rg x = 9218868437227405312) := rfl
  have fi : Fd.fin x = decide (Fd.rg x < 9218868437227405312) := rfl
  have ii : Fd.isInf x = decide (Fd.rg x = 9218868437227405312) := rfl
  have ni : Fd.nan x = decide (9218868437227405312 < Fd.rg x) := rfl
  have kx : Fd.key x = if Fd.sg x then -(Fd.rg x : Int) else Fd.rg x := rfl
  rw [i0, fi, ii, eq64, n0, k0, ni, kx]
  cases Fd.sg x <;> simp <;> omega

/-- what Ilogb gives -/
def IQ (x : Nat) (i : Int) : Prop :=
  (Fd.rg x = 0 ∧ i = -2147483648) ∨ (9218868437227405312 ≤ Fd.rg x ∧ i = 2147483647) ∨ (0 < Fd.rg x ∧ Fd.rg x < 9218868437227405312 ∧ ∃ m k, Fd.PQ (Fd.rg x) m k ∧ i = k + 52)
def RIQ (Q : Int → Prop) (w : World) (e : Ending) (w' : World) : Prop := ∃ i, Q i ∧ e = .returned (.int .i64 i) ∧ ∃ n, w' = w.drewN n
set_option maxHeartbeats 1000000 in
theorem mIlogb_c (x : Nat) (hx : W64 x) (w : World) : Calls Try.prog 58 #[.float .f64 x] w (RIQ (IQ x) w) := by
  rcases kind4 x with ⟨a, b, q1, q2, q3, _, _⟩ | ⟨a, q1, q2, q3, _, _⟩ | ⟨a, q1, q2, q3, _, _⟩ | ⟨a, q1, q2, q3, _, _⟩
  · have A := Hd.mk a
    have B := Hd.mk b
    clear a b
    go_enter Try.func58, Try.ntmps58
    go_wp2_with (first | (go_at_call 64; refine (mIsInf_c _ _ hx _).mono ?_; rintro e w' ⟨rfl, n, rfl⟩) | (go_at_call 61; refine (mIsNaN_c _ _).mono ?_; rintro e w' ⟨rfl, n, rfl⟩) | (go_at_call 65; refine (milogb_c x hx A.out B.out _).mono ?_; rintro e w' ⟨m, k, pq, rfl, n, rfl⟩))
    go_ret
    exact ⟨_, Or.inr (Or.inr ⟨A.out, B.out, m, k, pq, rfl⟩), rfl, _, rfl⟩
  · have A : Hd (IQ x (-2147483648)) := ⟨Or.inl ⟨a, rfl⟩⟩
    clear a
    go_enter Try.func58, Try.ntmps58
    go_wp2_with (first | (go_at_call 64; refine (mIsInf_c _ _ hx _).mono ?_; rintro e w' ⟨rfl, n, rfl⟩) | (go_at_call 61; refine (mIsNaN_c _ _).mono ?_; rintro e w' ⟨rfl, n, rfl⟩))
    go_ret
    exact ⟨_, A.out, rfl, 0, rfl⟩
  · have A : Hd (IQ x 2147483647) := ⟨Or.inr (Or.inl ⟨by omega, rfl⟩)⟩
    clear a
    go_enter Try.func58, Try.ntmps58
    go_wp2_with (first | (go_at_call 64; refine (mIsInf_c _ _ hx _).mono ?_; rintro e w' ⟨rfl, n, rfl⟩) | (go_at_call 61; refine (mIsNaN_c _ _).mono ?_; rintro e w' ⟨rfl, n, rfl⟩))
    go_ret
    exact ⟨_, A.out, rfl, _, rfl⟩
  · have A : Hd (IQ x 2147483647) := ⟨Or.inr (Or.inl ⟨by omega, rfl⟩)⟩
    clear a
    go_enter Try.func58, Try.ntmps58
    go_wp2_with (first | (go_at_call 64; refine (mIsInf_c _ _ hx _).mono ?_; rintro e w' ⟨rfl, n, rfl⟩) | (go_at_call 61; refine (mIsNaN_c _ _).mono ?_; rintro e w' ⟨rfl, n, rfl⟩))
    go_ret
    exact ⟨_, A.out, rfl, _, rfl⟩
theorem iq_unique {x : Nat} {i j : Int} (h : IQ x i) (g : IQ x j) : i = j := by
  rcases h with ⟨a, b⟩ | ⟨a, b⟩ | ⟨a, a', m, k, p, b⟩ <;> rcases g with ⟨c, d⟩ | ⟨c, d⟩ | ⟨c, c', m', k', p', d⟩ <;> try omega
  rw [b, d, (Fd.pq_unique p p').2]
theorem iIlogb_c (x : Nat) (hx : W64 x) (w : World) : Calls Try.prog 31 #[.float .f64 x] w (RIQ (IQ x) w) := by
  go_enter Try.func31, Try.ntmps31
  go_wp2_with (first | (go_at_call 58; refine (mIlogb_c x hx _).mono ?_; rintro e w' ⟨i, hi, rfl, n, rfl⟩))
  go_ret
  exact ⟨_, hi, rfl, _, rfl⟩
set_option maxHeartbeats 1000000 in
theorem sIlogb_c (x : Nat) (hx : W64 x) (w : World) : Calls Try.prog 30 #[.float .f64 x] w (RIQ (IQ x) w) := by
  rcases kind4 x with ⟨a, b, q1, q2, q3, q4, _⟩ | ⟨a, q1, q2, q3, q4, _⟩ | ⟨a, q1, q2, q3, q4, _⟩ | ⟨a, q1, q2, q3, q4, _⟩
  · have A := Hd.mk a
    have B := Hd.mk b
    have sz : Fd.sizeV x = Fd.rg x := Fd.sizeV_num q3
    clear a b
    go_enter Try.func30, Try.ntmps30
    go_wp2_with (first | (go_at_call 56; refine (isFinite_c _ _).mono ?_; rintro e w' ⟨rfl, n, rfl⟩) | (go_at_call 49; refine (size_c _ hx _).mono ?_; rintro e w' ⟨rfl, n, rfl⟩))
    refine (parts_c _ A.out B.out _).mono ?_
    rintro e w' ⟨m, k, pq, rfl, n, rfl⟩
    have hk : -1126 ≤ k ∧ k ≤ 971 := Fd.pq_bound A.out B.out pq
    obtain ⟨hk1, hk2⟩ := hk
    go_wp2
    go_ret
    exact ⟨_, Or.inr (Or.inr ⟨A.out, B.out, m, k, pq, rfl⟩), rfl, _, rfl⟩
  · have A : Hd (IQ x (-2147483648)) := ⟨Or.inl ⟨a, rfl⟩⟩
    clear a
    go_enter Try.func30, Try.ntmps30
    go_wp2_with (first | (go_at_call 56; refine (isFinite_c _ _).mono ?_; rintro e w' ⟨rfl, n, rfl⟩))
    go_ret
    exact ⟨_, A.out, rfl, _, rfl⟩
  · have A : Hd (IQ x 2147483647) := ⟨Or.inr (Or.inl ⟨by omega, rfl⟩)⟩
    clear a
    go_enter Try.func30, Try.ntmps30
    go_wp2_with (first | (go_at_call 56; refine (isFinite_c _ _).mono ?_; rintro e w' ⟨rfl, n, rfl⟩))
    go_ret
    exact ⟨_, A.out, rfl, _, rfl⟩
  · have A : Hd (IQ x 2147483647) := ⟨Or.inr (Or.inl ⟨by omega, rfl⟩)⟩
    clear a
    go_enter Try.func30, Try.ntmps30
    go_wp2_with (first | (go_at_call 56; refine (isFinite_c _ _).mono ?_; rintro e w' ⟨rfl, n, rfl⟩))
    go_ret
    exact ⟨_, A.out, rfl, _, rfl⟩
theorem i2f_W (n : Int) : W64 (i2f n) := by
  unfold W64 i2f FloatKind.nearest FloatKind.encode
  exact Ieee.Format.write_lt Ieee.double _
/-- what Logb gives -/
def JQ (x r : Nat) : Prop :=
  (Fd.rg x = 0 ∧ r = 18442240474082181120) ∨ (Fd.rg x = 9218868437227405312 ∧ r = 9218868437227405312) ∨ (9218868437227405312 < Fd.rg x ∧ r = x) ∨ (0 < Fd.rg x ∧ Fd.rg x < 9218868437227405312 ∧ ∃ m k, Fd.PQ (Fd.rg x) m k ∧ r = i2f (k + 52))
theorem jq_unique {x : Nat} {i j : Nat} (h : JQ x i) (g : JQ x j) : i = j := by
  rcases h with ⟨a, b⟩ | ⟨a, b⟩ | ⟨a, b⟩ | ⟨a, a', m, k, p, b⟩ <;> rcases g with ⟨c, d⟩ | ⟨c, d⟩ | ⟨c, d⟩ | ⟨c, c', m', k', p', d⟩ <;> try omega
  rw [b, d, (Fd.pq_unique p p').2]
set_option maxHeartbeats 1000000 in
theorem mLogb_c (x : Nat) (hx : W64 x) (w : World) : Calls Try.prog 59 #[.float .f64 x] w (RF (JQ x) w) := by
  rcases kind4 x with ⟨a, b, q1, q2, q3, _, _⟩ | ⟨a, q1, q2, q3, _, _⟩ | ⟨a, q1, q2, q3, _, _⟩ | ⟨a, q1, q2, q3, _, _⟩
  · have A := Hd.mk a
    have B := Hd.mk b
    clear a b
    go_enter Try.func59, Try.ntmps59
    go_wp2_with (first | (go_at_call 64; refine (mIsInf_c _ _ hx _).mono ?_; rintro e w' ⟨rfl, n, rfl⟩) | (go_at_call 61; refine (mIsNaN_c _ _).mono ?_; rintro e w' ⟨rfl, n, rfl⟩) | (go_at_call 65; refine (milogb_c x hx A.out B.out _).mono ?_; rintro e w' ⟨m, k, pq, rfl, n, rfl⟩))
    go_ret
    exact ⟨_, Or.inr (Or.inr (Or.inr ⟨A.out, B.out, m, k, pq, rfl⟩)), i2f_W _, rfl, _, rfl⟩
  · have A : Hd (JQ x (Fd.infW (-1))) := ⟨Or.inl ⟨a, rfl⟩⟩
    clear a
    go_enter Try.func59, Try.ntmps59
    go_wp2_with (first | (go_at_call 64; refine (mIsInf_c _ _ hx _).mono ?_; rintro e w' ⟨rfl, n, rfl⟩) | (go_at_call 61; refine (mIsNaN_c _ _).mono ?_; rintro e w' ⟨rfl, n, rfl⟩) | (go_at_call 66; refine (mInf_c _ _).mono ?_; rintro e w' ⟨rfl, n, rfl⟩))
    go_ret
    exact ⟨_, A.out, W_inf _, rfl, _, rfl⟩
  · have A : Hd (JQ x (Fd.infW 1)) := ⟨Or.inr (Or.inl ⟨a, rfl⟩)⟩
    clear a
    go_enter Try.func59, Try.ntmps59
    go_wp2_with (first | (go_at_call 64; refine (mIsInf_c _ _ hx _).mono ?_; rintro e w' ⟨rfl, n, rfl⟩) | (go_at_call 61; refine (mIsNaN_c _ _).mono ?_; rintro e w' ⟨rfl, n, rfl⟩) | (go_at_call 66; refine (mInf_c _ _).mono ?_; rintro e w' ⟨rfl, n, rfl⟩))
    go_ret
    exact ⟨_, A.out, W_inf _, rfl, _, rfl⟩
  · have A : Hd (JQ x x) := ⟨Or.inr (Or.inr (Or.inl ⟨a, rfl⟩))⟩
    clear a
    go_enter Try.func59, Try.ntmps59
    go_wp2_with (first | (go_at_call 64; refine (mIsInf_c _ _ hx _).mono ?_; rintro e w' ⟨rfl, n, rfl⟩) | (go_at_call 61; refine (mIsNaN_c _ _).mono ?_; rintro e w' ⟨rfl, n, rfl⟩))
    go_ret
    exact ⟨_, A.out, hx, rfl, _, rfl⟩
theorem iLogb_c (x : Nat) (hx : W64 x) (w : World) : Calls Try.prog 33 #[.float .f64 x] w (RF (JQ x) w) := by
  go_enter Try.func33, Try.ntmps33
  go_wp2_with (first | (go_at_call 59; refine (mLogb_c x hx _).mono ?_; rintro e w' ⟨r, hr, hW, rfl, n, rfl⟩))
  go_ret
  exact ⟨_, hr, hW, rfl, _, rfl⟩
set_option maxHeartbeats 1000000 in
theorem sLogb_c (x : Nat) (hx : W64 x) (w : World) : Calls Try.prog 32 #[.float .f64 x] w (RF (JQ x) w) := by
  rcases kind4 x with ⟨a, b, q1, q2, q3, q4, q5⟩ | ⟨a, q1, q2, q3, q4, q5⟩ | ⟨a, q1, q2, q3, q4, q5⟩ | ⟨a, q1, q2, q3, q4, q5⟩
  · have A := Hd.mk a
    have B := Hd.mk b
    have sz : Fd.sizeV x = Fd.rg x := Fd.sizeV_num q3
    clear a b
    go_enter Try.func32, Try.ntmps32
    go_wp2_with (first | (go_at_call 45; refine (isNothing_c _ _).mono ?_; rintro e w' ⟨rfl, n, rfl⟩) | (go_at_call 51; refine (isInfinity_c _ _).mono ?_; rintro e w' ⟨rfl, n, rfl⟩) | (go_at_call 49; refine (size_c _ hx _).mono ?_; rintro e w' ⟨rfl, n, rfl⟩))
    refine (parts_c _ A.out B.out _).mono ?_
    rintro e w' ⟨m, k, pq, rfl, n, rfl⟩
    have hk : -1126 ≤ k ∧ k ≤ 971 := Fd.pq_bound A.out B.out pq
    obtain ⟨hk1, hk2⟩ := hk
    go_wp2
    go_ret
    exact ⟨_, Or.inr (Or.inr (Or.inr ⟨A.out, B.out, m, k, pq, rfl⟩)), i2f_W _, rfl, _, rfl⟩
  · have A : Hd (JQ x (Fd.sgnV true 9218868437227405312)) := ⟨Or.inl ⟨a, by decide⟩⟩
    clear a
    go_enter Try.func32, Try.ntmps32
    go_wp2_with (first | (go_at_call 45; refine (isNothing_c _ _).mono ?_; rintro e w' ⟨rfl, n, rfl⟩) | (go_at_call 51; refine (isInfinity_c _ _).mono ?_; rintro e w' ⟨rfl, n, rfl⟩) | (go_at_call 53; refine (infinity_c _ _).mono ?_; rintro e w' ⟨rfl, n, rfl⟩))
    go_ret
    exact ⟨_, A.out, W_sgn _ (by unfold W64; decide), rfl, _, rfl⟩
  · have A : Hd (JQ x (Fd.sgnV false 9218868437227405312)) := ⟨Or.inr (Or.inl ⟨a, rfl⟩)⟩
    clear a
    go_enter Try.func32, Try.ntmps32
    go_wp2_with (first | (go_at_call 45; refine (isNothing_c _ _).mono ?_; rintro e w' ⟨rfl, n, rfl⟩) | (go_at_call 51; refine (isInfinity_c _ _).mono ?_; rintro e w' ⟨rfl, n, rfl⟩) | (go_at_call 53; refine (infinity_c _ _).mono ?_; rintro e w' ⟨rfl, n, rfl⟩))
    go_ret
    exact ⟨_, A.out, W_sgn _ (by unfold W64; decide), rfl, _, rfl⟩
  · have A : Hd (JQ x x) := ⟨Or.inr (Or.inr (Or.inl ⟨a, rfl⟩))⟩
    clear a
    go_enter Try.func32, Try.ntmps32
    go_wp2_with (first | (go_at_call 45; refine (isNothing_c _ _).mono ?_; rintro e w' ⟨rfl, n, rfl⟩))
    go_ret
    exact ⟨_, A.out, hx, rfl, _, rfl⟩
theorem frac_pw {m : Nat} (h1 : 4503599627370496 ≤ m) (h2 : m < 9007199254740992) : Fd.PW m (-53) (1021 * 4503599627370496 + m) :=
  ⟨1021, 0, by omega, by rw [Fd.mg_at (by omega), Nat.pow_zero, Nat.mul_one]⟩
set_option maxHeartbeats 1000000 in
theorem sFrexp_c (x : Nat) (hx : W64 x) (a : 0 < Fd.rg x) (b : Fd.rg x < 9218868437227405312) (w : World) : Calls Try.prog 34 #[.float .f64 x] w (RX x w) := by
  rcases kind4 x with ⟨_, _, q1, q2, q3, q4, q5⟩ | ⟨a', _⟩ | ⟨a', _⟩ | ⟨a', _⟩ <;> try omega
  have A := Hd.mk a
  have B := Hd.mk b
  have sz : Fd.sizeV x = Fd.rg x := Fd.sizeV_num q3
  have ng : Fd.negV x = Fd.sg x := Fd.negV_num q3
  clear a b
  go_enter Try.func34, Try.ntmps34
  go_wp2_with (first | (go_at_call 56; refine (isFinite_c _ _).mono ?_; rintro e w' ⟨rfl, n, rfl⟩) | (go_at_call 49; refine (size_c _ hx _).mono ?_; rintro e w' ⟨rfl, n, rfl⟩))
  refine (parts_c _ A.out B.out _).mono ?_
  rintro e w' ⟨m, k, pq, rfl, n, rfl⟩
  have hk : -1126 ≤ k ∧ k ≤ 971 := Fd.pq_bound A.out B.out pq
  obtain ⟨hk1, hk2⟩ := hk
  have HP := Hd.mk (frac_pw pq.low pq.high)
  have HM : Hd (m ≤ 9007199254740992) := ⟨by have := pq.high; omega⟩
  have hW : W64 (min (1021 * 4503599627370496 + m) 9218868437227405312) := by unfold W64; omega
  have R : Hd (Fd.sgnV (Fd.sg x) (min (1021 * 4503599627370496 + m) 9218868437227405312) = Fd.wd (Fd.sg x) (1021 * 4503599627370496 + m)) := by
    constructor
    have := pq.high
    rw [Nat.min_eq_left (by omega), Fd.wd_sgn (by omega)]
  have PQ := Hd.mk pq
  clear pq
  go_wp2_with (first | (go_at_call 55; refine (isNegative_c _ hx _).mono ?_; rintro e w' ⟨rfl, n, rfl⟩) | (go_at_call 52; refine (power_c _ _ _ HM.out (by omega) HP.out _).mono ?_; rintro e w' ⟨rfl, n, rfl⟩) | (go_at_call 47; refine (signed_c _ _ hW _).mono ?_; rintro e w' ⟨rfl, n, rfl⟩))
  go_ret2
  exact ⟨m, k, PQ.out, ret_tuple R.out rfl, _, rfl⟩
set_option maxHeartbeats 1000000 in
theorem sFrexp_same (x : Nat) (h : Fd.rg x = 0 ∨ 9218868437227405312 ≤ Fd.rg x) (w : World) : Calls Try.prog 34 #[.float .f64 x] w (RV (.tuple #[.float .f64 x, .int .i64 0]) w) := by
  rcases kind4 x with ⟨_, _, q1, q2, q3, q4, q5⟩ | ⟨a', q1, q2, q3, q4, _⟩ | ⟨a', q1, q2, q3, q4, _⟩ | ⟨a', q1, q2, q3, q4, _⟩
  · omega
  all_goals
    clear h a'
    go_enter Try.func34, Try.ntmps34
    go_wp2_with (first | (go_at_call 56; refine (isFinite_c _ _).mono ?_; rintro e w' ⟨rfl, n, rfl⟩))
    go_ret2
    exact ⟨rfl, _, rfl⟩

end Go.Proofs.Ytkiieekpbcnfkaa
