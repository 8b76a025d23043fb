/- Contracts of Ilogb, Logb and the reference's Ilogb, Logb, Frexp; no condition but that the arguments are words. -/
import Derived.Test.YtmdenmldbmafgaaCL
namespace Go.Proofs.Ytmdenmldbmafgaa
open Go.RowKit

/-- the four kinds of a word, with the tests' answers -/
theorem kind4 (x : Nat) :
    (0 < Fd.rg x ∧ Fd.rg x < 9218868437227405312 ∧ eqF .f64 x 0 = false ∧ Fd.infV x 0 = false ∧ Fd.nan x = false ∧ Fd.fin x = true ∧ Fd.isInf x = false) ∨
    (Fd.rg x = 0 ∧ eqF .f64 x 0 = true ∧ Fd.infV x 0 = false ∧ Fd.nan x = false ∧ Fd.fin x = true ∧ Fd.isInf x = false) ∨
    (Fd.rg x = 9218868437227405312 ∧ eqF .f64 x 0 = false ∧ Fd.infV x 0 = true ∧ Fd.nan x = false ∧ Fd.fin x = false ∧ Fd.isInf x = true) ∨
    (9218868437227405312 < Fd.rg x ∧ eqF .f64 x 0 = false ∧ Fd.infV x 0 = false ∧ Fd.nan x = true ∧ Fd.fin x = false ∧ Fd.isInf x = false) := by
  have k0 : Fd.key 0 = 0 := by decide
  have n0 : Fd.nan 0 = false := by decide
  have i0 : Fd.infV x 0 = decide (Fd.rg x = 9218868437227405312) := rfl
  have fi : Fd.fin x = decide (Fd.rg x < 9218868437227405312) := rfl
  have ii : Fd.isInf x = decide (Fd.rg x = 9218868437227405312) := rfl
  have ni : Fd.nan x = decide (9218868437227405312 < Fd.rg x) := rfl
  have kx : Fd.key x = if Fd.sg x then -(Fd.rg x : Int) else Fd.rg x := rfl
  rw [i0, fi, ii, eq64, n0, k0, ni, kx]
  cases Fd.sg x <;> simp <;> omega

/-- what Ilogb gives -/
def IQ (x : Nat) (i : Int) : Prop :=
  (Fd.rg x = 0 ∧ i = -2147483648) ∨ (9218868437227405312 ≤ Fd.rg x ∧ i = 2147483647) ∨ (0 < Fd.rg x ∧ Fd.rg x < 9218868437227405312 ∧ ∃ m k, Fd.PQ (Fd.rg x) m k ∧ i = k + 52)
def RIQ (Q : Int → Prop) (w : World) (e : Ending) (w' : World) : Prop := ∃ i, Q i ∧ e = .returned (.int .i64 i) ∧ ∃ n, w' = w.drewN n
set_option maxHeartbeats 1000000 in
theorem mIlogb_c (x : Nat) (hx : W64 x) (w : World) : Calls Try.prog 41 #[.float .f64 x] w (RIQ (IQ x) w) := by
  rcases kind4 x with ⟨a, b, q1, q2, q3, _, _⟩ | ⟨a, q1, q2, q3, _, _⟩ | ⟨a, q1, q2, q3, _, _⟩ | ⟨a, q1, q2, q3, _, _⟩
  · have A := Hd.mk a
    have B := Hd.mk b
    clear a b
    go_enter Try.func41, Try.ntmps41
    go_wp2_with (first | (go_at_call 49; refine (mIsInf_c _ _ hx _).mono ?_; rintro e w' ⟨rfl, n, rfl⟩) | (go_at_call 50; refine (mIsNaN_c _ _).mono ?_; rintro e w' ⟨rfl, n, rfl⟩) | (go_at_call 51; refine (milogb_c x hx A.out B.out _).mono ?_; rintro e w' ⟨m, k, pq, rfl, n, rfl⟩))
    go_ret
    exact ⟨_, Or.inr (Or.inr ⟨A.out, B.out, m, k, pq, rfl⟩), rfl, _, rfl⟩
  · have A : Hd (IQ x (-2147483648)) := ⟨Or.inl ⟨a, rfl⟩⟩
    clear a
    go_enter Try.func41, Try.ntmps41
    go_wp2_with (first | (go_at_call 49; refine (mIsInf_c _ _ hx _).mono ?_; rintro e w' ⟨rfl, n, rfl⟩) | (go_at_call 50; refine (mIsNaN_c _ _).mono ?_; rintro e w' ⟨rfl, n, rfl⟩))
    go_ret
    exact ⟨_, A.out, rfl, 0, rfl⟩
  · have A : Hd (IQ x 2147483647) := ⟨Or.inr (Or.inl ⟨by omega, rfl⟩)⟩
    clear a
    go_enter Try.func41, Try.ntmps41
    go_wp2_with (first | (go_at_call 49; refine (mIsInf_c _ _ hx _).mono ?_; rintro e w' ⟨rfl, n, rfl⟩) | (go_at_call 50; refine (mIsNaN_c _ _).mono ?_; rintro e w' ⟨rfl, n, rfl⟩))
    go_ret
    exact ⟨_, A.out, rfl, _, rfl⟩
  · have A : Hd (IQ x 2147483647) := ⟨Or.inr (Or.inl ⟨by omega, rfl⟩)⟩
    clear a
    go_enter Try.func41, Try.ntmps41
    go_wp2_with (first | (go_at_call 49; refine (mIsInf_c _ _ hx _).mono ?_; rintro e w' ⟨rfl, n, rfl⟩) | (go_at_call 50; refine (mIsNaN_c _ _).mono ?_; rintro e w' ⟨rfl, n, rfl⟩))
    go_ret
    exact ⟨_, A.out, rfl, _, rfl⟩
theorem iq_unique {x : Nat} {i j : Int} (h : IQ x i) (g : IQ x j) : i = j := by
  rcases h with ⟨a, b⟩ | ⟨a, b⟩ | ⟨a, a', m, k, p, b⟩ <;> rcases g with ⟨c, d⟩ | ⟨c, d⟩ | ⟨c, c', m', k', p', d⟩ <;> try omega
  rw [b, d, (Fd.pq_unique p p').2]
theorem iIlogb_c (x : Nat) (hx : W64 x) (w : World) : Calls Try.prog 25 #[.float .f64 x] w (RIQ (IQ x) w) := by
  go_enter Try.func25, Try.ntmps25
  go_wp2_with (first | (go_at_call 41; refine (mIlogb_c x hx _).mono ?_; rintro e w' ⟨i, hi, rfl, n, rfl⟩))
  go_ret
  exact ⟨_, hi, rfl, _, rfl⟩
set_option maxHeartbeats 1000000 in
theorem sIlogb_c (x : Nat) (hx : W64 x) (w : World) : Calls Try.prog 26 #[.float .f64 x] w (RIQ (IQ x) w) := by
  rcases kind4 x with ⟨a, b, q1, q2, q3, q4, _⟩ | ⟨a, q1, q2, q3, q4, _⟩ | ⟨a, q1, q2, q3, q4, _⟩ | ⟨a, q1, q2, q3, q4, _⟩
  · have A := Hd.mk a
    have B := Hd.mk b
    have sz : Fd.sizeV x = Fd.rg x := Fd.sizeV_num q3
    clear a b
    go_enter Try.func26, Try.ntmps26
    go_wp2_with (first | (go_at_call 30; refine (isFinite_c _ _).mono ?_; rintro e w' ⟨rfl, n, rfl⟩) | (go_at_call 33; refine (size_c _ hx _).mono ?_; rintro e w' ⟨rfl, n, rfl⟩))
    refine (parts_c _ A.out B.out _).mono ?_
    rintro e w' ⟨m, k, pq, rfl, n, rfl⟩
    have hk : -1126 ≤ k ∧ k ≤ 971 := Fd.pq_bound A.out B.out pq
    obtain ⟨hk1, hk2⟩ := hk
    go_wp2
    go_ret
    exact ⟨_, Or.inr (Or.inr ⟨A.out, B.out, m, k, pq, rfl⟩), rfl, _, rfl⟩
  · have A : Hd (IQ x (-2147483648)) := ⟨Or.inl ⟨a, rfl⟩⟩
    clear a
    go_enter Try.func26, Try.ntmps26
    go_wp2_with (first | (go_at_call 30; refine (isFinite_c _ _).mono ?_; rintro e w' ⟨rfl, n, rfl⟩))
    go_ret
    exact ⟨_, A.out, rfl, _, rfl⟩
  · have A : Hd (IQ x 2147483647) := ⟨Or.inr (Or.inl ⟨by omega, rfl⟩)⟩
    clear a
    go_enter Try.func26, Try.ntmps26
    go_wp2_with (first | (go_at_call 30; refine (isFinite_c _ _).mono ?_; rintro e w' ⟨rfl, n, rfl⟩))
    go_ret
    exact ⟨_, A.out, rfl, _, rfl⟩
  · have A : Hd (IQ x 2147483647) := ⟨Or.inr (Or.inl ⟨by omega, rfl⟩)⟩
    clear a
    go_enter Try.func26, Try.ntmps26
    go_wp2_with (first | (go_at_call 30; refine (isFinite_c _ _).mono ?_; rintro e w' ⟨rfl, n, rfl⟩))
    go_ret
    exact ⟨_, A.out, rfl, _, rfl⟩
theorem i2f_W (n : Int) : W64 (i2f n) := by
  unfold W64 i2f FloatKind.nearest FloatKind.encode
  exact Ieee.Format.write_lt Ieee.double _
/-- what Logb gives -/
def JQ (x r : Nat) : Prop :=
  (Fd.rg x = 0 ∧ r = 18442240474082181120) ∨ (Fd.rg x = 9218868437227405312 ∧ r = 9218868437227405312) ∨ (9218868437227405312 < Fd.rg x ∧ r = x) ∨ (0 < Fd.rg x ∧ Fd.rg x < 9218868437227405312 ∧ ∃ m k, Fd.PQ (Fd.rg x) m k ∧ r = i2f (k + 52))
theorem jq_unique {x : Nat} {i j : Nat} (h : JQ x i) (g : JQ x j) : i = j := by
  rcases h with ⟨a, b⟩ | ⟨a, b⟩ | ⟨a, b⟩ | ⟨a, a', m, k, p, b⟩ <;> rcases g with ⟨c, d⟩ | ⟨c, d⟩ | ⟨c, d⟩ | ⟨c, c', m', k', p', d⟩ <;> try omega
  rw [b, d, (Fd.pq_unique p p').2]
set_option maxHeartbeats 1000000 in
theorem mLogb_c (x : Nat) (hx : W64 x) (w : World) : Calls Try.prog 39 #[.float .f64 x] w (RF (JQ x) w) := by
  rcases kind4 x with ⟨a, b, q1, q2, q3, _, _⟩ | ⟨a, q1, q2, q3, _, _⟩ | ⟨a, q1, q2, q3, _, _⟩ | ⟨a, q1, q2, q3, _, _⟩
  · have A := Hd.mk a
    have B := Hd.mk b
    clear a b
    go_enter Try.func39, Try.ntmps39
    go_wp2_with (first | (go_at_call 49; refine (mIsInf_c _ _ hx _).mono ?_; rintro e w' ⟨rfl, n, rfl⟩) | (go_at_call 50; refine (mIsNaN_c _ _).mono ?_; rintro e w' ⟨rfl, n, rfl⟩) | (go_at_call 51; refine (milogb_c x hx A.out B.out _).mono ?_; rintro e w' ⟨m, k, pq, rfl, n, rfl⟩))
    go_ret
    exact ⟨_, Or.inr (Or.inr (Or.inr ⟨A.out, B.out, m, k, pq, rfl⟩)), i2f_W _, rfl, _, rfl⟩
  · have A : Hd (JQ x (Fd.infW (-1))) := ⟨Or.inl ⟨a, rfl⟩⟩
    clear a
    go_enter Try.func39, Try.ntmps39
    go_wp2_with (first | (go_at_call 49; refine (mIsInf_c _ _ hx _).mono ?_; rintro e w' ⟨rfl, n, rfl⟩) | (go_at_call 50; refine (mIsNaN_c _ _).mono ?_; rintro e w' ⟨rfl, n, rfl⟩) | (go_at_call 48; refine (mInf_c _ _).mono ?_; rintro e w' ⟨rfl, n, rfl⟩))
    go_ret
    exact ⟨_, A.out, W_inf _, rfl, _, rfl⟩
  · have A : Hd (JQ x (Fd.infW 1)) := ⟨Or.inr (Or.inl ⟨a, rfl⟩)⟩
    clear a
    go_enter Try.func39, Try.ntmps39
    go_wp2_with (first | (go_at_call 49; refine (mIsInf_c _ _ hx _).mono ?_; rintro e w' ⟨rfl, n, rfl⟩) | (go_at_call 50; refine (mIsNaN_c _ _).mono ?_; rintro e w' ⟨rfl, n, rfl⟩) | (go_at_call 48; refine (mInf_c _ _).mono ?_; rintro e w' ⟨rfl, n, rfl⟩))
    go_ret
    exact ⟨_, A.out, W_inf _, rfl, _, rfl⟩
  · have A : Hd (JQ x x) := ⟨Or.inr (Or.inr (Or.inl ⟨a, rfl⟩))⟩
    clear a
    go_enter Try.func39, Try.ntmps39
    go_wp2_with (first | (go_at_call 49; refine (mIsInf_c _ _ hx _).mono ?_; rintro e w' ⟨rfl, n, rfl⟩) | (go_at_call 50; refine (mIsNaN_c _ _).mono ?_; rintro e w' ⟨rfl, n, rfl⟩))
    go_ret
    exact ⟨_, A.out, hx, rfl, _, rfl⟩
theorem iLogb_c (x : Nat) (hx : W64 x) (w : World) : Calls Try.prog 23 #[.float .f64 x] w (RF (JQ x) w) := by
  go_enter Try.func23, Try.ntmps23
  go_wp2_with (first | (go_at_call 39; refine (mLogb_c x hx _).mono ?_; rintro e w' ⟨r, hr, hW, rfl, n, rfl⟩))
  go_ret
  exact ⟨_, hr, hW, rfl, _, rfl⟩
set_option maxHeartbeats 1000000 in
theorem sLogb_c (x : Nat) (hx : W64 x) (w : World) : Calls Try.prog 24 #[.float .f64 x] w (RF (JQ x) w) := by
  rcases kind4 x with ⟨a, b, q1, q2, q3, q4, q5⟩ | ⟨a, q1, q2, q3, q4, q5⟩ | ⟨a, q1, q2, q3, q4, q5⟩ | ⟨a, q1, q2, q3, q4, q5⟩
  · have A := Hd.mk a
    have B := Hd.mk b
    have sz : Fd.sizeV x = Fd.rg x := Fd.sizeV_num q3
    clear a b
    go_enter Try.func24, Try.ntmps24
    go_wp2_with (first | (go_at_call 37; refine (isNothing_c _ _).mono ?_; rintro e w' ⟨rfl, n, rfl⟩) | (go_at_call 40; refine (isInfinity_c _ _).mono ?_; rintro e w' ⟨rfl, n, rfl⟩) | (go_at_call 33; refine (size_c _ hx _).mono ?_; rintro e w' ⟨rfl, n, rfl⟩))
    refine (parts_c _ A.out B.out _).mono ?_
    rintro e w' ⟨m, k, pq, rfl, n, rfl⟩
    have hk : -1126 ≤ k ∧ k ≤ 971 := Fd.pq_bound A.out B.out pq
    obtain ⟨hk1, hk2⟩ := hk
    go_wp2
    go_ret
    exact ⟨_, Or.inr (Or.inr (Or.inr ⟨A.out, B.out, m, k, pq, rfl⟩)), i2f_W _, rfl, _, rfl⟩
  · have A : Hd (JQ x (Fd.sgnV true 9218868437227405312)) := ⟨Or.inl ⟨a, by decide⟩⟩
    clear a
    go_enter Try.func24, Try.ntmps24
    go_wp2_with (first | (go_at_call 37; refine (isNothing_c _ _).mono ?_; rintro e w' ⟨rfl, n, rfl⟩) | (go_at_call 40; refine (isInfinity_c _ _).mono ?_; rintro e w' ⟨rfl, n, rfl⟩) | (go_at_call 38; refine (infinity_c _ _).mono ?_; rintro e w' ⟨rfl, n, rfl⟩))
    go_ret
    exact ⟨_, A.out, W_sgn _ (by unfold W64; decide), rfl, _, rfl⟩
  · have A : Hd (JQ x (Fd.sgnV false 9218868437227405312)) := ⟨Or.inr (Or.inl ⟨a, rfl⟩)⟩
    clear a
    go_enter Try.func24, Try.ntmps24
    go_wp2_with (first | (go_at_call 37; refine (isNothing_c _ _).mono ?_; rintro e w' ⟨rfl, n, rfl⟩) | (go_at_call 40; refine (isInfinity_c _ _).mono ?_; rintro e w' ⟨rfl, n, rfl⟩) | (go_at_call 38; refine (infinity_c _ _).mono ?_; rintro e w' ⟨rfl, n, rfl⟩))
    go_ret
    exact ⟨_, A.out, W_sgn _ (by unfold W64; decide), rfl, _, rfl⟩
  · have A : Hd (JQ x x) := ⟨Or.inr (Or.inr (Or.inl ⟨a, rfl⟩))⟩
    clear a
    go_enter Try.func24, Try.ntmps24
    go_wp2_with (first | (go_at_call 37; refine (isNothing_c _ _).mono ?_; rintro e w' ⟨rfl, n, rfl⟩))
    go_ret
    exact ⟨_, A.out, hx, rfl, _, rfl⟩

end Go.Proofs.Ytmdenmldbmafgaa
