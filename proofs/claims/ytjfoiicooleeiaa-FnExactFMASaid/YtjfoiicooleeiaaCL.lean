/- Contracts of the library's normalize, frexp, ilogb, Frexp, Ilogb, Logb and of the reference's: the fraction and the exponent; conditions: as told in each line. -/
import Derived.Test.YtjfoiicooleeiaaC6
import Derived.Test.YtjfoiicooleeiaaDQ
namespace Go.Proofs.Ytjfoiicooleeiaa
open Go.RowKit

theorem or_field (s f p : Nat) (hs : s ≤ 1) (hf : f < 4503599627370496) (hp : p < 2048) :
    bits .or .u64 ((s * 9223372036854775808 + f : Nat) : Int) ((p * 4503599627370496 : Nat) : Int) = ((s * 9223372036854775808 + (p * 4503599627370496 + f) : Nat) : Int) := by
  rw [bits_or_u64_nat _ _ (by omega) (by omega)]
  have e1 : s * 9223372036854775808 + f = f ||| s * 2 ^ 63 := by rw [or_high f s 63 (by omega)]; omega
  have e2 : f ||| p * 2 ^ 52 = f + p * 2 ^ 52 := or_high f p 52 hf
  have e3 : (f + p * 2 ^ 52) ||| s * 2 ^ 63 = f + p * 2 ^ 52 + s * 2 ^ 63 := or_high _ s 63 (by omega)
  have e4 : f ||| s * 2 ^ 63 ||| p * 4503599627370496 = f ||| p * 2 ^ 52 ||| s * 2 ^ 63 := by
    rw [Nat.or_assoc, Nat.or_comm (s * 2 ^ 63), ← Nat.or_assoc]
  rw [e1, e4, e2, e3]; congr 1; omega

theorem ret_tuple {k : FloatKind} {a b : Nat} {q : IntKind} {i j : Int} (h1 : a = b) (h2 : i = j) : Ending.returned (.tuple #[.float k a, .int q i]) = .returned (.tuple #[.float k b, .int q j]) := by rw [h1, h2]
theorem wd_nat {s : Bool} {r : Nat} : Fd.wd s r = s.toNat * 9223372036854775808 + r := by unfold Fd.wd; cases s <;> simp

/-- 'x * 2 ^ 52' of a small number -/
theorem mul_52 {x : Nat} (h : Fd.rg x < 4503599627370496) : arith .mul .f64 x 4841369599423283200 = some (Fd.wd (Fd.sg x) (Fd.dbls 52 (Fd.rg x))) ∧ Fd.dbls 52 (Fd.rg x) < 108 * 4503599627370496 := by
  obtain ⟨R, h1, h2⟩ := Fd.mul_fin (x := x) (y := 4841369599423283200) (by omega) (by decide)
  have lb : Fd.dbls 52 (Fd.rg x) < 108 * 4503599627370496 := by
    apply Fd.mg_lt_iff.1
    rw [Fd.mg_dbls, Fd.mg_small (by omega), show 108 * 4503599627370496 = 107 * 4503599627370496 + 4503599627370496 by omega, Fd.mg_pow]
    have : Fd.rg x * 2 ^ 52 < 2 ^ 52 * 2 ^ 52 := Nat.mul_lt_mul_of_pos_right h (Nat.two_pow_pos _)
    rw [Fd.pow_sum] at this
    exact Nat.lt_trans this (Fd.pow_lt_iff.2 (by omega))
  have sc : Fd.sg 4841369599423283200 = false := by decide
  have mc : Fd.mg (Fd.rg 4841369599423283200) = 2 ^ 52 * 2 ^ Fd.LL := by
    obtain ⟨e, he⟩ : ∃ e : Nat, e = 1074 := ⟨_, rfl⟩
    have e1 : Fd.rg 4841369599423283200 = e * 4503599627370496 + 4503599627370496 := by rw [he]; decide
    have l := Fd.LL_eq
    rw [e1, Fd.mg_pow, Fd.pow_sum, show e + 52 = 52 + Fd.LL by omega]
  rw [mc] at h1
  have h3 : Fd.Near (Fd.mg (Fd.rg x) * 2 ^ 52) 1 R := by
    refine Fd.near_unscale (c := 2 ^ Fd.LL) (Nat.two_pow_pos _) ?_
    rw [Nat.mul_assoc, Nat.one_mul]; exact h1
  rw [← Fd.mg_dbls] at h3
  have e := Fd.near_mg h3
  refine ⟨?_, lb⟩
  have hs : (Fd.sg x ^^ false) = Fd.sg x := by cases Fd.sg x <;> rfl
  rw [sc, hs, e, Nat.min_eq_left (by omega)] at h2
  exact h2

/-- a finite number that is not zero, brought among the normal ones -/
def NQ (r : Nat) (r' j : Nat) : Prop := r' = Fd.dbls j r ∧ (j = 0 ∨ j = 52) ∧ 4503599627370496 ≤ r' ∧ r' < 9218868437227405312
def RN (x : Nat) (w : World) (e : Ending) (w' : World) : Prop := ∃ r' j : Nat, NQ (Fd.rg x) r' j ∧ e = .returned (.tuple #[.float .f64 (Fd.wd (Fd.sg x) r'), .int .i64 (-(j : Int))]) ∧ ∃ n, w' = w.drewN n
set_option maxHeartbeats 400000 in
theorem normalize_c (x : Nat) (hx : W64 x) (h0 : 0 < Fd.rg x) (h1 : Fd.rg x < 9218868437227405312) (w : World) : Calls Try.prog 65 #[.float .f64 x] w (RN x w) := by
  rcases Nat.lt_or_ge (Fd.rg x) 4503599627370496 with c | c
  · have t : ltF .f64 (Fd.rg x) 4503599627370496 = true := by rw [lt_words (by omega) (by omega)]; simp; exact c
    obtain ⟨m, lb⟩ := mul_52 (x := x) c
    have q1 : ∀ w, res .mul .f64 x 4841369599423283200 w = Fd.wd (Fd.sg x) (Fd.dbls 52 (Fd.rg x)) := fun w => res_some m w
    have R : Hd (NQ (Fd.rg x) (Fd.dbls 52 (Fd.rg x)) 52) := by
      refine ⟨rfl, Or.inr rfl, ?_, by omega⟩
      rcases Nat.lt_or_ge (Fd.dbls 52 (Fd.rg x)) 4503599627370496 with d | d
      · exfalso
        have e := Fd.mg_small (m := Fd.dbls 52 (Fd.rg x)) (by omega)
        rw [Fd.mg_dbls, Fd.mg_small (by omega)] at e
        have : 1 * 2 ^ 52 ≤ Fd.rg x * 2 ^ 52 := Nat.mul_le_mul_right _ h0
        omega
      · exact d
    clear m lb c h0 h1
    go_enter Try.func65, Try.ntmps65
    go_wp2_with (go_at_call 67; refine (mAbs_c _ hx _).mono ?_; rintro e w' ⟨rfl, n, rfl⟩)
    go_ret2
    exact ⟨_, 52, R.out, rfl, _, rfl⟩
  · have t : ltF .f64 (Fd.rg x) 4503599627370496 = false := by rw [lt_words (by omega) (by omega)]; simp; omega
    have R : Hd (NQ (Fd.rg x) (Fd.rg x) 0) := ⟨rfl, Or.inl rfl, c, h1⟩
    have e : Hd (Fd.wd (Fd.sg x) (Fd.rg x) = x) := ⟨Fd.wd_of hx⟩
    clear c h0 h1
    go_enter Try.func65, Try.ntmps65
    go_wp2_with (go_at_call 67; refine (mAbs_c _ hx _).mono ?_; rintro e w' ⟨rfl, n, rfl⟩)
    go_ret2
    exact ⟨_, 0, R.out, by rw [e.out]; rfl, _, rfl⟩
theorem nq_pq {r r' j : Nat} (h : NQ r r' j) : Fd.PQ r (4503599627370496 + r' % 4503599627370496) (((r' / 4503599627370496 : Nat) : Int) - 1075 - j) := by
  obtain ⟨h1, h2, h3, h4⟩ := h
  obtain ⟨l, u, a, b, e1, e2⟩ := Fd.pq_norm h3
  refine ⟨l, u, a, b + j, by omega, ?_⟩
  rw [← e2, h1, Fd.mg_dbls, Nat.pow_add]; grind
/-- the exponent's field of a word -/
theorem exp_field {s : Bool} {r : Nat} (h : r < 9218868437227405312) :
    wrap64 (bits .and .u64 (((Fd.wd s r : Nat) : Int) / 4503599627370496) 2047) = ((r / 4503599627370496 : Nat) : Int) := by
  have d : (((Fd.wd s r : Nat) : Int) / 4503599627370496) = ((Fd.wd s r / 4503599627370496 : Nat) : Int) := by omega
  have e : Fd.wd s r / 4503599627370496 % 2048 = r / 4503599627370496 := by unfold Fd.wd; split <;> omega
  have l : Fd.wd s r < 18446744073709551616 := Fd.wd_lt (by omega)
  rw [d, b_low11 _ (by omega), e]; unfold wrap64; omega

end Go.Proofs.Ytjfoiicooleeiaa
