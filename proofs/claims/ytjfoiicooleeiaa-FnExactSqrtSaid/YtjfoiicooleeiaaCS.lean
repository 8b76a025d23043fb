/- Plain laws of square roots: growth, and scaling by even powers of 2; conditions: as told in each line. -/
import Derived.Test.YtjfoiicooleeiaaCR
import Derived.Test.YtjfoiicooleeiaaC6
namespace Go.Proofs.Ytjfoiicooleeiaa
open Go.RowKit
namespace Fd
open Ieee
theorem mg_high {R : Nat} (h : 4503599627370496 ≤ R) : mg (R + 4503599627370496) = 2 * mg R := by
  have := mg_dbl R
  unfold dbl at this
  rw [if_neg (by omega)] at this; exact this
theorem nearS_dbl {N R : Nat} (hR : 4503599627370496 < R) (h : NearS N R) : NearS (4 * N) (R + 4503599627370496) := by
  have a1 := mg_high (R := R) (by omega)
  have a2 := mg_high (R := R + 1) (by omega)
  have a0 := mg_high (R := R - 1) (by omega)
  rw [show R + 1 + 4503599627370496 = R + 4503599627370496 + 1 by omega] at a2
  rw [show R - 1 + 4503599627370496 = R + 4503599627370496 - 1 by omega] at a0
  obtain ⟨h1, h2, h3, h4⟩ := h
  have sq : ∀ c d : Nat, (2 * c + 2 * d) * (2 * c + 2 * d) = 4 * ((c + d) * (c + d)) := fun c d => by grind
  refine ⟨?_, ?_, fun _ => ?_, fun _ => ?_⟩
  · rw [a1, a2, sq]; omega
  · rw [a1, a2, sq]; intro g; have := h2 (by omega); omega
  · rw [a0, a1, sq]; have := h3 (by omega); omega
  · rw [a0, a1, sq]; intro g; have := h4 (by omega) (by omega); omega
theorem nearS_dbls {N R : Nat} (hR : 4503599627370496 < R) (h : NearS N R) : ∀ j : Nat, NearS (N * (2 ^ j * 2 ^ j)) (R + j * 4503599627370496)
  | 0 => by simpa using h
  | j + 1 => by
    have g := nearS_dbl (by omega) (nearS_dbls hR h j)
    have e : 4 * (N * (2 ^ j * 2 ^ j)) = N * (2 ^ (j + 1) * 2 ^ (j + 1)) := by rw [Nat.pow_succ]; grind
    rw [e, show R + j * 4503599627370496 + 4503599627370496 = R + (j + 1) * 4503599627370496 by omega] at g
    exact g
/-- the root of a positive number is no small rung -/
theorem nearS_high {r R : Nat} (h0 : 0 < r) (h : NearS (mg r * 2 ^ LL) R) : 4503599627370496 < R := by
  have e : mg 9007199254740992 = 2 ^ 53 := by decide
  have : 9007199254740992 ≤ R := by
    refine nearS_mono (nearS_exact 9007199254740992) h ?_
    rw [e, pow_sum]
    have m1 : 1 ≤ mg r := by have := mg_lt h0; rw [mg_zero] at this; omega
    have L := LL_eq
    have a : 2 ^ (53 + 53) ≤ 2 ^ LL := Nat.pow_le_pow_right (by omega) (by omega)
    have b : 1 * 2 ^ LL ≤ mg r * 2 ^ LL := Nat.mul_le_mul_right _ m1
    omega
  omega
theorem mul_pow_l {c x j : Nat} (hc : mg (rg c) = 2 ^ j * 2 ^ LL) (hs : sg c = false) (hf : rg c < 9218868437227405312) (hx : rg x < 9218868437227405312) :
    double.mul c x = some (wd (sg x) (min (dbls j (rg x)) 9218868437227405312)) := by
  obtain ⟨r, n, e⟩ := mul_fin hf hx
  have := near_unique (Nat.two_pow_pos LL) (Nat.two_pow_pos LL) n (near_exact (dbls j (rg x)) (2 ^ LL) (Nat.two_pow_pos LL)) (by rw [hc, mg_dbls]; grind)
  rw [e, this, hs, Bool.false_xor]
theorem mg_four : mg (rg 4616189618054758400) = 2 ^ 2 * 2 ^ LL := by
  obtain ⟨e, he⟩ : ∃ e : Nat, e = 1024 := ⟨_, rfl⟩
  have e1 : rg 4616189618054758400 = e * 4503599627370496 + 4503599627370496 := by rw [he]; decide
  have e2 : e + 52 = 2 + LL := by have := LL_eq; omega
  rw [e1, mg_pow, e2, pow_sum]
theorem key_nonneg {x : Nat} (h : 0 ≤ key x) : key x = rg x ∧ (sg x = false ∨ rg x = 0) := by
  unfold key at *; cases hs : sg x <;> simp [hs] at * <;> omega
theorem num_le {x : Nat} (h : nan x = false) : rg x ≤ 9218868437227405312 := by unfold nan at h; simp at h; omega
theorem num_of {x : Nat} (h : rg x ≤ 9218868437227405312) : nan x = false := by unfold nan; simp; omega
/-- the root of a number that is not negative -/
theorem sq_key {x a : Nat} (hn : nan x = false) (hk : 0 ≤ key x) (h : SQ x a) : nan a = false ∧ ∃ R : Nat, key a = R ∧ ((rg x = 0 ∧ R = 0) ∨ (rg x = 9218868437227405312 ∧ R = 9218868437227405312) ∨ (0 < rg x ∧ rg x < 9218868437227405312 ∧ 0 < R ∧ R < 9218868437227405312 ∧ NearS (mg (rg x) * 2 ^ LL) R ∧ a = wd false R)) := by
  obtain ⟨k1, k2⟩ := key_nonneg hk
  rcases h with ⟨rfl, h⟩ | ⟨_, h⟩ | ⟨hs, h0, h1, R, R0, RI, nr, ev⟩
  · refine ⟨hn, rg a, k1, ?_⟩
    rcases h with h | h
    · exact Or.inl ⟨h, h⟩
    · exact Or.inr (Or.inl ⟨h.1, h.1⟩)
  · rcases h with h | h
    · rw [hn] at h; cases h
    · rcases k2 with k | k
      · rw [h.2] at k; cases k
      · omega
  · refine ⟨by rw [ev]; exact nan_wd (by omega), R, ?_, Or.inr (Or.inr ⟨h0, h1, R0, RI, nr, ev⟩)⟩
    rw [ev, key_wd (by omega)]; rfl
theorem sq_mono {x y a b : Nat} (ha : SQ x a) (hb : SQ y b) (nx : nan x = false) (ny : nan y = false) (h0 : 0 ≤ key x) (h : key x ≤ key y) : nan a = false ∧ nan b = false ∧ key a ≤ key b := by
  obtain ⟨na, A, ka, ca⟩ := sq_key nx h0 ha
  obtain ⟨nb, B, kb, cb⟩ := sq_key ny (by omega) hb
  refine ⟨na, nb, ?_⟩
  have k1 := (key_nonneg h0).1
  have k2 := (key_nonneg (x := y) (by omega)).1
  have l1 := num_le nx
  have l2 := num_le ny
  rcases ca with ⟨c1, c2⟩ | ⟨c1, c2⟩ | ⟨c1, c2, c3, c4, c5, _⟩ <;> rcases cb with ⟨d1, d2⟩ | ⟨d1, d2⟩ | ⟨d1, d2, d3, d4, d5, _⟩ <;> try omega
  have := nearS_mono c5 d5 (Nat.mul_le_mul_right _ (mg_le (by omega)))
  omega
end Fd
theorem le_out {a b : Nat} (h : leF .f64 a b = true) : Fd.nan a = false ∧ Fd.nan b = false ∧ Fd.key a ≤ Fd.key b := by
  rw [le64] at h; simp at h; exact ⟨h.1.1, h.1.2, h.2⟩
theorem le_in {a b : Nat} (h1 : Fd.nan a = false) (h2 : Fd.nan b = false) (h : Fd.key a ≤ Fd.key b) : leF .f64 a b = true := by
  rw [le64, h1, h2]; simpa using h
theorem lt_in {a b : Nat} (h1 : Fd.nan a = false) (h2 : Fd.nan b = false) (h : Fd.key a < Fd.key b) : ltF .f64 a b = true := by
  rw [lt64, h1, h2]; simpa using h
theorem lt_not {a b : Nat} (h : Fd.key b ≤ Fd.key a) : ltF .f64 a b = false := by
  rw [lt64]; cases Fd.nan a <;> cases Fd.nan b <;> simp; exact h
theorem eq_in {a b : Nat} (h1 : Fd.nan a = false) (h2 : Fd.nan b = false) (h : Fd.key a = Fd.key b) : eqF .f64 a b = true := by
  rw [eq64, h1, h2]; simpa using h
theorem eq_not {a b : Nat} (h : Fd.key a ≠ Fd.key b) : eqF .f64 a b = false := by
  rw [eq64]; cases Fd.nan a <;> cases Fd.nan b <;> simp; exact h
theorem key0 : Fd.key 0 = 0 := by decide
theorem nan0 : Fd.nan 0 = false := by decide
theorem sq_pos {x a : Nat} (h : Fd.SQ x a) : ltF .f64 0 a = ltF .f64 0 x := by
  rcases h with ⟨rfl, h⟩ | ⟨h1, h⟩ | ⟨hs, h0, h1, R, R0, RI, nr, ev⟩
  · rfl
  · rw [ltF_nan_r h1]
    rcases h with h | h
    · rw [ltF_nan_r h]
    · rw [lt_not]; rw [key0]; unfold Fd.key; rw [h.2]; simp
  · rw [ev, lt_in nan0 (Fd.nan_wd (by omega)) (by rw [key0, Fd.key_wd (by omega)]; show (0 : Int) < (R : Int); omega)]
    rw [lt_in nan0 (Fd.num_of (by omega)) (by rw [key0]; unfold Fd.key; rw [hs]; simp; omega)]
theorem lsize_c (x : Nat) (hx : W64 x) (w : World) : Calls Try.prog 15 #[.float .f64 x] w (RF (fun v => (Fd.nan x = true → v = x) ∧ (Fd.nan x = false → Fd.nan v = false ∧ Fd.key v = (Fd.rg x : Nat))) w) := by
  cases c : ltF .f64 x 0 with
  | true =>
    have h : Fd.nan x = false ∧ Fd.key x < 0 := by
      rw [lt64] at c; simp at c; exact ⟨c.1.1, by have := c.2; rw [key0] at this; exact this⟩
    have H := Hd.mk h
    have gn : Op.negFloat .f64 x = Fd.ng x := negF_W hx
    clear h
    go_enter Try.func15, Try.ntmps15
    go_wp2
    go_ret
    refine ⟨_, ⟨fun e => ?_, fun _ => ⟨?_, ?_⟩⟩, W_ng hx, rfl, 0, rfl⟩
    · rw [H.out.1] at e; cases e
    · exact Fd.num_of (by rw [Fd.rg_ng hx]; exact Fd.num_le H.out.1)
    · rw [Fd.key_ng hx]
      have := H.out.2
      unfold Fd.key at *
      cases hs : Fd.sg x <;> simp [hs] at * <;> omega
  | false =>
    have h : Fd.nan x = false → 0 ≤ Fd.key x := by
      intro n; rw [lt64, n, nan0, key0] at c; simp at c; exact c
    have H := Hd.mk h
    clear h
    go_enter Try.func15, Try.ntmps15
    go_wp2
    go_ret
    exact ⟨_, ⟨fun _ => rfl, fun n => ⟨n, (Fd.key_nonneg (H.out n)).1⟩⟩, hx, rfl, 0, rfl⟩
end Go.Proofs.Ytjfoiicooleeiaa
