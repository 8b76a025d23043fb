/- FnLdexpSmall: the call returns true; no condition but that the arguments are words. -/
import Derived.Test.YtmdenmldbmafgaaCQ
namespace Go.Proofs.Ytmdenmldbmafgaa
open Go.RowKit
theorem sgT_same {s : Bool} {n : Nat} : Fd.sgT s s (Fd.sm s n + Fd.sm s n) = s := by
  unfold Fd.sgT Fd.sm
  cases s <;> (try simp) <;> (try split) <;> (try simp) <;> (try omega)
theorem add_self {x : Nat} (hx : W64 x) : (Fd.nan x = true ∧ arith .add .f64 x x = none) ∨ (Fd.rg x = 9218868437227405312 ∧ arith .add .f64 x x = some x) ∨ (Fd.rg x < 9218868437227405312 ∧ ∃ R, Fd.LQ (Fd.rg x) 1 R ∧ arith .add .f64 x x = some (Fd.wd (Fd.sg x) (min R 9218868437227405312))) := by
  rcases Nat.lt_trichotomy (Fd.rg x) 9218868437227405312 with h | h | h
  · right; right
    obtain ⟨R, n, e⟩ := Fd.add_fin h h
    have v : Fd.val x + Fd.val x = Fd.sm (Fd.sg x) (Fd.mg (Fd.rg x)) + Fd.sm (Fd.sg x) (Fd.mg (Fd.rg x)) := rfl
    have na : (Fd.sm (Fd.sg x) (Fd.mg (Fd.rg x)) + Fd.sm (Fd.sg x) (Fd.mg (Fd.rg x))).natAbs = Fd.mg (Fd.rg x) * 2 ^ 1 := by
      unfold Fd.sm; cases Fd.sg x <;> simp <;> omega
    rw [v, na] at n
    rw [v, sgT_same] at e
    exact ⟨h, R, ⟨1, 0, by omega, by rw [Nat.pow_zero]; exact n⟩, e⟩
  · right; left
    refine ⟨h, ?_⟩
    show Ieee.double.add x x = some x
    unfold Ieee.Format.add
    rw [Fd.read_inf h]
    show (if Fd.sg x = Fd.sg x then some (Ieee.Datum.infinity (Fd.sg x)) else none).map Ieee.double.write = some x
    rw [if_pos rfl]
    show some (Fd.wd (Fd.sg x) 9218868437227405312) = some x
    rw [← h, Fd.wd_of hx]
  · left
    refine ⟨by unfold Fd.nan; simp; exact h, ?_⟩
    show Ieee.double.add x x = none
    unfold Ieee.Format.add
    rw [Fd.read_nan h]; rfl
theorem half_self {x : Nat} (hx : W64 x) : (Fd.nan x = true ∧ arith .quo .f64 x 4611686018427387904 = none) ∨ (Fd.rg x = 9218868437227405312 ∧ arith .quo .f64 x 4611686018427387904 = some x) ∨ (Fd.rg x < 9218868437227405312 ∧ ∃ R, Fd.LQ (Fd.rg x) (-1) R ∧ arith .quo .f64 x 4611686018427387904 = some (Fd.wd (Fd.sg x) (min R 9218868437227405312))) := by
  have two : Ieee.double.read 4611686018427387904 = .number false 4503599627370496 (-51) := by decide +kernel
  rcases Nat.lt_trichotomy (Fd.rg x) 9218868437227405312 with h | h | h
  · right; right
    obtain ⟨R, n, e⟩ := Fd.half_fin h
    exact ⟨h, R, ⟨0, 1, by omega, by rw [Nat.pow_zero, Nat.mul_one, Nat.pow_one]; exact n⟩, e⟩
  · right; left
    refine ⟨h, ?_⟩
    show Ieee.double.div x 4611686018427387904 = some x
    unfold Ieee.Format.div
    rw [Fd.read_inf h, two]
    show some (Fd.wd (Fd.sg x ^^ false) 9218868437227405312) = some x
    rw [Bool.xor_false, ← h, Fd.wd_of hx]
  · left
    refine ⟨by unfold Fd.nan; simp; exact h, ?_⟩
    show Ieee.double.div x 4611686018427387904 = none
    unfold Ieee.Format.div
    rw [Fd.read_nan h]; rfl
/-- what Ldexp gives is the same as what an operation gives that rounds once -/
theorem ld_same {x v u : Nat} {k : Int} (hx : W64 x) (h : Fd.LD x k v)
    (g : (Fd.nan x = true ∧ Fd.nan u = true) ∨ (Fd.rg x = 9218868437227405312 ∧ u = x) ∨ (Fd.rg x < 9218868437227405312 ∧ ∃ R, Fd.LQ (Fd.rg x) k R ∧ u = Fd.wd (Fd.sg x) (min R 9218868437227405312))) : Fd.sameV v u = true := by
  rcases h with ⟨a, b, R, lq, e⟩ | ⟨a, e⟩
  · rcases g with ⟨c, _⟩ | ⟨c, _⟩ | ⟨c, R', lq', e'⟩
    · unfold Fd.nan at c; simp at c; omega
    · omega
    · rw [e, e', Fd.lq_unique lq lq']; exact Fd.sameV_refl _
  · subst e
    rcases g with ⟨c, d⟩ | ⟨c, d⟩ | ⟨c, R', lq', e'⟩
    · exact Fd.sameV_nan c d
    · rw [d]; exact Fd.sameV_refl _
    · have z : Fd.rg v = 0 := by omega
      have R0 : R' = 0 := by
        obtain ⟨p, q, e1, n1⟩ := lq'
        rw [z, Fd.mg_zero, Nat.zero_mul] at n1
        exact Fd.near_zero (Nat.two_pow_pos q) n1
      have : u = v := by rw [e', R0]; conv => rhs; rw [← Fd.wd_of hx, z]
                         rfl
      rw [this]; exact Fd.sameV_refl _
theorem lq_zero_pow (r : Nat) : Fd.LQ r 0 r := ⟨0, 0, by omega, by rw [Nat.pow_zero, Nat.mul_one]; exact Fd.near_one_exact rfl⟩
theorem res_like {op : BinOp} {x y : Nat} {P : Nat → Prop} (w : World) (hn : arith op .f64 x y = none → Fd.nan x = true) (hs : ∀ u, arith op .f64 x y = some u → P u) (hp : ∀ u, Fd.nan x = true → Fd.nan u = true → P u) : P (res op .f64 x y w) := by
  cases h : arith op .f64 x y with
  | none => exact hp _ (hn h) (res_none64 h w)
  | some u => rw [res_some h]; exact hs u h
set_option maxHeartbeats 1000000 in
theorem law_FnLdexpSmall (x : Nat) (hx : W64 x) (w : World) : Calls Try.prog 5 #[.float .f64 x] w (RB true w) := by
  have A : Hd (∀ v w, Fd.LD x 1 v → Fd.sameV v (res .add .f64 x x w) = true) := by
    constructor; intro v w hv
    rcases add_self hx with ⟨a, b⟩ | ⟨a, b⟩ | ⟨a, R, l, b⟩
    · exact ld_same hx hv (Or.inl ⟨a, res_none64 b w⟩)
    · rw [res_some b]; exact ld_same hx hv (Or.inr (Or.inl ⟨a, rfl⟩))
    · rw [res_some b]; exact ld_same hx hv (Or.inr (Or.inr ⟨a, R, l, rfl⟩))
  have B : Hd (∀ v w, Fd.LD x (-1) v → Fd.sameV v (res .quo .f64 x 4611686018427387904 w) = true) := by
    constructor; intro v w hv
    rcases half_self hx with ⟨a, b⟩ | ⟨a, b⟩ | ⟨a, R, l, b⟩
    · exact ld_same hx hv (Or.inl ⟨a, res_none64 b w⟩)
    · rw [res_some b]; exact ld_same hx hv (Or.inr (Or.inl ⟨a, rfl⟩))
    · rw [res_some b]; exact ld_same hx hv (Or.inr (Or.inr ⟨a, R, l, rfl⟩))
  have C : Hd (∀ v, Fd.LD x 0 v → Fd.sameV v x = true) := by
    constructor; intro v hv
    rcases hv with ⟨a, b, R, lq, e⟩ | ⟨a, e⟩
    · rw [e, Fd.lq_unique lq (lq_zero_pow _), Nat.min_eq_left (by omega), Fd.wd_of hx]; exact Fd.sameV_refl _
    · rw [e]; exact Fd.sameV_refl _
  go_enter Try.func5, Try.ntmps5
  go_wp2_with fail
  refine (iLdexp_c x 0 hx _).mono ?_
  rintro e w' ⟨v, hv, hW, rfl, n, rfl⟩
  have q1 := C.out v (hv (Or.inr (by omega)))
  clear hv C
  go_wp2_with (first | (go_at_call 16; refine (same_c _ _ hW hx _).mono ?_; rintro e w' ⟨rfl, n, rfl⟩))
  refine (iLdexp_c x 1 hx _).mono ?_
  rintro e w' ⟨v1, hv1, hW1, rfl, n, rfl⟩
  have q2 : ∀ w, Fd.sameV v1 (res .add .f64 x x w) = true := fun w => A.out v1 w (hv1 (Or.inr (by omega)))
  clear hv1 A
  go_wp2_with (first | (go_at_call 16; refine (same_c _ _ hW1 (res_W _ _ _ _) _).mono ?_; rintro e w' ⟨rfl, n, rfl⟩))
  refine (iLdexp_c x (-1) hx _).mono ?_
  rintro e w' ⟨v2, hv2, hW2, rfl, n, rfl⟩
  have q3 : ∀ w, Fd.sameV v2 (res .quo .f64 x 4611686018427387904 w) = true := fun w => B.out v2 w (hv2 (Or.inr (by omega)))
  clear hv2 B
  go_wp2_with (first | (go_at_call 16; refine (same_c _ _ hW2 (res_W _ _ _ _) _).mono ?_; rintro e w' ⟨rfl, n, rfl⟩))
  go_ret
  exact ⟨rfl, _, rfl⟩
end Go.Proofs.Ytmdenmldbmafgaa
