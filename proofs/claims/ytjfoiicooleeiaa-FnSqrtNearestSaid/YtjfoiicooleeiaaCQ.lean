/- Contract of the reference's Moves: what it says is true only of products that are exact; no condition but that the argument is a word. -/
import Derived.Test.YtjfoiicooleeiaaCO
namespace Go.Proofs.Ytjfoiicooleeiaa
open Go.RowKit

namespace Fd
/-- the rung r times 2 to the power of k is the rung R, exactly -/
def EX (r : Nat) (k : Int) (R : Nat) : Prop := ∃ a b : Nat, k = (a : Int) - b ∧ mg r * 2 ^ a = mg R * 2 ^ b
theorem ex_lq {r R : Nat} {k : Int} (h : EX r k R) : LQ r k R := lq_exact h
theorem ex_back {r R : Nat} {k : Int} (h : EX r k R) : EX R (-k) r := by
  obtain ⟨a, b, e1, e2⟩ := h
  exact ⟨b, a, by omega, e2.symm⟩
theorem ex_of_lq {r R : Nat} {k : Int} (h1 : LQ r k R) (h2 : LQ R (-k) r) : EX r k R := by
  rcases (by omega : 0 ≤ k ∨ k < 0) with c | c
  · obtain ⟨j, hj⟩ := Int.eq_ofNat_of_zero_le c
    have e : EX r k (dbls j r) := ⟨j, 0, by omega, by rw [mg_dbls, Nat.pow_zero, Nat.mul_one]⟩
    rw [lq_unique h1 (ex_lq e)]; exact e
  · obtain ⟨j, hj⟩ : ∃ j : Nat, -k = (j : Int) := ⟨(-k).toNat, by omega⟩
    have e : EX R (-k) (dbls j R) := ⟨j, 0, by omega, by rw [mg_dbls, Nat.pow_zero, Nat.mul_one]⟩
    have e2 := lq_unique h2 (ex_lq e)
    rw [← e2] at e
    have := ex_back e
    rw [Int.neg_neg] at this; exact this
/-- what Moves says -/
def MV (x : Nat) (k : Int) : Prop := 0 < rg x ∧ rg x < 9218868437227405312 ∧ -5000 ≤ k ∧ k ≤ 5000 ∧ ∃ R, 0 < R ∧ R < 9218868437227405312 ∧ EX (rg x) k R
theorem ld_fin {x v : Nat} {k : Int} (h0 : 0 < rg x) (h1 : rg x < 9218868437227405312) (h : LD x k v) : ∃ R, LQ (rg x) k R ∧ v = wd (sg x) (min R 9218868437227405312) := by
  rcases h with ⟨_, _, h⟩ | ⟨c, _⟩
  · exact h
  · omega
theorem mv_of {x y z : Nat} {k : Int} (h0 : 0 < rg x) (h1 : rg x < 9218868437227405312) (k1 : -5000 ≤ k) (k2 : k ≤ 5000) (hy : LD x k y) (fy : fin y = true) (zy : key y ≠ 0) (hz : LD y (-k) z) (e : key z = key x) : MV x k := by
  obtain ⟨R, lq, ey⟩ := ld_fin h0 h1 hy
  have ry : rg y = min R 9218868437227405312 := by rw [ey, rg_wd (by omega)]
  have sy : sg y = sg x := by rw [ey, sg_wd (by omega)]
  unfold fin at fy; simp at fy
  have R0 : R ≠ 0 := by
    intro c; apply zy; unfold key; rw [ry, c]; simp
  have RI : R < 9218868437227405312 := by omega
  obtain ⟨R2, lq2, ez⟩ := ld_fin (x := y) (by omega) fy hz
  rw [ry, Nat.min_eq_left (by omega)] at lq2
  have e2 : min R2 9218868437227405312 = rg x := by
    rw [ez, key_wd (by omega), sy] at e
    unfold sm key at e
    cases s : sg x <;> simp only [s, Bool.false_eq_true, if_false, if_true] at e <;> omega
  have e3 : R2 = rg x := by omega
  rw [e3] at lq2
  exact ⟨h0, h1, k1, k2, R, by omega, RI, ex_of_lq lq lq2⟩
end Fd

def RM (x : Nat) (k : Int) (w : World) (e : Ending) (w' : World) : Prop := ∃ b : Bool, (b = true → Fd.MV x k) ∧ e = .returned (.bool b) ∧ ∃ n, w' = w.drewN n
set_option maxHeartbeats 2000000 in
theorem moves_c (x : Nat) (k : Int) (hx : W64 x) (w : World) : Calls Try.prog 17 #[.float .f64 x, .int .i64 k] w (RM x k w) := by
  have k0 : Fd.key 0 = 0 := by decide
  have n0 : Fd.nan 0 = false := by decide
  rcases kind4 x with ⟨h0, h1, q1, q2, q3, q4, q5⟩ | ⟨a, q1, q2, q3, q4, _⟩ | ⟨a, q1, q2, q3, q4, _⟩ | ⟨a, q1, q2, q3, q4, _⟩
  · rcases (by omega : 5000 < k ∨ (k ≤ 5000 ∧ k < -5000) ∨ (k ≤ 5000 ∧ -5000 ≤ k)) with c | ⟨c1, c2⟩ | ⟨c1, c2⟩
    · clear h0 h1 k0 n0
      go_enter Try.func17, Try.ntmps17
      go_wp2_with (go_at_call 39; refine (isFinite_c _ _).mono ?_; rintro e w' ⟨rfl, n, rfl⟩)
      go_ret
      exact ⟨false, (fun h => by cases h), rfl, _, rfl⟩
    · clear h0 h1 k0 n0
      go_enter Try.func17, Try.ntmps17
      go_wp2_with (go_at_call 39; refine (isFinite_c _ _).mono ?_; rintro e w' ⟨rfl, n, rfl⟩)
      go_ret
      exact ⟨false, (fun h => by cases h), rfl, _, rfl⟩
    · have H0 := Hd.mk h0
      have H1 := Hd.mk h1
      clear h0 h1
      go_enter Try.func17, Try.ntmps17
      go_wp2_with (go_at_call 39; refine (isFinite_c _ _).mono ?_; rintro e w' ⟨rfl, n, rfl⟩)
      refine (sLdexp_c x k hx _).mono ?_
      rintro e w' ⟨y, ly, hWy, rfl, n, rfl⟩
      have LY := Hd.mk ly
      clear ly
      cases fy : Fd.fin y
      · go_wp2_with (go_at_call 39; refine (isFinite_c _ _).mono ?_; rintro e w' ⟨rfl, n, rfl⟩)
        go_ret
        exact ⟨false, (fun h => by cases h), rfl, _, rfl⟩
      · cases zy : eqF .f64 y 0
        · go_wp2_with (go_at_call 39; refine (isFinite_c _ _).mono ?_; rintro e w' ⟨rfl, n, rfl⟩)
          refine (sLdexp_c y (-k) hWy _).mono ?_
          rintro e w' ⟨z, lz, hWz, rfl, n, rfl⟩
          have FIN : Hd (eqF .f64 z x = true → Fd.MV x k) := by
            constructor; intro h
            have ny : Fd.nan y = false := by unfold Fd.fin at fy; unfold Fd.nan; simp at fy ⊢; omega
            rw [eq64, q3] at h
            simp at h
            rw [eq64, ny, n0, k0] at zy
            simp at zy
            exact Fd.mv_of H0.out H1.out c2 c1 LY.out fy zy lz h.2
          clear lz k0 n0
          go_wp2
          go_ret
          exact ⟨_, FIN.out, rfl, _, rfl⟩
        · go_wp2_with (go_at_call 39; refine (isFinite_c _ _).mono ?_; rintro e w' ⟨rfl, n, rfl⟩)
          go_ret
          exact ⟨false, (fun h => by cases h), rfl, _, rfl⟩
  all_goals
    clear a k0 n0
    go_enter Try.func17, Try.ntmps17
    go_wp2_with (go_at_call 39; refine (isFinite_c _ _).mono ?_; rintro e w' ⟨rfl, n, rfl⟩)
    go_ret
    exact ⟨false, (fun h => by cases h), rfl, _, rfl⟩

end Go.Proofs.Ytjfoiicooleeiaa
