/- FnSqrtScaled: the call returns true; no condition but that the arguments are words. -/
import Derived.Test.YtjfoiicooleeiaaCS
import Derived.Test.YtjfoiicooleeiaaCQ
namespace Go.Proofs.Ytjfoiicooleeiaa
open Go.RowKit
theorem moved {x x' : Nat} {k : Int} (mv : Fd.MV x k) (h : Fd.LD x k x') : Fd.sg x' = Fd.sg x ∧ 0 < Fd.rg x' ∧ Fd.rg x' < 9218868437227405312 ∧ Fd.EX (Fd.rg x) k (Fd.rg x') := by
  obtain ⟨h0, h1, _, _, R, r0, r1, ex⟩ := mv
  obtain ⟨R', lq, ey⟩ := Fd.ld_fin h0 h1 h
  have e1 := Fd.lq_unique lq (Fd.ex_lq ex)
  subst e1
  rw [Nat.min_eq_left (by omega)] at ey
  have ry : Fd.rg x' = R' := by rw [ey, Fd.rg_wd (by omega)]
  have sy : Fd.sg x' = Fd.sg x := by rw [ey, Fd.sg_wd (by omega)]
  rw [ry]; exact ⟨sy, r0, r1, ex⟩
/-- the root of x times an even power of 2 -/
theorem root_moved {r r' R R' j : Nat} (h0 : 0 < r) (h : Fd.NearS (Fd.mg r * 2 ^ Fd.LL) R) (h' : Fd.NearS (Fd.mg r' * 2 ^ Fd.LL) R') (e : Fd.mg r * (2 ^ j * 2 ^ j) = Fd.mg r') : Fd.mg R * 2 ^ j = Fd.mg R' := by
  have hi := Fd.nearS_high h0 h
  have g := Fd.nearS_dbls hi h j
  have e2 : Fd.mg r * 2 ^ Fd.LL * (2 ^ j * 2 ^ j) = Fd.mg r' * 2 ^ Fd.LL := by rw [← e]; grind
  rw [e2] at g
  have := Fd.nearS_unique g h'
  rw [← this, ← Fd.dbls_high (by omega), Fd.mg_dbls]
theorem root_ex {r r' R R' : Nat} {k : Int} (h0 : 0 < r) (h0' : 0 < r') (h : Fd.NearS (Fd.mg r * 2 ^ Fd.LL) R) (h' : Fd.NearS (Fd.mg r' * 2 ^ Fd.LL) R') (e : Fd.EX r (2 * k) r') : Fd.EX R k R' := by
  obtain ⟨a, b, ab, e⟩ := e
  rcases (by omega : 0 ≤ k ∨ k < 0) with c | c
  · obtain ⟨j, hj⟩ := Int.eq_ofNat_of_zero_le c
    refine ⟨j, 0, by omega, ?_⟩
    rw [Nat.pow_zero, Nat.mul_one]
    refine root_moved h0 h h' ?_
    apply Nat.eq_of_mul_eq_mul_right (Nat.two_pow_pos b)
    rw [← e, show a = j + j + b by omega, Nat.pow_add, Nat.pow_add]; grind
  · obtain ⟨j, hj⟩ : ∃ j : Nat, -k = (j : Int) := ⟨(-k).toNat, by omega⟩
    refine ⟨0, j, by omega, ?_⟩
    rw [Nat.pow_zero, Nat.mul_one]
    refine (root_moved h0' h' h ?_).symm
    apply Nat.eq_of_mul_eq_mul_right (Nat.two_pow_pos a)
    rw [e, show b = j + j + a by omega, Nat.pow_add, Nat.pow_add]; grind
theorem sq_scaled {x x' r r' v : Nat} {k : Int} (mv : Fd.MV x (2 * k)) (hx : Fd.LD x (2 * k) x') (hs : Fd.sg x = false) (hr : Fd.SQ x r) (hr' : Fd.SQ x' r') (hv : Fd.LD r k v) : eqF .f64 r' v = true := by
  obtain ⟨sx, x0, x1, ex⟩ := moved mv hx
  have o0 := mv.1
  have o1 := mv.2.1
  have kx : Fd.key x = Fd.rg x := by unfold Fd.key; rw [hs]; simp
  have kx' : Fd.key x' = Fd.rg x' := by unfold Fd.key; rw [sx, hs]; simp
  obtain ⟨nr, R, kr, cr⟩ := Fd.sq_key (Fd.num_of (by omega)) (by omega) hr
  obtain ⟨nr', R', kr', cr'⟩ := Fd.sq_key (Fd.num_of (by omega)) (by omega) hr'
  rcases cr with ⟨f1, f2⟩ | ⟨f1, f2⟩ | ⟨f1, f2, f3, f4, f5, ev⟩
  · omega
  · omega
  · rcases cr' with ⟨g1, g2⟩ | ⟨g1, g2⟩ | ⟨g1, g2, g3, g4, g5, ev'⟩
    · omega
    · omega
    · have e := root_ex f1 g1 f5 g5 ex
      have rr : Fd.rg r = R := by rw [ev, Fd.rg_wd (by omega)]
      have sr : Fd.sg r = false := by rw [ev, Fd.sg_wd (by omega)]
      obtain ⟨V, lq, hv⟩ := Fd.ld_fin (x := r) (by omega) (by omega) hv
      rw [rr] at lq
      have eV := Fd.lq_unique lq (Fd.ex_lq e)
      rw [hv, eV, sr, Nat.min_eq_left (by omega)]
      refine eq_in nr' (Fd.nan_wd (by omega)) ?_
      rw [kr', Fd.key_wd (by omega)]; rfl
theorem lt_out {a b : Nat} (h : ltF .f64 a b = true) : Fd.nan a = false ∧ Fd.nan b = false ∧ Fd.key a < Fd.key b := by
  rw [lt64] at h; simp at h; exact ⟨h.1.1, h.1.2, h.2⟩
set_option maxHeartbeats 2000000 in
theorem law_FnSqrtScaled (x : Nat) (k : Int) (hx : W64 x) (_hk : I64 k) (w : World) : Calls Try.prog 5 #[.float .f64 x, .int .i64 k] w (RB true w) := by
  clear _hk
  cases c : ltF .f64 0 x with
  | false =>
    go_enter Try.func5, Try.ntmps5
    go_wp2
    go_ret
    exact ⟨rfl, 0, rfl⟩
  | true =>
    have HS : Hd (Fd.sg x = false) := ⟨by
      have := (lt_out c).2.2
      rw [key0] at this
      unfold Fd.key at this
      cases hs : Fd.sg x
      · rfl
      · rw [hs] at this; simp at this; omega⟩
    rcases (by omega : 2500 < k ∨ (k ≤ 2500 ∧ k < -2500) ∨ (k ≤ 2500 ∧ -2500 ≤ k)) with c | ⟨c1, c2⟩ | ⟨c1, c2⟩
    · go_enter Try.func5, Try.ntmps5
      go_wp2
      go_ret
      exact ⟨rfl, 0, rfl⟩
    · go_enter Try.func5, Try.ntmps5
      go_wp2
      go_ret
      exact ⟨rfl, 0, rfl⟩
    · go_enter Try.func5, Try.ntmps5
      go_wp2_with fail
      refine (moves_c x (2 * k) hx _).mono ?_
      rintro e w' ⟨b, hb, rfl, n, rfl⟩
      have HB := Hd.mk hb
      clear hb
      cases b
      · go_wp2
        go_ret
        exact ⟨rfl, _, rfl⟩
      · have MX := Hd.mk (HB.out rfl)
        clear HB
        go_wp2_with fail
        refine (iSqrt_c x hx _).mono ?_
        rintro e w' ⟨r, hr, hW, rfl, n, rfl⟩
        have HR := Hd.mk hr
        have ps := (sq_pos hr).trans c
        clear hr
        go_wp2_with fail
        refine (iLdexp_c x (2 * k) hx _).mono ?_
        rintro e w' ⟨x', hx', hWx, rfl, n, rfl⟩
        have HX := Hd.mk (hx' (Or.inr (by omega)))
        clear hx'
        go_wp2_with fail
        refine (iSqrt_c x' hWx _).mono ?_
        rintro e w' ⟨r', hr', hW', rfl, n, rfl⟩
        have HR' := Hd.mk hr'
        clear hr'
        go_wp2_with fail
        refine (iLdexp_c r k hW _).mono ?_
        rintro e w' ⟨v, hv, hWv, rfl, n, rfl⟩
        have q := sq_scaled MX.out HX.out HS.out HR.out HR'.out (hv (Or.inr (by omega)))
        clear hv HX HR HR' MX HS
        go_wp2
        go_ret
        exact ⟨rfl, _, rfl⟩
end Go.Proofs.Ytjfoiicooleeiaa
