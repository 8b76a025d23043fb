/- FnFMARest: the call returns true; no condition but that the arguments are words. -/
import Derived.Test.YtjfoiicooleeiaaCV
import Derived.Test.YtjfoiicooleeiaaCF
namespace Go.Proofs.Ytjfoiicooleeiaa
open Go.RowKit
theorem i2f_any {n : Int} {m : Nat} (hm : n.natAbs = m) (h : m ≤ 9007199254740992) : i2f n = Fd.wd (decide (n < 0)) (Fd.ofN m) := by
  subst hm
  unfold i2f FloatKind.nearest FloatKind.encode
  exact Fd.nearest_ofN _ h
theorem sm_of (a : Int) : a = Fd.sm (decide (a < 0)) a.natAbs := by
  unfold Fd.sm
  by_cases h : a < 0
  · rw [if_pos (by simpa using h)]; omega
  · rw [if_neg (by simpa using h)]; omega
theorem sm_times (s t : Bool) (a b : Nat) : Fd.sm s a * Fd.sm t b = Fd.sm (s ^^ t) (a * b) := by
  unfold Fd.sm; cases s <;> cases t <;> simp [Int.neg_mul, Int.mul_neg]
/-- what the law needs of the product and of the rest -/
theorem rest_law {a b : Int} (h1 : a.natAbs ≤ 9007199254740992) (h2 : b.natAbs ≤ 9007199254740992) :
    ∃ p e P E s t, arith .mul .f64 (i2f a) (i2f b) = some p ∧ W64 p ∧ Ieee.double.fma (i2f a) (i2f b) (Fd.ng p) = some e ∧
      Fd.sg p = s ∧ Fd.rg p < 9218868437227405312 ∧ Fd.mg (Fd.rg p) = P * 2 ^ Fd.LL ∧ P < 2 ^ 110 ∧
      Fd.sg e = t ∧ Fd.rg e < 9218868437227405312 ∧ Fd.mg (Fd.rg e) = E * 2 ^ Fd.LL ∧ E < 2 ^ 110 ∧ Fd.rg e ≤ Fd.rg 4841369599423283200 ∧ Fd.sm s P + Fd.sm t E = a * b := by
  rw [i2f_any rfl h1, i2f_any rfl h2]
  have L := Fd.LL_eq
  obtain ⟨P, Q, e1, hP, hQ, t, D, hD, Db, st, e2⟩ := Fd.rest_facts (sa := decide (a < 0)) (sb := decide (b < 0)) h1 h2
  have oD := Fd.ofN_lt (m := D.natAbs) (by omega)
  have M : a * b = Fd.sm (decide (a < 0) ^^ decide (b < 0)) (a.natAbs * b.natAbs) := by
    rw [← sm_times, ← sm_of, ← sm_of]
  have M106 : a.natAbs * b.natAbs ≤ 2 ^ 106 := by
    have := Nat.mul_le_mul h1 h2
    have e : 9007199254740992 * 9007199254740992 = 2 ^ 106 := by decide
    omega
  have m52 : Fd.ofN D.natAbs ≤ Fd.rg 4841369599423283200 := by
    apply Fd.mg_le_iff.1
    rw [Fd.mg_ofN (m := D.natAbs) (by omega) L]
    obtain ⟨e, he⟩ : ∃ e : Nat, e = 1074 := ⟨_, rfl⟩
    have r1 : Fd.rg 4841369599423283200 = e * 4503599627370496 + 4503599627370496 := by rw [he]; decide
    rw [r1, Fd.mg_pow, show e + 52 = 52 + Fd.LL by omega, ← Fd.pow_sum]
    exact Nat.mul_le_mul_right _ Db
  refine ⟨_, _, Q, D.natAbs, _, t, e1, Fd.wd_lt (by omega), e2, Fd.sg_wd (by omega), ?_, ?_, ?_, Fd.sg_wd (by omega), ?_, ?_, ?_, ?_, ?_⟩
  · rw [Fd.rg_wd (by omega)]; exact hP
  · rw [Fd.rg_wd (by omega)]; exact hQ
  · have : Q ≤ 2 ^ 106 + 2 ^ 52 := by
      revert hD
      unfold Fd.sm
      generalize a.natAbs * b.natAbs = M at *
      split <;> omega
    have : (2 : Nat) ^ 106 + 2 ^ 52 < 2 ^ 110 := by decide
    omega
  · rw [Fd.rg_wd (by omega)]; exact oD
  · rw [Fd.rg_wd (by omega)]; exact Fd.mg_ofN (by omega) L
  · have : (4503599627370496 : Nat) < 2 ^ 110 := by decide
    omega
  · rw [Fd.rg_wd (by omega)]; exact m52
  · rw [st, hD, M]; omega
set_option maxHeartbeats 2000000 in
theorem law_FnFMARest (a b : Int) (_ha : I64 a) (_hb : I64 b) (w : World) : Calls Try.prog 10 #[.int .i64 a, .int .i64 b] w (RB true w) := by
  unfold I64 at _ha _hb
  by_cases c : (a ≤ 9007199254740992 ∧ -9007199254740992 ≤ a) ∧ (b ≤ 9007199254740992 ∧ -9007199254740992 ≤ b)
  · obtain ⟨⟨a1, a2⟩, b1, b2⟩ := c
    obtain ⟨p, e, P, E, s, t, e1, hWp, e2, sp, rp, mp, bp, se, re, me, be, l52, fin⟩ := rest_law (a := a) (b := b) (by omega) (by omega)
    have r1 : ∀ w, res .mul .f64 (i2f a) (i2f b) w = p := fun w => res_some e1 w
    have gp : Op.negFloat .f64 p = Fd.ng p := negF_W hWp
    have H := Hd.mk (And.intro sp (And.intro rp (And.intro mp bp)))
    have G := Hd.mk (And.intro se (And.intro re (And.intro me (And.intro be (And.intro l52 fin)))))
    have E1 := Hd.mk e1
    have E2 := Hd.mk e2
    clear e1 e2 sp rp mp bp se re me be l52 fin
    go_enter Try.func10, Try.ntmps10
    go_wp2_with fail
    refine (iFMA_c (i2f a) (i2f b) (Fd.ng p) _).mono ?_
    rintro e' w' ⟨v, hv, hWv, rfl, n, rfl⟩
    have ev : e = v := by
      rcases hv with h | ⟨h, _⟩
      · rw [E2.out] at h; cases h; rfl
      · rw [E2.out] at h; cases h
    subst ev
    have FZ := Hd.mk (Fd.fma_zero E2.out)
    clear hv E2
    go_wp2_with fail
    refine (low_c p P hWp H.out.2.1 H.out.2.2.1 H.out.2.2.2 _).mono ?_
    rintro e' w' ⟨rfl, n, rfl⟩
    go_wp2_with fail
    refine (low_c e E hWv G.out.2.1 G.out.2.2.1 G.out.2.2.2.1 _).mono ?_
    rintro e' w' ⟨rfl, n, rfl⟩
    rw [H.out.1, G.out.1]
    obtain ⟨lp, hlp⟩ : ∃ lp, lp = lowV s P := ⟨_, rfl⟩
    obtain ⟨le, hle⟩ : ∃ le, le = lowV t E := ⟨_, rfl⟩
    have Q := Hd.mk (And.intro hlp hle)
    rw [← hlp, ← hle]
    have q0 : (IntKind.u64.wrap (lp + le) == IntKind.u64.wrap (IntKind.u64.wrap a * IntKind.u64.wrap b)) = true := by
      have m : (a % 18446744073709551616) * (b % 18446744073709551616) % 18446744073709551616 = (a * b) % 18446744073709551616 := by
        rw [← Int.mul_emod]
      have f := G.out.2.2.2.2.2
      rw [beq_iff_eq, hlp, hle, IntKind.wrap_u64, IntKind.wrap_u64, IntKind.wrap_u64, IntKind.wrap_u64, m, ← f]
      unfold lowV
      rw [← Int.add_emod]
    clear hlp hle
    go_wp2_with fail
    refine (lsize_c e hWv _).mono ?_
    rintro e' w' ⟨z, hz, hWz, rfl, n, rfl⟩
    have ne : Fd.nan e = false := Fd.num_of (by have := G.out.2.1; omega)
    have q1 : leF .f64 z 4841369599423283200 = true := by
      obtain ⟨z1, z2⟩ := hz.2 ne
      refine le_in z1 (by decide) ?_
      rw [z2]
      have := G.out.2.2.2.2.1
      have k : Fd.key 4841369599423283200 = (Fd.rg 4841369599423283200 : Nat) := by decide
      rw [k]; omega
    clear hz ne
    go_wp2_with fail
    refine (iFMA_c (i2f a) (i2f b) 0 _).mono ?_
    rintro e' w' ⟨v, hv, hWv2, rfl, n, rfl⟩
    have q2 : eqF .f64 v p = true := by
      obtain ⟨u, u', m1, m2, m3, m4, _⟩ := FZ.out
      have mu : arith .mul .f64 (i2f a) (i2f b) = some u := m1
      rw [E1.out] at mu
      cases mu
      rcases hv with h | ⟨h, _⟩
      · rw [m2] at h; cases h
        exact eq_in (Fd.fma_num m2).2 m4 m3
      · rw [m2] at h; cases h
    clear hv FZ
    go_wp2
    go_ret
    exact ⟨rfl, _, rfl⟩
  · rcases (by omega : 9007199254740992 < a ∨ (a ≤ 9007199254740992 ∧ a < -9007199254740992) ∨ (a ≤ 9007199254740992 ∧ -9007199254740992 ≤ a ∧ 9007199254740992 < b) ∨ (a ≤ 9007199254740992 ∧ -9007199254740992 ≤ a ∧ b ≤ 9007199254740992 ∧ b < -9007199254740992)) with c | ⟨c1, c2⟩ | ⟨c1, c2, c3⟩ | ⟨c1, c2, c3, c4⟩
    all_goals
      go_enter Try.func10, Try.ntmps10
      go_wp2
      go_ret
      exact ⟨rfl, 0, rfl⟩
end Go.Proofs.Ytjfoiicooleeiaa
