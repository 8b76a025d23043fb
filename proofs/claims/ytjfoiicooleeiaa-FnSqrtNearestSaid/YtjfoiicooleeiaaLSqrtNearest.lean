/- FnSqrtNearest: the call returns true; no condition but that the arguments are words. -/
import Derived.Test.YtjfoiicooleeiaaCS
import Derived.Test.YtjfoiicooleeiaaCQ
import Derived.Test.YtjfoiicooleeiaaDI
import Derived.Test.YtjfoiicooleeiaaC4
import Derived.Test.YtjfoiicooleeiaaCF
namespace Go.Proofs.Ytjfoiicooleeiaa
open Go.RowKit
/-- 2 to the power of k as a number -/
theorem pow_num {v : Nat} {k : Int} (k1 : -1074 ≤ k) (k2 : k ≤ 1023) (h : Fd.LD 4607182418800017408 k v) :
    Fd.nan v = false ∧ Fd.key v = (Fd.rg v : Nat) ∧ 0 < Fd.rg v ∧ ∃ j : Nat, (j : Int) = k + 1074 ∧ Fd.mg (Fd.rg v) = 2 ^ j := by
  obtain ⟨e, he⟩ : ∃ e : Nat, e = 1022 := ⟨_, rfl⟩
  have one : Fd.rg 4607182418800017408 = e * 4503599627370496 + 4503599627370496 := by rw [he]; decide
  obtain ⟨j, hj⟩ : ∃ j : Nat, k + 1074 = (j : Int) := ⟨(k + 1074).toNat, by omega⟩
  have m1 : Fd.mg (Fd.rg 4607182418800017408) = 2 ^ (e + 52) := by rw [one, Fd.mg_pow]
  have m2 : Fd.mg (Fd.dbls j 1) = 2 ^ j := by rw [Fd.mg_dbls, Fd.mg_small (by omega), Nat.one_mul]
  have ex : Fd.EX (Fd.rg 4607182418800017408) k (Fd.dbls j 1) := by
    refine ⟨j, e + 52, by omega, ?_⟩
    rw [m1, m2]; grind
  obtain ⟨R, lq, ev⟩ := Fd.ld_fin (x := 4607182418800017408) (by decide) (by decide) h
  have eR := Fd.lq_unique lq (Fd.ex_lq ex)
  have lt : Fd.dbls j 1 < 9218868437227405312 := by
    apply Fd.mg_lt_iff.1
    obtain ⟨a, ha⟩ : ∃ a : Nat, a = 2046 := ⟨_, rfl⟩
    rw [m2, Fd.mg_inf ha]
    exact Fd.pow_lt_iff.2 (by omega)
  have pos : 0 < Fd.dbls j 1 := Fd.dbls_pos (by omega)
  rw [eR, Nat.min_eq_left (by omega), show Fd.sg 4607182418800017408 = false by decide] at ev
  have rv : Fd.rg v = Fd.dbls j 1 := by rw [ev, Fd.rg_wd (by omega)]
  refine ⟨by rw [ev]; exact Fd.nan_wd (by omega), ?_, by rw [rv]; exact pos, j, by omega, by rw [rv, m2]⟩
  rw [rv, ev, Fd.key_wd (by omega)]; rfl

/-- the sign of FMA by its exact value -/
theorem fma_sign {x y z v : Nat} (hx : Fd.rg x < 9218868437227405312) (hy : Fd.rg y < 9218868437227405312) (hz : Fd.rg z < 9218868437227405312) (h : FQ x y z v) :
    Fd.nan v = false ∧ (Fd.TT x y z ≤ -((2 ^ Fd.LL : Nat) : Int) → Fd.key v < 0) ∧ (0 ≤ Fd.TT x y z → 0 ≤ Fd.key v) := by
  obtain ⟨t, nr, e⟩ := Fd.fma_fin hx hy hz
  have hp : 0 < 2 ^ Fd.LL := Nat.two_pow_pos Fd.LL
  have hv : v = Fd.wd (Fd.sgT (Fd.sg x ^^ Fd.sg y) (Fd.sg z) (Fd.TT x y z)) (min t 9218868437227405312) := by
    rcases h with h | ⟨h, _⟩
    · rw [e] at h; cases h; rfl
    · rw [e] at h; cases h
  have hk : Fd.key v = Fd.sm (Fd.sgT (Fd.sg x ^^ Fd.sg y) (Fd.sg z) (Fd.TT x y z)) (min t 9218868437227405312) := by
    rw [hv, Fd.key_wd (by omega)]
  refine ⟨by rw [hv]; exact Fd.nan_wd (by omega), fun g => ?_, fun g => ?_⟩
  · have t1 : 1 ≤ t := by
      refine Fd.mg_mono_min nr hp 1 ?_
      rw [show Fd.mg 1 = 1 by decide, Nat.one_mul]
      omega
    rw [hk]
    unfold Fd.sgT
    rw [if_neg (by omega)]
    unfold Fd.sm
    rw [if_pos (by simp; omega)]
    omega
  · rw [hk]
    by_cases c : Fd.TT x y z = 0
    · rw [c] at nr
      have t0 : t = 0 := Fd.near_unique hp hp nr (Fd.near_exact 0 (2 ^ Fd.LL) hp) (by rw [Fd.mg_zero]; simp)
      rw [t0]; unfold Fd.sm; simp
    · unfold Fd.sgT
      rw [if_neg c]
      unfold Fd.sm
      rw [if_neg (by simp; omega)]
      omega
theorem tt_neg {R P x : Nat} (hR : R < 9223372036854775808) (hP : P < 9223372036854775808) (hx : W64 x) (hs : Fd.sg x = false) :
    Fd.TT R P (Fd.ng x) = (Fd.mg R * Fd.mg P : Nat) - ((Fd.mg (Fd.rg x) * 2 ^ Fd.LL : Nat) : Int) := by
  unfold Fd.TT
  obtain ⟨a1, a2⟩ := pos_word hR
  obtain ⟨b1, b2⟩ := pos_word hP
  rw [a1, a2, b1, b2, Fd.rg_ng hx, Fd.sg_ng hx, hs]
  unfold Fd.sm
  simp only [Bool.not_false, if_true, Bool.xor_false, Bool.false_eq_true, if_false]
  omega
/-- what the law needs of the root -/
theorem near_facts {x a r : Nat} (hx : W64 x) (ha : Fd.LD 4607182418800017408 (-900) a) (hle : leF .f64 a x = true) (hf : Fd.fin x = true) (hr : Fd.SQ x r) :
    (∀ p v, Fd.nextQ r 0 p → FQ r p (Fd.ng x) v → ltF .f64 v 0 = true) ∧ (∀ p v, Fd.nextQ r 9218868437227405312 p → FQ r p (Fd.ng x) v → leF .f64 0 v = true) := by
  obtain ⟨na, ka, a0, j, hj, ma⟩ := pow_num (by omega) (by omega) ha
  obtain ⟨_, nx, kx⟩ := le_out hle
  have kx0 : 0 < Fd.key x := by omega
  obtain ⟨k1, k2⟩ := Fd.key_nonneg (x := x) (by omega)
  have hs : Fd.sg x = false := by
    rcases k2 with k | k
    · exact k
    · omega
  have fx : Fd.rg x < 9218868437227405312 := by unfold Fd.fin at hf; simpa using hf
  obtain ⟨nr, R, kr, cr⟩ := Fd.sq_key nx (by omega) hr
  rcases cr with ⟨f1, f2⟩ | ⟨f1, f2⟩ | ⟨f1, f2, f3, f4, f5, ev⟩
  · omega
  · omega
  have er : r = R := by rw [ev]; rfl
  have m0 : 2 ^ 174 ≤ Fd.mg (Fd.rg x) := by
    have := Fd.mg_le (show Fd.rg a ≤ Fd.rg x by omega)
    rw [ma, show j = 174 by omega] at this
    exact this
  obtain ⟨b1, b2⟩ := Fd.root_below m0 f5
  have c1 := Fd.root_above (by omega) f5
  have far := Fd.root_far f2 f5
  have ki : Fd.key 9218868437227405312 = 9218868437227405312 := by decide
  have ni : Fd.nan 9218868437227405312 = false := by decide
  have rR : Fd.rg R = R := (pos_word (by omega)).2
  have rx : Fd.rg (Fd.ng x) = Fd.rg x := Fd.rg_ng hx
  rw [er] at nr kr ⊢
  constructor
  · intro p v hp hv
    have ep : p = R - 1 := by
      unfold Fd.nextQ at hp
      rw [nr, nan0, if_neg (by decide)] at hp
      rw [hp]; unfold Fd.nxtV
      rw [kr, key0, if_neg (by omega), if_neg (by omega), if_neg (by simp; omega)]
    have rp : Fd.rg p = p := (pos_word (by omega)).2
    obtain ⟨g1, g2, _⟩ := fma_sign (by omega) (by omega) (by omega) hv
    refine lt_in g1 nan0 ?_
    rw [key0]
    apply g2
    rw [tt_neg (by omega) (by omega) hx hs, ep]
    omega
  · intro p v hp hv
    have ep : p = R + 1 := by
      unfold Fd.nextQ at hp
      rw [nr, ni, if_neg (by decide)] at hp
      rw [hp]; unfold Fd.nxtV
      rw [kr, ki, if_neg (by omega), if_neg (by omega), if_pos (by rw [Bool.eq_iff_iff]; simp; omega)]
    have rp : Fd.rg p = p := (pos_word (by omega)).2
    obtain ⟨g1, _, g3⟩ := fma_sign (by omega) (by omega) (by omega) hv
    refine le_in nan0 g1 ?_
    rw [key0]
    apply g3
    rw [tt_neg (by omega) (by omega) hx hs, ep]
    omega
set_option maxHeartbeats 2000000 in
theorem law_FnSqrtNearest (x : Nat) (hx : W64 x) (w : World) : Calls Try.prog 6 #[.float .f64 x] w (RB true w) := by
  have gx : Op.negFloat .f64 x = Fd.ng x := negF_W hx
  go_enter Try.func6, Try.ntmps6
  go_wp2_with fail
  refine (sLdexp_c 4607182418800017408 (-900) (by unfold W64; decide) _).mono ?_
  rintro e w' ⟨a, ha, hWa, rfl, n, rfl⟩
  have HA := Hd.mk ha
  clear ha
  cases c1 : leF .f64 a x with
  | false =>
    go_wp2
    go_ret
    exact ⟨rfl, _, rfl⟩
  | true =>
    cases c2 : Fd.fin x with
    | false =>
      go_wp2_with (first | (go_at_call 19; refine (sIsFinite_c _ _).mono ?_; rintro e w' ⟨rfl, n, rfl⟩))
      go_ret
      exact ⟨rfl, _, rfl⟩
    | true =>
      go_wp2_with (first | (go_at_call 19; refine (sIsFinite_c _ _).mono ?_; rintro e w' ⟨rfl, n, rfl⟩))
      refine (iSqrt_c x hx _).mono ?_
      rintro e w' ⟨r, hr, hW, rfl, n, rfl⟩
      have HF := Hd.mk (near_facts hx HA.out c1 c2 hr)
      clear hr HA
      go_wp2_with fail
      refine (iNext_c r 0 hW (by unfold W64; decide) _).mono ?_
      rintro e w' ⟨p, hp, hWp, rfl, n, rfl⟩
      have HP := Hd.mk hp
      clear hp
      go_wp2_with fail
      refine (iFMA_c r p (Fd.ng x) _).mono ?_
      rintro e w' ⟨v, hv, hWv, rfl, n, rfl⟩
      have q1 := HF.out.1 p v HP.out hv
      clear hv HP
      go_wp2_with fail
      refine (sInf_c 1 _).mono ?_
      rintro e w' ⟨rfl, n, rfl⟩
      have ei : Fd.infW 1 = 9218868437227405312 := by decide
      rw [ei]
      clear ei
      go_wp2_with fail
      refine (iNext_c r 9218868437227405312 hW (by unfold W64; decide) _).mono ?_
      rintro e w' ⟨p2, hp2, hWp2, rfl, n, rfl⟩
      have HP2 := Hd.mk hp2
      clear hp2
      go_wp2_with fail
      refine (iFMA_c r p2 (Fd.ng x) _).mono ?_
      rintro e w' ⟨v2, hv2, hWv2, rfl, n, rfl⟩
      have q2 := HF.out.2 p2 v2 HP2.out hv2
      clear hv2 HP2 HF
      go_wp2
      go_ret
      exact ⟨rfl, _, rfl⟩
end Go.Proofs.Ytjfoiicooleeiaa
