/- FnSqrtSquare: the call returns true; no condition but that the arguments are words. -/
import Derived.Test.YtjfoiicooleeiaaCS
import Derived.Test.YtjfoiicooleeiaaCQ
import Derived.Test.YtjfoiicooleeiaaDH
namespace Go.Proofs.Ytjfoiicooleeiaa
open Go.RowKit
/-- 2 to the power of k as a number -/
theorem pow_num {v : Nat} {k : Int} (k1 : -1074 ≤ k) (k2 : k ≤ 1023) (h : Fd.LD 4607182418800017408 k v) :
    Fd.nan v = false ∧ Fd.key v = (Fd.rg v : Nat) ∧ 0 < Fd.rg v ∧ ∃ j : Nat, (j : Int) = k + 1074 ∧ Fd.mg (Fd.rg v) = 2 ^ j := by
  obtain ⟨e, he⟩ : ∃ e : Nat, e = 1022 := ⟨_, rfl⟩
  have one : Fd.rg 4607182418800017408 = e * 4503599627370496 + 4503599627370496 := by rw [he]; decide
  obtain ⟨j, hj⟩ : ∃ j : Nat, k + 1074 = (j : Int) := ⟨(k + 1074).toNat, by omega⟩
  have m1 : Fd.mg (Fd.rg 4607182418800017408) = 2 ^ (e + 52) := by rw [one, Fd.mg_pow]
  have m2 : Fd.mg (Fd.dbls j 1) = 2 ^ j := by rw [Fd.mg_dbls, Fd.mg_small (by omega), Nat.one_mul]
  have ex : Fd.EX (Fd.rg 4607182418800017408) k (Fd.dbls j 1) := by
    refine ⟨j, e + 52, by omega, ?_⟩
    rw [m1, m2]; grind
  obtain ⟨R, lq, ev⟩ := Fd.ld_fin (x := 4607182418800017408) (by decide) (by decide) h
  have eR := Fd.lq_unique lq (Fd.ex_lq ex)
  have lt : Fd.dbls j 1 < 9218868437227405312 := by
    apply Fd.mg_lt_iff.1
    obtain ⟨a, ha⟩ : ∃ a : Nat, a = 2046 := ⟨_, rfl⟩
    rw [m2, Fd.mg_inf ha]
    exact Fd.pow_lt_iff.2 (by omega)
  have pos : 0 < Fd.dbls j 1 := Fd.dbls_pos (by omega)
  rw [eR, Nat.min_eq_left (by omega), show Fd.sg 4607182418800017408 = false by decide] at ev
  have rv : Fd.rg v = Fd.dbls j 1 := by rw [ev, Fd.rg_wd (by omega)]
  refine ⟨by rw [ev]; exact Fd.nan_wd (by omega), ?_, by rw [rv]; exact pos, j, by omega, by rw [rv, m2]⟩
  rw [rv, ev, Fd.key_wd (by omega)]; rfl

theorem sq_square {x a b : Nat} (_hx : W64 x) (ha : Fd.LD 4607182418800017408 (-500) a) (hb : Fd.LD 4607182418800017408 500 b) (h1 : Fd.rg a ≤ Fd.rg x) (h2 : Fd.rg x ≤ Fd.rg b) :
    ∃ u, arith .mul .f64 x x = some u ∧ W64 u ∧ ∀ c, Fd.SQ u c → Fd.nan c = false ∧ Fd.key c = (Fd.rg x : Nat) := by
  obtain ⟨_, _, _, j, hj, ma⟩ := pow_num (by omega) (by omega) ha
  obtain ⟨nb, _, _, i, hi, mb⟩ := pow_num (by omega) (by omega) hb
  have L := Fd.LL_eq
  have hp : 0 < 2 ^ Fd.LL := Nat.two_pow_pos Fd.LL
  have g1 := Fd.mg_le h1
  have g2 := Fd.mg_le h2
  rw [ma] at g1
  rw [mb] at g2
  have fx : Fd.rg x < 9218868437227405312 := by
    apply Fd.mg_lt_iff.1
    obtain ⟨t, ht⟩ : ∃ t : Nat, t = 2046 := ⟨_, rfl⟩
    rw [Fd.mg_inf ht]
    exact Nat.lt_of_le_of_lt g2 (Fd.pow_lt_iff.2 (by omega))
  obtain ⟨p, nr, e⟩ := Fd.mul_fin fx fx
  obtain ⟨ns, pB⟩ := Fd.nearS_sq (n := j) (by omega) g1 nr
  have pI : p < 9218868437227405312 := by
    have m : Fd.mg ((i + i - Fd.LL - 52) * 4503599627370496 + 4503599627370496) * 2 ^ Fd.LL = 2 ^ (i + i) := by
      rw [Fd.mg_pow, Fd.pow_sum, show i + i - Fd.LL - 52 + 52 + Fd.LL = i + i by omega]
    have := Fd.mg_mono_max nr hp ((i + i - Fd.LL - 52) * 4503599627370496 + 4503599627370496) (by
      rw [m, ← Fd.pow_sum]; exact Nat.mul_le_mul g2 g2)
    omega
  rw [Nat.min_eq_left (by omega), Bool.xor_self] at e
  refine ⟨_, e, Fd.wd_lt (by omega), fun c hc => ?_⟩
  have ru : Fd.rg (Fd.wd false p) = p := Fd.rg_wd (by omega)
  have ku : Fd.key (Fd.wd false p) = (p : Nat) := by rw [Fd.key_wd (by omega)]; rfl
  obtain ⟨nc, C, kc, cc⟩ := Fd.sq_key (Fd.num_of (by omega)) (by omega) hc
  refine ⟨nc, ?_⟩
  rcases cc with ⟨f1, f2⟩ | ⟨f1, f2⟩ | ⟨f1, f2, f3, f4, f5, _⟩
  · omega
  · omega
  · rw [ru] at f5
    rw [kc, Fd.nearS_unique f5 ns]
set_option maxHeartbeats 2000000 in
theorem law_FnSqrtSquare (x : Nat) (hx : W64 x) (w : World) : Calls Try.prog 4 #[.float .f64 x] w (RB true w) := by
  go_enter Try.func4, Try.ntmps4
  go_wp2_with fail
  refine (lsize_c x hx _).mono ?_
  rintro e w' ⟨s, hs, hWs, rfl, n, rfl⟩
  have HS := Hd.mk hs
  clear hs
  go_wp2_with fail
  refine (sLdexp_c 4607182418800017408 (-500) (by unfold W64; decide) _).mono ?_
  rintro e w' ⟨a, ha, hWa, rfl, n, rfl⟩
  have HA := Hd.mk ha
  clear ha
  cases c1 : leF .f64 a s with
  | false =>
    go_wp2
    go_ret
    exact ⟨rfl, _, rfl⟩
  | true =>
    go_wp2_with fail
    refine (lsize_c x hx _).mono ?_
    rintro e w' ⟨s2, hs2, hWs2, rfl, n, rfl⟩
    have HS2 := Hd.mk hs2
    clear hs2
    go_wp2_with fail
    refine (sLdexp_c 4607182418800017408 500 (by unfold W64; decide) _).mono ?_
    rintro e w' ⟨b, hb, hWb, rfl, n, rfl⟩
    have HB := Hd.mk hb
    clear hb
    cases c2 : ltF .f64 b s2 with
    | true =>
      go_wp2
      go_ret
      exact ⟨rfl, _, rfl⟩
    | false =>
      have nx : Fd.nan x = false := by
        obtain ⟨_, ns, _⟩ := le_out c1
        cases h : Fd.nan x
        · rfl
        · rw [HS.out.1 h, h] at ns; cases ns
      obtain ⟨_, k1⟩ := HS.out.2 nx
      obtain ⟨n2, k2⟩ := HS2.out.2 nx
      have p1 := pow_num (by omega) (by omega) HA.out
      have p2 := pow_num (by omega) (by omega) HB.out
      have l1 : Fd.rg a ≤ Fd.rg x := by
        have := (le_out c1).2.2
        rw [k1, p1.2.1] at this; omega
      have l2 : Fd.rg x ≤ Fd.rg b := by
        rw [lt64, p2.1, n2, k2, p2.2.1] at c2
        simp at c2; omega
      obtain ⟨u, e1, hu, H⟩ := sq_square hx HA.out HB.out l1 l2
      have r1 : ∀ w, res .mul .f64 x x w = u := fun w => res_some e1 w
      have HC := Hd.mk H
      have NX := Hd.mk nx
      clear H e1 HS HS2 HA HB nx k1 n2 k2 p1 p2 l1 l2
      go_wp2_with fail
      refine (iSqrt_c u hu _).mono ?_
      rintro e w' ⟨r, hr, hW, rfl, n, rfl⟩
      have HR := Hd.mk (HC.out r hr)
      clear hr HC
      go_wp2_with fail
      refine (lsize_c x hx _).mono ?_
      rintro e w' ⟨s3, hs3, hWs3, rfl, n, rfl⟩
      have q : eqF .f64 r s3 = true := by
        obtain ⟨n3, k3⟩ := hs3.2 NX.out
        exact eq_in HR.out.1 n3 (by rw [HR.out.2, k3])
      clear hs3 HR NX
      go_wp2
      go_ret
      exact ⟨rfl, _, rfl⟩
end Go.Proofs.Ytjfoiicooleeiaa
