/- FnSqrtWhole: the call returns true; no condition but that the arguments are words. -/
import Derived.Test.YtmdenmldbmafgaaCS
namespace Go.Proofs.Ytmdenmldbmafgaa
open Go.RowKit
theorem i2f_any {n : Int} {m : Nat} (hm : n.natAbs = m) (h : m ≤ 9007199254740992) : i2f n = Fd.wd (decide (n < 0)) (Fd.ofN m) := by
  subst hm
  unfold i2f FloatKind.nearest FloatKind.encode
  exact Fd.nearest_ofN _ h
theorem whole_root {p m c : Nat} (hp : p = m * m) (hm : m ≤ 67108864) (h : Fd.SQ (Fd.ofN p) c) : Fd.nan c = false ∧ Fd.key c = (Fd.ofN m : Nat) := by
  have pb : p ≤ 9007199254740992 := by
    have := Nat.mul_le_mul hm hm
    omega
  have l := Fd.ofN_lt pb
  have k : Fd.key (Fd.ofN p) = (Fd.ofN p : Nat) := Fd.key_of_lt' (by omega)
  have rr : Fd.rg (Fd.ofN p) = Fd.ofN p := by have := (Fd.key_nonneg (x := Fd.ofN p) (by omega)).1; omega
  obtain ⟨nc, C, kc, cc⟩ := Fd.sq_key (Fd.num_of (by omega)) (by omega) h
  refine ⟨nc, ?_⟩
  suffices g : C = Fd.ofN m by rw [kc, g]
  have L := Fd.LL_eq
  have mp := Fd.mg_ofN pb L
  have mm := Fd.mg_ofN (m := m) (by omega) L
  rcases cc with ⟨f1, f2⟩ | ⟨f1, f2⟩ | ⟨f1, f2, f3, f4, f5, _⟩
  · have z : Fd.ofN p = 0 := by omega
    rw [z, Fd.mg_zero] at mp
    have : p = 0 := by
      rcases Nat.eq_zero_or_pos p with q | q
      · exact q
      · have := Nat.mul_pos q (Nat.two_pow_pos Fd.LL); omega
    have m0 : m = 0 := by
      rcases Nat.eq_zero_or_pos m with q | q
      · exact q
      · have := Nat.mul_pos q q; omega
    apply Fd.mg_inj.1
    rw [mm, m0, f2, Fd.mg_zero, Nat.zero_mul]
  · omega
  · refine Fd.nearS_unique f5 ?_
    rw [rr, mp]
    have e : p * 2 ^ Fd.LL * 2 ^ Fd.LL = Fd.mg (Fd.ofN m) * Fd.mg (Fd.ofN m) := by rw [mm, hp]; grind
    rw [e]; exact Fd.nearS_exact _
set_option maxHeartbeats 1000000 in
theorem law_FnSqrtWhole (n : Int) (_hn : I64 n) (w : World) : Calls Try.prog 13 #[.int .i64 n] w (RB true w) := by
  clear _hn
  rcases (by omega : 67108864 < n ∨ (n ≤ 67108864 ∧ n < -67108864) ∨ (n ≤ 67108864 ∧ -67108864 ≤ n)) with c | ⟨c1, c2⟩ | ⟨c1, c2⟩
  · go_enter Try.func13, Try.ntmps13
    go_wp2
    go_ret
    exact ⟨rfl, 0, rfl⟩
  · go_enter Try.func13, Try.ntmps13
    go_wp2
    go_ret
    exact ⟨rfl, 0, rfl⟩
  · obtain ⟨m, hm⟩ : ∃ m : Nat, n.natAbs = m := ⟨_, rfl⟩
    have mb : m ≤ 67108864 := by omega
    obtain ⟨p, hp⟩ : ∃ p : Nat, p = m * m := ⟨_, rfl⟩
    have np : n * n = (p : Int) := by
      rw [hp]
      rcases (by omega : n = (m : Int) ∨ n = -(m : Int)) with e | e
      · rw [e]; rfl
      · rw [e]; rw [Int.neg_mul_neg]; rfl
    have pb : p ≤ 4503599627370496 := by
      have := Nat.mul_le_mul mb mb
      omega
    have i1 : i2f (p : Int) = Fd.ofN p := i2f_nat (by omega)
    have i2 : i2f n = Fd.wd (decide (n < 0)) (Fd.ofN m) := i2f_any hm (by omega)
    have ol := Fd.ofN_lt (m := p) (by omega)
    have ml := Fd.ofN_lt (m := m) (by omega)
    obtain ⟨z, hz⟩ : ∃ z, z = i2f n := ⟨_, rfl⟩
    have wz : W64 z := by rw [hz, i2]; exact Fd.wd_lt (by omega)
    have nz : Fd.nan z = false := by rw [hz, i2]; exact Fd.nan_wd (by omega)
    have rz : Hd (Fd.rg z = Fd.ofN m) := ⟨by rw [hz, i2]; exact Fd.rg_wd (by omega)⟩
    have q0 : i2f n = z := hz.symm
    have HP : Hd (p = m * m ∧ m ≤ 67108864) := ⟨⟨hp, mb⟩⟩
    have wo : W64 (Fd.ofN p) := by unfold W64; omega
    obtain ⟨o, ho⟩ : ∃ o, o = Fd.ofN p := ⟨_, rfl⟩
    rw [← ho] at wo i1
    have HO := Hd.mk ho
    clear hz i2 hm hp mb ol ml ho
    go_enter Try.func13, Try.ntmps13
    go_wp2_with fail
    refine (iSqrt_c o wo _).mono ?_
    rintro e w' ⟨r, hr, hW, rfl, n, rfl⟩
    rw [HO.out] at hr
    obtain ⟨nr, kr⟩ := whole_root HP.out.1 HP.out.2 hr
    have HR := Hd.mk kr
    clear hr kr
    go_wp2_with fail
    refine (lsize_c z wz _).mono ?_
    rintro e w' ⟨s, ⟨_, hs⟩, hWs, rfl, n, rfl⟩
    have q : eqF .f64 r s = true := by
      obtain ⟨a, b⟩ := hs nz
      exact eq_in nr a (by rw [HR.out, b, rz.out])
    clear hs
    go_wp2
    go_ret
    exact ⟨rfl, _, rfl⟩
end Go.Proofs.Ytmdenmldbmafgaa
