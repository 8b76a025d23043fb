/- FnNext32Bits: the call returns true; no condition but that the arguments are words. -/
import Derived.Test.YtkiieekpbcnfkaaC8
import Derived.Test.YtkiieekpbcnfkaaC4
namespace Go.Proofs.Ytkiieekpbcnfkaa
open Go.RowKit
theorem inf32 : Fs.nan 2139095040 = false ∧ Fs.nan 4286578688 = false ∧ Fs.key 2139095040 = 2139095040 ∧ Fs.key 4286578688 = -2139095040 := by decide
theorem next_up {x r : Nat} (hx : W32 x) (nx : Fs.nan x = false) (sx : Fs.sg x = false) (hi : x ≠ 2139095040) (h : Fs.nextQ x 2139095040 r) : r = x + 1 ∧ x + 1 < 4294967295 := by
  obtain ⟨ni, _, ki, _⟩ := inf32
  unfold Fs.nextQ at h
  rw [nx, ni, if_neg (by decide)] at h
  have hx' : x < 2147483648 := (Fs.sg_false hx).1 sx
  have kx : Fs.key x = x := Fs.key_of_lt' hx'
  have b := Fs.key_bound nx
  refine ⟨?_, by omega⟩
  rw [h]; unfold Fs.nxtV; rw [kx, ki, if_neg (by omega)]
  by_cases z : (x : Int) = 0
  · rw [if_pos z]
    have : x = 0 := by omega
    subst this; decide
  · rw [if_neg z, if_pos (by simp; omega)]
theorem next_down {x r : Nat} (hx : W32 x) (nx : Fs.nan x = false) (sx : Fs.sg x = false) (h0 : x ≠ 0) (h : Fs.nextQ x 4286578688 r) : r = x - 1 ∧ 0 < x := by
  obtain ⟨_, ni, _, ki⟩ := inf32
  unfold Fs.nextQ at h
  rw [nx, ni, if_neg (by decide)] at h
  have hx' : x < 2147483648 := (Fs.sg_false hx).1 sx
  have kx : Fs.key x = x := Fs.key_of_lt' hx'
  refine ⟨?_, by omega⟩
  rw [h]; unfold Fs.nxtV; rw [kx, ki, if_neg (by omega), if_neg (by omega), if_neg (by simp; omega)]
theorem nar_inf (w : World) : narR (Fd.infW 1) w = 2139095040 := by
  refine narR_some ?_ w
  have e : Fd.infW 1 = wide 2139095040 := by unfold wide; rw [show Fs.rg 2139095040 = 2139095040 from rfl, emb_inf]; rfl
  rw [e]; exact narO_wide (by unfold W32; decide) (by decide)
set_option maxHeartbeats 1000000 in
theorem law_FnNext32Bits (x : Nat) (hx : W32 x) (w : World) : Calls Try.prog 10 #[.float .f32 x] w (RB true w) := by
  have HI : W32 2139095040 := by unfold W32; decide
  have HJ : W32 4286578688 := by unfold W32; decide
  have g0 : ∀ w, narR (Fd.infW 1) w = 2139095040 := nar_inf
  have gn : Op.negFloat .f32 2139095040 = 4286578688 := by decide
  cases nx : Fs.nan x
  · have f1 := num_eq_s nx
    have gw : ∀ w, wideR x w = wide x := fun w => wideR_num nx w
    have hwx : W64 (wide x) := wide_lt x
    cases sx : Fs.sg x
    · have f2 : Fd.negV (wide x) = false := by rw [Fd.negV_num (nan_wide x), sg_wide, sx]
      have hx' : x < 2147483648 := (Fs.sg_false hx).1 sx
      have kx : Fs.key x = x := Fs.key_of_lt' hx'
      obtain ⟨ni, _, ki, _⟩ := inf32
      have kz : Fs.key 0 = 0 := by decide
      have nz : Fs.nan 0 = false := by decide
      by_cases e : x = 2139095040
      · have f3 : eqF .f32 x 2139095040 = true := by rw [eq32, nx, ni, kx, ki]; simp; omega
        clear e kx ki ni kz nz sx hx'
        go_enter Try.func10, Try.ntmps10
        go_wp2_with (first | (go_at_call 28; refine (sSignbit_c _ hwx _).mono ?_; rintro e w' ⟨rfl, n, rfl⟩) | (go_at_call 29; refine (sInf_c _ _).mono ?_; rintro e w' ⟨rfl, n, rfl⟩))
        go_ret
        exact ⟨rfl, _, rfl⟩
      · have f3 : eqF .f32 x 2139095040 = false := by rw [eq32, nx, ni, kx, ki]; simp; omega
        have U : Hd (∀ r, Fs.nextQ x 2139095040 r → r = x + 1 ∧ x + 1 < 4294967295) := ⟨fun r h => next_up hx nx sx e h⟩
        have f4 : eqF .f32 x 0 = decide (x = 0) := by rw [eq32, nx, nz, kx, kz, Bool.eq_iff_iff]; simp
        have D : Hd (x ≠ 0 → ∀ r, Fs.nextQ x 4286578688 r → r = x - 1 ∧ 0 < x) := ⟨fun z r h => next_down hx nx sx z h⟩
        clear e kx ki ni kz nz sx hx'
        go_enter Try.func10, Try.ntmps10
        go_wp2_with (first | (go_at_call 28; refine (sSignbit_c _ hwx _).mono ?_; rintro e w' ⟨rfl, n, rfl⟩) | (go_at_call 29; refine (sInf_c _ _).mono ?_; rintro e w' ⟨rfl, n, rfl⟩) | (go_at_call 16; refine (bitsOf32_c _ hx nx _).mono ?_; rintro e w' ⟨rfl, n, rfl⟩))
        refine (iNext32_c _ _ hx HI _).mono ?_
        rintro e w' ⟨r, hr, hW, rfl, n, rfl⟩
        obtain ⟨g1, g2⟩ := U.out r hr
        have t1 : ((r : Int) != ((x : Int) + 1) % 4294967296) = false := by rw [g1]; simp; omega
        clear g1 g2 U hr
        by_cases z : x = 0
        · have f5 : eqF .f32 x 0 = true := by rw [f4]; simp; exact z
          clear z f4 D
          go_wp2_with (first | (go_at_call 15; refine (iB32_c _ _).mono ?_; rintro e w' ⟨rfl, n, rfl⟩))
          go_ret
          exact ⟨rfl, _, rfl⟩
        · have f5 : eqF .f32 x 0 = false := by rw [f4]; simp; exact z
          have D' := Hd.mk (D.out z)
          clear z f4 D
          go_wp2_with (first | (go_at_call 15; refine (iB32_c _ _).mono ?_; rintro e w' ⟨rfl, n, rfl⟩))
          refine (iNext32_c _ _ hx HJ _).mono ?_
          rintro e w' ⟨r2, hr2, hW2, rfl, n, rfl⟩
          obtain ⟨g1, g2⟩ := D'.out r2 hr2
          have t2 : ((r2 : Int) == ((x : Int) - 1) % 4294967296) = true := by rw [g1]; unfold W32 at hx; simp; omega
          clear g1 g2 D' hr2 t1
          go_wp2_with (first | (go_at_call 15; refine (iB32_c _ _).mono ?_; rintro e w' ⟨rfl, n, rfl⟩))
          go_ret
          exact ⟨rfl, _, rfl⟩
    · have f2 : Fd.negV (wide x) = true := by rw [Fd.negV_num (nan_wide x), sg_wide, sx]
      go_enter Try.func10, Try.ntmps10
      go_wp2_with (first | (go_at_call 28; refine (sSignbit_c _ hwx _).mono ?_; rintro e w' ⟨rfl, n, rfl⟩) | (go_at_call 29; refine (sInf_c _ _).mono ?_; rintro e w' ⟨rfl, n, rfl⟩))
      go_ret
      exact ⟨rfl, _, rfl⟩
  · have f1 := nan_eq_s nx
    go_enter Try.func10, Try.ntmps10
    go_wp2_with (first | (go_at_call 29; refine (sInf_c _ _).mono ?_; rintro e w' ⟨rfl, n, rfl⟩))
    go_ret
    exact ⟨rfl, _, rfl⟩
end Go.Proofs.Ytkiieekpbcnfkaa
