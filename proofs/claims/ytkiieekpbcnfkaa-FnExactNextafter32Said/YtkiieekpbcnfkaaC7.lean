/- Contracts of the reference's fields and bits, the formats written out; conditions: as told in each line. -/
import Derived.Test.YtkiieekpbcnfkaaC6
namespace Go.Proofs.Ytkiieekpbcnfkaa
open Go.RowKit

set_option maxHeartbeats 1000000 in
theorem fields64_c (s : Bool) (E f : Nat) (hE : E ≤ 2047) (hf : f < 4503599627370496) (w : World) :
    Calls Try.prog 42 #[.bool s, .int .i64 (E : Int), .int .u64 (f : Int), .int .i64 53, .int .i64 2047] w (RF (fun r => Fd.sameV (Fd.wd s (E * 4503599627370496 + f)) r = true) w) := by
  rcases (by omega : (E = 2047 ∧ 0 < f) ∨ (E = 2047 ∧ f = 0) ∨ (E = 0) ∨ (0 < E ∧ E < 2047)) with ⟨h1, h2⟩ | ⟨h1, h2⟩ | h1 | ⟨h1, h2⟩
  · have R : Hd (∀ r, Fd.nan r = true → Fd.sameV (Fd.wd s (E * 4503599627370496 + f)) r = true) := by
      constructor; intro r hr; refine Fd.sameV_nan ?_ hr
      unfold Fd.nan; rw [Fd.rg_wd (by omega)]; simp; omega
    have t1 : ((E : Int) == 2047) = true := by simp; omega
    have t2 : decide ((0 : Int) < (f : Int)) = true := by simp; omega
    clear h1 hE hf
    go_enter Try.func42, Try.ntmps42
    go_wp2_with (go_at_call 46; refine (nothing_c _).mono ?_; rintro e w' ⟨r, hr, hW, rfl, n, rfl⟩)
    go_ret
    exact ⟨_, R.out _ hr, hW, rfl, _, rfl⟩
  · have R : Hd (Fd.sameV (Fd.wd s (E * 4503599627370496 + f)) (Fd.sgnV s 9218868437227405312) = true) := by
      constructor; rw [h1, h2]; cases s <;> decide
    have t1 : ((E : Int) == 2047) = true := by simp; omega
    have t2 : decide (0 < f) = false := by simp; omega
    have hW : W64 (Fd.sgnV s 9218868437227405312) := W_sgn _ (by unfold W64; decide)
    clear h1 h2 hE hf
    go_enter Try.func42, Try.ntmps42
    go_wp2_with (go_at_call 53; refine (infinity_c _ _).mono ?_; rintro e w' ⟨rfl, n, rfl⟩)
    go_ret
    exact ⟨_, R.out, hW, rfl, _, rfl⟩
  · have t1 : ((E : Int) == 2047) = false := by simp; omega
    have t2 : ((E : Int) == 0) = true := by simp; omega
    have R : Hd (Fd.sameV (Fd.wd s (E * 4503599627370496 + f)) (Fd.sgnV s (min f 9218868437227405312)) = true) := by
      constructor; rw [h1, Nat.min_eq_left (by omega), Nat.zero_mul, Nat.zero_add, Fd.wd_sgn (by omega)]; exact Fd.sameV_refl _
    have PW : Fd.PW f (-1074) f := ⟨0, 0, by omega, by rw [Fd.mg_small (by omega)]⟩
    have HP := Hd.mk PW
    have hW : W64 (min f 9218868437227405312) := by unfold W64; omega
    have hf' : f ≤ 9007199254740992 := by omega
    clear h1 hE PW
    go_enter Try.func42, Try.ntmps42
    go_wp2_with (first | (go_at_call 52; refine (power_c _ _ _ hf' (by omega) HP.out _).mono ?_; rintro e w' ⟨rfl, n, rfl⟩) | (go_at_call 47; refine (signed_c _ _ hW _).mono ?_; rintro e w' ⟨rfl, n, rfl⟩))
    go_ret
    exact ⟨_, R.out, W_sgn _ hW, rfl, _, rfl⟩
  · have t1 : ((E : Int) == 2047) = false := by simp; omega
    have t2 : ((E : Int) == 0) = false := by simp; omega
    have R : Hd (Fd.sameV (Fd.wd s (E * 4503599627370496 + f)) (Fd.sgnV s (min (E * 4503599627370496 + f) 9218868437227405312)) = true) := by
      constructor; rw [Nat.min_eq_left (by omega), Fd.wd_sgn (by omega)]; exact Fd.sameV_refl _
    have HP : Hd (Fd.PW (f + 4503599627370496) ((E : Int) + 1 - 1023 - 53) (E * 4503599627370496 + f)) := by
      constructor
      refine ⟨E - 1, 0, by omega, ?_⟩
      rw [show E * 4503599627370496 + f = (E - 1) * 4503599627370496 + (f + 4503599627370496) by omega, Fd.mg_at (by omega), Nat.pow_zero, Nat.mul_one]
    have hW : W64 (min (E * 4503599627370496 + f) 9218868437227405312) := by unfold W64; omega
    have hf' : f + 4503599627370496 ≤ 9007199254740992 := by omega
    go_enter Try.func42, Try.ntmps42
    go_wp2_with fail
    rw [show ((f : Int) + 4503599627370496) = ((f + 4503599627370496 : Nat) : Int) from rfl]
    refine (power_c _ _ _ hf' (by omega) HP.out _).mono ?_
    rintro e w' ⟨rfl, n, rfl⟩
    go_wp2_with (go_at_call 47; refine (signed_c _ _ hW _).mono ?_; rintro e w' ⟨rfl, n, rfl⟩)
    go_ret
    exact ⟨_, R.out, W_sgn _ hW, rfl, _, rfl⟩
theorem mgs_small {f : Nat} (h : f ≤ 16777216) : Fs.mg f = f := by
  have := Fs.mg_at (e := 0) (q := f) (by omega)
  rw [Nat.zero_mul, Nat.zero_add, Nat.pow_zero, Nat.mul_one] at this
  exact this
theorem wide_wd {s : Bool} {q : Nat} (h : q < 2147483648) : wide (Fs.wd s q) = Fd.sgnV s (emb q) := by
  have := emb_le q
  unfold wide; rw [Fs.sg_wd h, Fs.rg_wd h, Fd.wd_sgn (by omega)]
/-- a number of 32 bits as one of 64 -/
def WQ (x r : Nat) : Prop := if Fs.nan x = true then Fd.nan r = true else r = wide x
set_option maxHeartbeats 1000000 in
theorem fields32_c (s : Bool) (E f : Nat) (hE : E ≤ 255) (hf : f < 8388608) (w : World) :
    Calls Try.prog 42 #[.bool s, .int .i64 (E : Int), .int .u64 (f : Int), .int .i64 24, .int .i64 255] w (RF (WQ (Fs.wd s (E * 8388608 + f))) w) := by
  have n925 := n925_eq
  have HN : E * 8388608 + f ≤ 2139095040 → ∀ r, r = wide (Fs.wd s (E * 8388608 + f)) → WQ (Fs.wd s (E * 8388608 + f)) r := by
    intro h r hr; unfold WQ; rw [Fs.nan_wd h, if_neg (by decide)]; exact hr
  rcases (by omega : (E = 255 ∧ 0 < f) ∨ (E = 255 ∧ f = 0) ∨ (E = 0) ∨ (0 < E ∧ E < 255)) with ⟨h1, h2⟩ | ⟨h1, h2⟩ | h1 | ⟨h1, h2⟩
  · have R : Hd (∀ r, Fd.nan r = true → WQ (Fs.wd s (E * 8388608 + f)) r) := by
      constructor; intro r hr; unfold WQ; rw [if_pos ?_]
      · exact hr
      · unfold Fs.nan; rw [Fs.rg_wd (by omega)]; simp; omega
    have t1 : ((E : Int) == 255) = true := by simp; omega
    have t2 : decide ((0 : Int) < (f : Int)) = true := by simp; omega
    clear h1 hE hf n925 HN
    go_enter Try.func42, Try.ntmps42
    go_wp2_with (go_at_call 46; refine (nothing_c _).mono ?_; rintro e w' ⟨r, hr, hW, rfl, n, rfl⟩)
    go_ret
    exact ⟨_, R.out _ hr, hW, rfl, _, rfl⟩
  · have R : Hd (WQ (Fs.wd s (E * 8388608 + f)) (Fd.sgnV s 9218868437227405312)) := by
      constructor; apply HN (by omega); rw [wide_wd (by omega), h1, h2]
      rw [show 255 * 8388608 + 0 = 2139095040 from rfl, emb_inf]
    have t1 : ((E : Int) == 255) = true := by simp; omega
    have t2 : decide (0 < f) = false := by simp; omega
    have hW : W64 (Fd.sgnV s 9218868437227405312) := W_sgn _ (by unfold W64; decide)
    clear h1 h2 hE hf n925 HN
    go_enter Try.func42, Try.ntmps42
    go_wp2_with (go_at_call 53; refine (infinity_c _ _).mono ?_; rintro e w' ⟨rfl, n, rfl⟩)
    go_ret
    exact ⟨_, R.out, hW, rfl, _, rfl⟩
  · have t1 : ((E : Int) == 255) = false := by simp; omega
    have t2 : ((E : Int) == 0) = true := by simp; omega
    have l := emb_le f
    have R : Hd (WQ (Fs.wd s (E * 8388608 + f)) (Fd.sgnV s (min (emb f) 9218868437227405312))) := by
      constructor; apply HN (by omega); rw [wide_wd (by omega), h1, Nat.min_eq_left l, Nat.zero_mul, Nat.zero_add]
    have PW : Fd.PW f (-149) (emb f) := ⟨Go.Proofs.Ytkiieekpbcnfkaa.n925, 0, by omega, by rw [mg_emb (by omega), mgs_small (by omega), Nat.pow_zero, Nat.mul_one]⟩
    have HP := Hd.mk PW
    have hW : W64 (min (emb f) 9218868437227405312) := by unfold W64; omega
    have hf' : f ≤ 9007199254740992 := by omega
    clear h1 hE PW l n925 HN
    go_enter Try.func42, Try.ntmps42
    go_wp2_with (first | (go_at_call 52; refine (power_c _ _ _ hf' (by omega) HP.out _).mono ?_; rintro e w' ⟨rfl, n, rfl⟩) | (go_at_call 47; refine (signed_c _ _ hW _).mono ?_; rintro e w' ⟨rfl, n, rfl⟩))
    go_ret
    exact ⟨_, R.out, W_sgn _ hW, rfl, _, rfl⟩
  · have t1 : ((E : Int) == 255) = false := by simp; omega
    have t2 : ((E : Int) == 0) = false := by simp; omega
    have l := emb_le (E * 8388608 + f)
    have R : Hd (WQ (Fs.wd s (E * 8388608 + f)) (Fd.sgnV s (min (emb (E * 8388608 + f)) 9218868437227405312))) := by
      constructor; apply HN (by omega); rw [wide_wd (by omega), Nat.min_eq_left l]
    have HP : Hd (Fd.PW (f + 8388608) ((E : Int) + 1 - 127 - 24) (emb (E * 8388608 + f))) := by
      constructor
      refine ⟨E - 1 + Go.Proofs.Ytkiieekpbcnfkaa.n925, 0, by omega, ?_⟩
      rw [mg_emb (by omega), show E * 8388608 + f = (E - 1) * 8388608 + (f + 8388608) by omega, Fs.mg_at (by omega), Nat.pow_zero, Nat.mul_one, Nat.pow_add, Nat.mul_assoc]
    have hW : W64 (min (emb (E * 8388608 + f)) 9218868437227405312) := by unfold W64; omega
    have hf' : f + 8388608 ≤ 9007199254740992 := by omega
    clear l n925 HN
    go_enter Try.func42, Try.ntmps42
    go_wp2_with fail
    rw [show ((f : Int) + 8388608) = ((f + 8388608 : Nat) : Int) from rfl]
    refine (power_c _ _ _ hf' (by omega) HP.out _).mono ?_
    rintro e w' ⟨rfl, n, rfl⟩
    go_wp2_with (go_at_call 47; refine (signed_c _ _ hW _).mono ?_; rintro e w' ⟨rfl, n, rfl⟩)
    go_ret
    exact ⟨_, R.out, W_sgn _ hW, rfl, _, rfl⟩
set_option maxHeartbeats 1000000 in
theorem sF64_c (b : Nat) (hb : W64 b) (w : World) : Calls Try.prog 22 #[.int .u64 (b : Int)] w (RF (fun r => Fd.sameV b r = true) w) := by
  have hb' : b < 18446744073709551616 := hb
  have e1 : Hd (((b : Int) / 9223372036854775808 == 1) = Fd.sg b) := ⟨by rw [Fd.sg_lit, Bool.eq_iff_iff]; simp; omega⟩
  have d : ((b : Int) / 4503599627370496) = ((b / 4503599627370496 : Nat) : Int) := by omega
  have e2 : Hd (wrap64 (bits .and .u64 ((b : Int) / 4503599627370496) 2047) = ((b / 4503599627370496 % 2048 : Nat) : Int)) := by
    constructor; rw [d, b_low11 _ (by omega)]; unfold wrap64; omega
  have e3 : Hd (bits .and .u64 (b : Int) 4503599627370495 = ((b % 4503599627370496 : Nat) : Int)) := ⟨b_low52 b hb'⟩
  have R : Hd (Fd.wd (Fd.sg b) (b / 4503599627370496 % 2048 * 4503599627370496 + b % 4503599627370496) = b) := by
    constructor
    rw [show b / 4503599627370496 % 2048 * 4503599627370496 + b % 4503599627370496 = Fd.rg b by unfold Fd.rg; omega, Fd.wd_of hb']
  clear d hb' hb
  go_enter Try.func22, Try.ntmps22
  go_wp2_with fail
  rw [e1.out, e2.out, e3.out]
  refine (fields64_c _ _ _ (by omega) (by omega) _).mono ?_
  rintro e w' ⟨r, hr, hW, rfl, n, rfl⟩
  rw [R.out] at hr
  have HR := Hd.mk hr
  clear hr R e1 e2 e3
  go_wp2
  go_ret
  exact ⟨_, HR.out, hW, rfl, _, rfl⟩
set_option maxHeartbeats 1000000 in
theorem sF32_c (b : Nat) (hb : W32 b) (w : World) : Calls Try.prog 19 #[.int .u32 (b : Int)] w (RG (fun r => Fs.sameV b r = true) w) := by
  have hb' : b < 4294967296 := hb
  have e1 : Hd (((b : Int) / 2147483648 == 1) = Fs.sg b) := ⟨by rw [Fs.sg_lit, Bool.eq_iff_iff]; simp; omega⟩
  have d : ((b : Int) / 8388608) = ((b / 8388608 : Nat) : Int) := by omega
  have a1 := and_u32 (b / 8388608) 255 (by omega) (by decide)
  have a2 := and_u32 b 8388607 hb' (by decide)
  have l1 : b / 8388608 &&& 255 = b / 8388608 % 256 := and_low _ 8
  have l2 : b &&& 8388607 = b % 8388608 := and_low _ 23
  rw [l1, show ((255 : Nat) : Int) = 255 from rfl] at a1
  rw [l2, show ((8388607 : Nat) : Int) = 8388607 from rfl] at a2
  have e2 : Hd (wrap64 (bits .and .u32 ((b : Int) / 8388608) 255) = ((b / 8388608 % 256 : Nat) : Int)) := by
    constructor; rw [d, a1]; unfold wrap64; omega
  have e3 : Hd (IntKind.u64.wrap (bits .and .u32 (b : Int) 8388607) = ((b % 8388608 : Nat) : Int)) := by
    constructor; rw [a2, IntKind.wrap_u64]; omega
  have R : Hd (Fs.wd (Fs.sg b) (b / 8388608 % 256 * 8388608 + b % 8388608) = b) := by
    constructor
    rw [show b / 8388608 % 256 * 8388608 + b % 8388608 = Fs.rg b by unfold Fs.rg; omega, Fs.wd_of hb']
  clear d hb' l1 l2 a1 a2
  go_enter Try.func19, Try.ntmps19
  go_wp2_with fail
  rw [e1.out, e2.out, e3.out]
  refine (fields32_c _ _ _ (by omega) (by omega) _).mono ?_
  rintro e w' ⟨r, hr, hW, rfl, n, rfl⟩
  rw [R.out] at hr
  have HR : Hd (∀ w, Fs.sameV b (narR r w) = true) := by
    constructor; intro w; unfold WQ at hr
    cases nb : Fs.nan b
    · rw [nb, if_neg (by decide)] at hr
      rw [hr, narR_some (narO_wide hb nb)]; exact Fs.sameV_refl _
    · rw [nb, if_pos rfl] at hr
      exact Fs.sameV_nan nb (narR_nan hr w)
  clear hr R e1 e2 e3
  go_wp2
  go_ret
  exact ⟨_, HR.out _, W_narR _ _, rfl, _, rfl⟩

end Go.Proofs.Ytkiieekpbcnfkaa
