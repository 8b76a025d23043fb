/- Contracts of the reference's bits: the bits of a number that is no not-a-number are its word; no other condition. -/
import Derived.Test.YtkiieekpbcnfkaaC7
import Derived.Test.YtkiieekpbcnfkaaDQ
import Derived.Deep.Cut
namespace Go.Proofs.Ytkiieekpbcnfkaa
open Go.RowKit

set_option maxHeartbeats 1000000 in
set_option maxRecDepth 100000 in
theorem bits64_norm (x r : Nat) (s : Bool) (hx : W64 x) (hs : Fd.negV x = s) (hr : Fd.sizeV x = r) (hi : Fd.isInf x = false) (hz : eqF .f64 x 0 = false) (h1 : 4503599627370496 ≤ r) (h2 : r < 9218868437227405312) (w : World) :
    Calls Try.prog 40 #[.float .f64 x, .int .i64 53, .int .i64 2047] w (RV (.int .u64 ((Fd.wd s r : Nat) : Int)) w) := by
  have HU : Hd (∀ m k, Fd.PQ r m k → m = 4503599627370496 + r % 4503599627370496 ∧ k = ((r / 4503599627370496 : Nat) : Int) - 1075) := ⟨fun m k h => Fd.pq_unique h (Fd.pq_norm h1)⟩
  have hk : Hd (1 ≤ r / 4503599627370496 ∧ r / 4503599627370496 ≤ 2046) := ⟨by omega⟩
  have H1 := Hd.mk h1
  have H2 := Hd.mk h2
  clear h1 h2
  cases s
  all_goals
    go_enter Try.func40, Try.ntmps40
    go_wp2_with (first | (go_at_call 55; refine (isNegative_c _ hx _).mono ?_; rintro e w' ⟨rfl, n, rfl⟩) | (go_at_call 51; refine (isInfinity_c _ _).mono ?_; rintro e w' ⟨rfl, n, rfl⟩) | (go_at_call 49; refine (size_c _ hx _).mono ?_; rintro e w' ⟨rfl, n, rfl⟩))
    refine (parts_c _ (by have := H1.out; omega) H2.out _).mono ?_
    rintro e w' ⟨m, k, pq, rfl, n, rfl⟩
    obtain ⟨em, ek⟩ := HU.out m k pq
    have hk1 : -1074 ≤ k := by have := hk.out; omega
    have hk2 : k ≤ 971 := by have := hk.out; omega
    have HM : Hd (4503599627370496 ≤ m ∧ m < 9007199254740992) := ⟨by omega⟩
    have EM := Hd.mk em
    have EK := Hd.mk ek
    clear em ek HU pq
    go_upto_region 13 with (fail)
    have t1 : decide ((m : Int) < 4503599627370496) = false := by have := HM.out; simp; omega
    iterate 22 go_step
    clear t1
    go_wp2
    go_ret
    refine ⟨ret_int ?_, _, rfl⟩
    simp only [IntKind.wrap_u64]
    have a1 := EM.out
    have a2 := EK.out
    have a3 := H1.out
    have a4 := H2.out
    unfold Fd.wd
    simp
    omega
theorem shr_frac {r j m : Nat} {t : Int} (hm : m = r * 2 ^ j) (ht : t.toNat = j) : (m : Int) / 2 ^ t.toNat = (r : Int) := by
  rw [ht, hm]
  have h : ((2 : Int) ^ j) = ((2 ^ j : Nat) : Int) := by simp
  rw [h, ← Int.natCast_ediv, Nat.mul_div_cancel _ (Nat.two_pow_pos j)]
set_option maxHeartbeats 1000000 in
set_option maxRecDepth 100000 in
theorem bits64_sub (x r : Nat) (s : Bool) (hx : W64 x) (hs : Fd.negV x = s) (hr : Fd.sizeV x = r) (hi : Fd.isInf x = false) (hz : eqF .f64 x 0 = false) (h0 : 0 < r) (h1 : r < 4503599627370496) (w : World) :
    Calls Try.prog 40 #[.float .f64 x, .int .i64 53, .int .i64 2047] w (RV (.int .u64 ((Fd.wd s r : Nat) : Int)) w) := by
  obtain ⟨l1, l2, l3⟩ := log_frac h0 h1
  obtain ⟨j, hj⟩ : ∃ j, j = 52 - r.log2 := ⟨_, rfl⟩
  have HU : Hd (∀ m k, Fd.PQ r m k → m = r * 2 ^ j ∧ k = -1074 - (j : Int)) := ⟨fun m k h => by have := Fd.pq_unique h (Fd.pq_sub h0 h1); rw [← hj] at this; exact this⟩
  have hj1 : 1 ≤ j := by omega
  have hj2 : j ≤ 52 := by omega
  have H1 := Hd.mk h1
  have H0 := Hd.mk h0
  clear h1 hj l1 l2 l3 h0
  cases s
  all_goals
    go_enter Try.func40, Try.ntmps40
    go_wp2_with (first | (go_at_call 55; refine (isNegative_c _ hx _).mono ?_; rintro e w' ⟨rfl, n, rfl⟩) | (go_at_call 51; refine (isInfinity_c _ _).mono ?_; rintro e w' ⟨rfl, n, rfl⟩) | (go_at_call 49; refine (size_c _ hx _).mono ?_; rintro e w' ⟨rfl, n, rfl⟩))
    refine (parts_c _ H0.out (by have := H1.out; omega) _).mono ?_
    rintro e w' ⟨m, k, pq, rfl, n, rfl⟩
    obtain ⟨em, ek⟩ := HU.out m k pq
    subst ek
    have EV : Hd ((m : Int) / 2 ^ ((-1074 : Int) - (-1074 - (j : Int))).toNat = (r : Int)) := ⟨shr_frac em (by omega)⟩
    clear em HU pq
    go_upto_region 13 with (fail)
    rw [EV.out]
    clear EV
    have t1 : decide ((r : Int) < 4503599627370496) = true := by have := H1.out; simp; omega
    iterate 22 go_step
    clear t1
    go_wp2
    go_ret
    refine ⟨ret_int ?_, _, rfl⟩
    simp only [IntKind.wrap_u64]
    have a3 := H1.out
    unfold Fd.wd
    simp
    omega
theorem sizeV_inf {x : Nat} (h : Fd.isInf x = true) : Fd.nan x = false ∧ Fd.rg x = 9218868437227405312 := by
  unfold Fd.isInf at h; simp at h
  exact ⟨by unfold Fd.nan; rw [h]; decide, h⟩
set_option maxHeartbeats 1000000 in
set_option maxRecDepth 100000 in
theorem bits64_c (x : Nat) (hx : W64 x) (nx : Fd.nan x = false) (w : World) :
    Calls Try.prog 40 #[.float .f64 x, .int .i64 53, .int .i64 2047] w (RV (.int .u64 (x : Int)) w) := by
  have hs := Fd.negV_num nx
  have hr := Fd.sizeV_num nx
  have hw : Fd.wd (Fd.sg x) (Fd.rg x) = x := Fd.wd_of hx
  have kz : Fd.key 0 = 0 := by decide
  have nz : Fd.nan 0 = false := by decide
  cases hi : Fd.isInf x
  · have h2 : Fd.rg x < 9218868437227405312 := by unfold Fd.isInf at hi; unfold Fd.nan at nx; simp at hi nx; omega
    by_cases z : Fd.rg x = 0
    · have hz : eqF .f64 x 0 = true := by rw [eq64, nx, nz, kz]; unfold Fd.key; rw [z]; cases Fd.sg x <;> decide
      have R : Hd (x = if Fd.sg x then 9223372036854775808 else 0) := ⟨by have := Fd.word_eq hx; omega⟩
      clear nx kz nz h2 z hw hr
      cases s : Fd.sg x
      all_goals
        rw [s] at hs R
        go_enter Try.func40, Try.ntmps40
        go_wp2_with (first | (go_at_call 55; refine (isNegative_c _ hx _).mono ?_; rintro e w' ⟨rfl, n, rfl⟩) | (go_at_call 51; refine (isInfinity_c _ _).mono ?_; rintro e w' ⟨rfl, n, rfl⟩) | (go_at_call 49; refine (size_c _ hx _).mono ?_; rintro e w' ⟨rfl, n, rfl⟩))
        go_ret
        exact ⟨ret_int (by rw [R.out]; rfl), _, rfl⟩
    · have hz : eqF .f64 x 0 = false := by rw [eq64, nx, nz, kz]; simp; unfold Fd.key; cases Fd.sg x <;> simp <;> exact z
      rcases Nat.lt_or_ge (Fd.rg x) 4503599627370496 with c | c
      · have := bits64_sub x _ _ hx hs hr hi hz (by omega) c w
        rw [hw] at this; exact this
      · have := bits64_norm x _ _ hx hs hr hi hz c h2 w
        rw [hw] at this; exact this
  · obtain ⟨_, hg⟩ := sizeV_inf hi
    have R : Hd (x = if Fd.sg x then 18442240474082181120 else 9218868437227405312) := ⟨by have := Fd.word_eq hx; rw [hg] at this; cases s : Fd.sg x <;> rw [s] at this <;> simp at this ⊢ <;> exact this⟩
    clear nx kz nz hg hw hr
    cases s : Fd.sg x
    all_goals
      rw [s] at hs R
      go_enter Try.func40, Try.ntmps40
      go_wp2_with (first | (go_at_call 55; refine (isNegative_c _ hx _).mono ?_; rintro e w' ⟨rfl, n, rfl⟩) | (go_at_call 51; refine (isInfinity_c _ _).mono ?_; rintro e w' ⟨rfl, n, rfl⟩) | (go_at_call 49; refine (size_c _ hx _).mono ?_; rintro e w' ⟨rfl, n, rfl⟩))
      go_ret
      exact ⟨ret_int (by rw [R.out]; rfl), _, rfl⟩
theorem emb_pos {q : Nat} (h0 : 0 < q) (h : q < 2139095040) : 0 < emb q ∧ emb q < 9218868437227405312 := by
  have := emb_mono (a := 0) (b := q) (by omega) h0
  rw [emb_zero] at this
  exact ⟨this, emb_lt h⟩
set_option maxHeartbeats 1000000 in
set_option maxRecDepth 100000 in
theorem bits32_norm (x q : Nat) (s : Bool) (hx : W64 x) (hs : Fd.negV x = s) (hr : Fd.sizeV x = emb q) (hi : Fd.isInf x = false) (hz : eqF .f64 x 0 = false) (h1 : 8388608 ≤ q) (h2 : q < 2139095040) (w : World) :
    Calls Try.prog 40 #[.float .f64 x, .int .i64 24, .int .i64 255] w (RV (.int .u64 ((Fs.wd s q : Nat) : Int)) w) := by
  have HU : Hd (∀ m k, Fd.PQ (emb q) m k → m = (8388608 + q % 8388608) * 536870912 ∧ k = ((q / 8388608 : Nat) : Int) - 179) := ⟨fun m k h => Fd.pq_unique h (emb_norm h1 h2)⟩
  have hk : Hd (1 ≤ q / 8388608 ∧ q / 8388608 ≤ 254) := ⟨by omega⟩
  have HP := Hd.mk (emb_pos (q := q) (by omega) h2)
  have H1 := Hd.mk h1
  have H2 := Hd.mk h2
  obtain ⟨M, hM⟩ : ∃ M, M = 8388608 + q % 8388608 := ⟨_, rfl⟩
  have HM := Hd.mk hM
  clear h1 h2 hM
  cases s
  all_goals
    go_enter Try.func40, Try.ntmps40
    go_wp2_with (first | (go_at_call 55; refine (isNegative_c _ hx _).mono ?_; rintro e w' ⟨rfl, n, rfl⟩) | (go_at_call 51; refine (isInfinity_c _ _).mono ?_; rintro e w' ⟨rfl, n, rfl⟩) | (go_at_call 49; refine (size_c _ hx _).mono ?_; rintro e w' ⟨rfl, n, rfl⟩))
    refine (parts_c _ HP.out.1 HP.out.2 _).mono ?_
    rintro e w' ⟨m, k, pq, rfl, n, rfl⟩
    obtain ⟨em, ek⟩ := HU.out m k pq
    have hk1 : -178 ≤ k := by have := hk.out; omega
    have hk2 : k ≤ 75 := by have := hk.out; omega
    have EV : Hd ((m : Int) / 2 ^ (k + 53 - 24 - k).toNat = (M : Int)) := by
      constructor
      refine shr_frac (j := 29) ?_ (by omega)
      rw [em, HM.out]
    have EK := Hd.mk ek
    clear em ek HU pq
    go_upto_region 13 with (fail)
    rw [EV.out]
    clear EV
    have t1 : decide ((M : Int) < 8388608) = false := by have := HM.out; simp; omega
    iterate 22 go_step
    clear t1
    go_wp2
    go_ret
    refine ⟨ret_int ?_, _, rfl⟩
    simp only [IntKind.wrap_u64]
    have a1 := HM.out
    have a2 := EK.out
    have a3 := H1.out
    have a4 := H2.out
    unfold Fs.wd
    simp
    omega
set_option maxHeartbeats 1000000 in
set_option maxRecDepth 100000 in
theorem bits32_sub (x q : Nat) (s : Bool) (hx : W64 x) (hs : Fd.negV x = s) (hr : Fd.sizeV x = emb q) (hi : Fd.isInf x = false) (hz : eqF .f64 x 0 = false) (h0 : 0 < q) (h1 : q < 8388608) (w : World) :
    Calls Try.prog 40 #[.float .f64 x, .int .i64 24, .int .i64 255] w (RV (.int .u64 ((Fs.wd s q : Nat) : Int)) w) := by
  obtain ⟨pq0, l⟩ := emb_sub h0 h1
  obtain ⟨j, hj⟩ : ∃ j, j = 52 - q.log2 := ⟨_, rfl⟩
  rw [← hj] at pq0 l
  have HU : Hd (∀ m k, Fd.PQ (emb q) m k → m = q * 2 ^ j ∧ k = -149 - (j : Int)) := ⟨fun m k h => Fd.pq_unique h pq0⟩
  have hj2 : j ≤ 52 := by omega
  have HP := Hd.mk (emb_pos (q := q) h0 (by omega))
  have H1 := Hd.mk h1
  clear h1 hj h0 pq0
  cases s
  all_goals
    go_enter Try.func40, Try.ntmps40
    go_wp2_with (first | (go_at_call 55; refine (isNegative_c _ hx _).mono ?_; rintro e w' ⟨rfl, n, rfl⟩) | (go_at_call 51; refine (isInfinity_c _ _).mono ?_; rintro e w' ⟨rfl, n, rfl⟩) | (go_at_call 49; refine (size_c _ hx _).mono ?_; rintro e w' ⟨rfl, n, rfl⟩))
    refine (parts_c _ HP.out.1 HP.out.2 _).mono ?_
    rintro e w' ⟨m, k, pq, rfl, n, rfl⟩
    obtain ⟨em, ek⟩ := HU.out m k pq
    subst ek
    have EV : Hd ((m : Int) / 2 ^ ((-149 : Int) - (-149 - (j : Int))).toNat = (q : Int)) := ⟨shr_frac em (by omega)⟩
    clear em HU pq
    go_upto_region 13 with (fail)
    rw [EV.out]
    clear EV
    have t1 : decide ((q : Int) < 8388608) = true := by have := H1.out; simp; omega
    iterate 22 go_step
    clear t1
    go_wp2
    go_ret
    refine ⟨ret_int ?_, _, rfl⟩
    simp only [IntKind.wrap_u64]
    have a3 := H1.out
    unfold Fs.wd
    simp
    omega
set_option maxHeartbeats 1000000 in
set_option maxRecDepth 100000 in
theorem bits32_c (y : Nat) (hy : W32 y) (ny : Fs.nan y = false) (w : World) :
    Calls Try.prog 40 #[.float .f64 (wide y), .int .i64 24, .int .i64 255] w (RV (.int .u64 (y : Int)) w) := by
  have hx : W64 (wide y) := wide_lt y
  have nx := nan_wide y
  have hs : Fd.negV (wide y) = Fs.sg y := by rw [Fd.negV_num nx, sg_wide]
  have hr : Fd.sizeV (wide y) = emb (Fs.rg y) := by rw [Fd.sizeV_num nx, rg_wide]
  have hw : Fs.wd (Fs.sg y) (Fs.rg y) = y := Fs.wd_of hy
  have kz : Fd.key 0 = 0 := by decide
  have nz : Fd.nan 0 = false := by decide
  have hl := num_s ny
  have hi0 : Fd.isInf (wide y) = decide (Fs.rg y = 2139095040) := by
    unfold Fd.isInf; rw [rg_wide, Bool.eq_iff_iff, ← emb_inf]; simp only [decide_eq_true_eq]; exact emb_inj hl (Nat.le_refl _)
  have kx := key_wide y
  cases hi : Fd.isInf (wide y)
  · have h2 : Fs.rg y < 2139095040 := by rw [hi0] at hi; simp at hi; omega
    by_cases z : Fs.rg y = 0
    · have hz : eqF .f64 (wide y) 0 = true := by rw [eq64, nx, nz, kz, kx, z, emb_zero]; cases Fs.sg y <;> decide
      have R : Hd (y = if Fs.sg y then 2147483648 else 0) := ⟨by have := Fs.word_eq hy; omega⟩
      clear nx kz nz h2 z hw hr hi0 kx hl
      cases s : Fs.sg y
      all_goals
        rw [s] at hs R
        go_enter Try.func40, Try.ntmps40
        go_wp2_with (first | (go_at_call 55; refine (isNegative_c _ hx _).mono ?_; rintro e w' ⟨rfl, n, rfl⟩) | (go_at_call 51; refine (isInfinity_c _ _).mono ?_; rintro e w' ⟨rfl, n, rfl⟩) | (go_at_call 49; refine (size_c _ hx _).mono ?_; rintro e w' ⟨rfl, n, rfl⟩))
        go_ret
        exact ⟨ret_int (by rw [R.out]; rfl), _, rfl⟩
    · have p := emb_pos (q := Fs.rg y) (by omega) h2
      have hz : eqF .f64 (wide y) 0 = false := by rw [eq64, nx, nz, kz, kx]; simp; unfold Fd.sm; cases Fs.sg y <;> simp <;> omega
      rcases Nat.lt_or_ge (Fs.rg y) 8388608 with c | c
      · have := bits32_sub (wide y) _ _ hx hs hr hi hz (by omega) c w
        rw [hw] at this; exact this
      · have := bits32_norm (wide y) _ _ hx hs hr hi hz c h2 w
        rw [hw] at this; exact this
  · have hg : Fs.rg y = 2139095040 := by rw [hi0] at hi; simpa using hi
    have R : Hd (y = if Fs.sg y then 4286578688 else 2139095040) := ⟨by have := Fs.word_eq hy; rw [hg] at this; cases s : Fs.sg y <;> rw [s] at this <;> simp at this ⊢ <;> exact this⟩
    clear nx kz nz hg hw hr hi0 kx hl
    cases s : Fs.sg y
    all_goals
      rw [s] at hs R
      go_enter Try.func40, Try.ntmps40
      go_wp2_with (first | (go_at_call 55; refine (isNegative_c _ hx _).mono ?_; rintro e w' ⟨rfl, n, rfl⟩) | (go_at_call 51; refine (isInfinity_c _ _).mono ?_; rintro e w' ⟨rfl, n, rfl⟩) | (go_at_call 49; refine (size_c _ hx _).mono ?_; rintro e w' ⟨rfl, n, rfl⟩))
      go_ret
      exact ⟨ret_int (by rw [R.out]; rfl), _, rfl⟩
theorem bitsOf_c (x : Nat) (hx : W64 x) (nx : Fd.nan x = false) (w : World) : Calls Try.prog 18 #[.float .f64 x] w (RV (.int .u64 (x : Int)) w) := by
  go_enter Try.func18, Try.ntmps18
  go_wp2_with (go_at_call 40; refine (bits64_c _ hx nx _).mono ?_; rintro e w' ⟨rfl, n, rfl⟩)
  go_ret
  exact ⟨rfl, _, rfl⟩
theorem bitsOf32_c (y : Nat) (hy : W32 y) (ny : Fs.nan y = false) (w : World) : Calls Try.prog 16 #[.float .f32 y] w (RV (.int .u32 (y : Int)) w) := by
  have q : ∀ w, wideR y w = wide y := fun w => wideR_num ny w
  have R : Hd (IntKind.u32.wrap (y : Int) = (y : Int)) := ⟨by rw [IntKind.wrap_u32']; unfold W32 at hy; omega⟩
  go_enter Try.func16, Try.ntmps16
  go_wp2_with (go_at_call 40; refine (bits32_c _ hy ny _).mono ?_; rintro e w' ⟨rfl, n, rfl⟩)
  go_ret
  exact ⟨ret_int R.out, _, rfl⟩

end Go.Proofs.Ytkiieekpbcnfkaa
