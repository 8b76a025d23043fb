/- FnFrexpRange: the call returns true; no condition but that the arguments are words. -/
import Derived.Test.YtkiieekpbcnfkaaCM
namespace Go.Proofs.Ytkiieekpbcnfkaa
open Go.RowKit
/-- the laws' own size -/
theorem lsize_c (x : Nat) (hx : W64 x) (w : World) : Calls Try.prog 38 #[.float .f64 x] w (RV (.float .f64 (if ltF .f64 x 0 then Fd.ng x else x)) w) := by
  have g : Op.negFloat .f64 x = Fd.ng x := negF_W hx
  cases t : ltF .f64 x 0
  all_goals
    go_enter Try.func38, Try.ntmps38
    go_wp2
    go_ret
    exact ⟨rfl, 0, rfl⟩
theorem lsize_u (x u : Nat) (hx : W64 x) (h : (if ltF .f64 x 0 then Fd.ng x else x) = u) (w : World) : Calls Try.prog 38 #[.float .f64 x] w (RV (.float .f64 u) w) := by
  rw [← h]; exact lsize_c x hx w
theorem wd_tests {s : Bool} {r : Nat} (h0 : 0 < r) (h1 : r < 9218868437227405312) : ltF .f64 (Fd.wd s r) 0 = s ∧ (if s then Fd.ng (Fd.wd s r) else Fd.wd s r) = r := by
  have k := Fd.key_wd (s := s) (r := r) (by omega)
  have n := Fd.nan_wd (s := s) (r := r) (by omega)
  rw [lt64, n, k, show Fd.nan 0 = false by decide, show Fd.key 0 = 0 by decide]
  cases s
  · unfold Fd.sm Fd.wd; simp
  · unfold Fd.sm Fd.wd Fd.ng; simp; omega
set_option maxHeartbeats 1000000 in
theorem law_FnFrexpRange (x : Nat) (hx : W64 x) (w : World) : Calls Try.prog 14 #[.float .f64 x] w (RB true w) := by
  rcases kind4 x with ⟨h0, h1, q1, q2, q3, q4, q5⟩ | ⟨a, q1, q2, q3, q4, _⟩ | ⟨a, q1, q2, q3, q4, _⟩ | ⟨a, q1, q2, q3, q4, _⟩
  · have H0 := Hd.mk h0
    have H1 := Hd.mk h1
    have sx : ltF .f64 x 0 = Fd.sg x := by
      have := (wd_tests (s := Fd.sg x) h0 h1).1
      rw [Fd.wd_of hx] at this; exact this
    clear h0 h1
    go_enter Try.func14, Try.ntmps14
    go_wp2_with fail
    refine (iFrexp_c _ hx H0.out H1.out _).mono ?_
    rintro e w' ⟨m, k, pq, rfl, n, rfl⟩
    obtain ⟨hk1, hk2⟩ := Fd.pq_bound H0.out H1.out pq
    have hk3 := Fd.pq_low H0.out pq
    have hm : 1021 * 4503599627370496 + m < 9218868437227405312 := by have := pq.high; omega
    have hW : W64 (Fd.wd (Fd.sg x) (1021 * 4503599627370496 + m)) := Fd.wd_lt (by omega)
    obtain ⟨t1, t2⟩ := wd_tests (s := Fd.sg x) (r := 1021 * 4503599627370496 + m) (by omega) hm
    have t3 : leF .f64 4602678819172646912 (1021 * 4503599627370496 + m) = true := by rw [le_words (by omega) (by omega)]; have := pq.low; simp; omega
    have t4 : ltF .f64 (1021 * 4503599627370496 + m) 4607182418800017408 = true := by rw [lt_words (by omega) (by omega)]; have := pq.high; simp; omega
    obtain ⟨v, hv⟩ : ∃ v, v = Fd.wd (Fd.sg x) (1021 * 4503599627370496 + m) := ⟨_, rfl⟩
    obtain ⟨u, hu⟩ : ∃ u, u = 1021 * 4503599627370496 + m := ⟨_, rfl⟩
    rw [← hv] at hW t1 t2 ⊢
    rw [← hu] at t2 t3 t4
    rw [← t1] at t2
    have T2 := Hd.mk t2
    clear pq hm hv hu t2 H0 H1
    go_wp2_with (first | (go_at_call 36; refine (sIsFinite_c _ _).mono ?_; rintro e w' ⟨rfl, n, rfl⟩) | (go_at_call 38; refine (lsize_u _ u hW T2.out _).mono ?_; rintro e w' ⟨rfl, n, rfl⟩))
    go_ret
    exact ⟨ret_bool (by simp; omega), _, rfl⟩
  all_goals
    have C : Hd (Fd.rg x = 0 ∨ 9218868437227405312 ≤ Fd.rg x) := ⟨by omega⟩
    have q := Fd.sameV_refl x
    clear a
    go_enter Try.func14, Try.ntmps14
    go_wp2_with (first | (go_at_call 35; refine (iFrexp_same _ hx C.out _).mono ?_; rintro e w' ⟨rfl, n, rfl⟩) | (go_at_call 36; refine (sIsFinite_c _ _).mono ?_; rintro e w' ⟨rfl, n, rfl⟩) | (go_at_call 37; refine (same_c _ _ hx hx _).mono ?_; rintro e w' ⟨rfl, n, rfl⟩))
    go_ret
    exact ⟨rfl, _, rfl⟩
end Go.Proofs.Ytkiieekpbcnfkaa
