/- FnFrexpBack: the call returns true; no condition but that the arguments are words. -/
import Derived.Test.YtmdenmldbmafgaaCQ
namespace Go.Proofs.Ytmdenmldbmafgaa
open Go.RowKit
theorem frexp_ex {r m : Nat} {k : Int} (pq : Fd.PQ r m k) : Fd.EX (1021 * 4503599627370496 + m) (k + 53) r := by
  obtain ⟨l, u, c, d, e1, e2⟩ := pq
  obtain ⟨e, he⟩ : ∃ e : Nat, e = 1021 := ⟨_, rfl⟩
  have mm : Fd.mg (1021 * 4503599627370496 + m) = m * 2 ^ e := by rw [← he, Fd.mg_at (by omega)]
  refine ⟨c, d + e, by omega, ?_⟩
  rw [mm, Nat.pow_add]
  have : m * 2 ^ e * 2 ^ c = m * 2 ^ c * 2 ^ e := by grind
  rw [this, ← e2]; grind
theorem frexp_back {x m v : Nat} {k : Int} (hx : W64 x) (h1 : Fd.rg x < 9218868437227405312) (pq : Fd.PQ (Fd.rg x) m k) (h : Fd.LD (Fd.wd (Fd.sg x) (1021 * 4503599627370496 + m)) (k + 53) v) : v = x := by
  have hm := pq.high
  have rq : Fd.rg (Fd.wd (Fd.sg x) (1021 * 4503599627370496 + m)) = 1021 * 4503599627370496 + m := Fd.rg_wd (by omega)
  have sq : Fd.sg (Fd.wd (Fd.sg x) (1021 * 4503599627370496 + m)) = Fd.sg x := Fd.sg_wd (by omega)
  obtain ⟨R, lq, ev⟩ := Fd.ld_fin (by rw [rq]; omega) (by rw [rq]; omega) h
  rw [rq] at lq
  have e := Fd.lq_unique lq (Fd.ex_lq (frexp_ex pq))
  rw [ev, sq, e, Nat.min_eq_left (by omega), Fd.wd_of hx]
set_option maxHeartbeats 1000000 in
theorem law_FnFrexpBack (x : Nat) (hx : W64 x) (w : World) : Calls Try.prog 9 #[.float .f64 x] w (RB true w) := by
  have q := Fd.sameV_refl x
  by_cases c : Fd.rg x = 0 ∨ 9218868437227405312 ≤ Fd.rg x
  · have C := Hd.mk c
    clear c
    go_enter Try.func9, Try.ntmps9
    go_wp2_with (first | (go_at_call 27; refine (iFrexp_same _ hx C.out _).mono ?_; rintro e w' ⟨rfl, n, rfl⟩))
    refine (iLdexp_c x 0 hx _).mono ?_
    rintro e w' ⟨v, hv, hW, rfl, n, rfl⟩
    have e : v = x := by
      rcases hv (Or.inl C.out) with ⟨a, b, _⟩ | ⟨_, e⟩
      · have := C.out; omega
      · exact e
    subst e
    clear hv
    go_wp2_with (first | (go_at_call 16; refine (same_c _ _ hx hx _).mono ?_; rintro e w' ⟨rfl, n, rfl⟩))
    go_ret
    exact ⟨rfl, _, rfl⟩
  · have h0 : Hd (0 < Fd.rg x) := ⟨by omega⟩
    have h1 : Hd (Fd.rg x < 9218868437227405312) := ⟨by omega⟩
    clear c
    go_enter Try.func9, Try.ntmps9
    go_wp2_with fail
    refine (iFrexp_c _ hx h0.out h1.out _).mono ?_
    rintro e w' ⟨m, k, pq, rfl, n, rfl⟩
    obtain ⟨k1, k2⟩ := Fd.pq_bound h0.out h1.out pq
    have PQ := Hd.mk pq
    have hW : W64 (Fd.wd (Fd.sg x) (1021 * 4503599627370496 + m)) := Fd.wd_lt (by have := pq.high; omega)
    obtain ⟨y, hy⟩ : ∃ y, y = Fd.wd (Fd.sg x) (1021 * 4503599627370496 + m) := ⟨_, rfl⟩
    have HY := Hd.mk hy
    rw [← hy] at hW ⊢
    clear pq hy
    go_wp2_with fail
    refine (iLdexp_c y (k + 53) hW _).mono ?_
    rintro e w' ⟨v, hv, hWv, rfl, n, rfl⟩
    have hv2 := hv (Or.inr (by omega))
    rw [HY.out] at hv2
    have e := frexp_back hx h1.out PQ.out hv2
    subst e
    clear hv hv2 PQ HY
    go_wp2_with (first | (go_at_call 16; refine (same_c _ _ hx hx _).mono ?_; rintro e w' ⟨rfl, n, rfl⟩))
    go_ret
    exact ⟨rfl, _, rfl⟩
end Go.Proofs.Ytmdenmldbmafgaa
