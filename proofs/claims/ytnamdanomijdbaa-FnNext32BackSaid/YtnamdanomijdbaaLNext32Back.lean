/- FnNext32Back: the call returns true; no condition but that the arguments are words. -/
import Derived.Test.YtnamdanomijdbaaC4
namespace Go.Proofs.Ytnamdanomijdbaa
open Go.RowKit
theorem back_facts {x y r : Nat} (hx : W32 x) (hy : W32 y) (h : Fs.nextQ x y r) (nx : Fs.nan x = false) (ny : Fs.nan y = false) :
    (eqF .f32 x y = true ∧ eqF .f32 r r = true ∧ Fs.sameV r x = true) ∨
    (eqF .f32 x y = false ∧ eqF .f32 r x = false ∧ (∀ s, Fs.nextQ r x s → eqF .f32 s x = true) ∧ ∀ s, Fs.nextQ (Fs.ng x) (Fs.ng y) s → Fs.sameV s (Fs.ng r) = true) := by
  unfold Fs.nextQ at h
  rw [nx, ny, if_neg (by decide)] at h
  subst h
  obtain ⟨h1, h2, h3⟩ := Fs.nxt_spec hx hy nx ny
  by_cases c : Fs.key x = Fs.key y
  · left
    have e : Fs.nxtV x y = x := by unfold Fs.nxtV; rw [if_pos c]
    rw [e]; exact ⟨by rw [eq32, nx, ny]; simp [c], num_eq_s nx, Fs.sameV_refl _⟩
  · right
    refine ⟨by rw [eq32, nx, ny]; simp [c], ?_, ?_, ?_⟩
    · rw [eq32, nx, h2, h3]; simp; (repeat' split) <;> omega
    · intro s hs
      unfold Fs.nextQ at hs
      rw [nx, h2, if_neg (by decide)] at hs
      subst hs
      obtain ⟨g1, g2, g3⟩ := Fs.nxt_spec h1 hx h2 nx
      rw [eq32, nx, g2, g3, h3]; simp; (repeat' split) <;> omega
    · intro s hs
      unfold Fs.nextQ at hs
      rw [Fs.nan_ng hx, Fs.nan_ng hy, nx, ny, if_neg (by decide)] at hs
      rw [hs, Fs.nxt_ng hx hy nx]; exact Fs.sameV_refl _
theorem back_nan {x y r : Nat} (h : Fs.nextQ x y r) (g : Fs.nan x = true ∨ Fs.nan y = true) : eqF .f32 r r = false := by
  unfold Fs.nextQ at h
  rw [if_pos (by rcases g with g | g <;> simp [g])] at h
  exact nan_eq_s h
set_option maxHeartbeats 1000000 in
theorem law_FnNext32Back (x y : Nat) (hx : W32 x) (hy : W32 y) (w : World) : Calls Try.prog 14 #[.float .f32 x, .float .f32 y] w (RB true w) := by
  have k1 := W_ng32 hx
  have k2 := W_ng32 hy
  have g1 : Op.negFloat .f32 x = Fs.ng x := negF_W32 hx
  have g2 : Op.negFloat .f32 y = Fs.ng y := negF_W32 hy
  go_enter Try.func14, Try.ntmps14
  go_wp2_with fail
  refine (iNext32_c _ _ hx hy _).mono ?_
  rintro e w' ⟨r, hr, hW, rfl, n, rfl⟩
  cases nx : Fs.nan x
  · have f1 := num_eq_s nx
    cases ny : Fs.nan y
    · have f2 := num_eq_s ny
      have q := back_facts hx hy hr nx ny
      clear hr nx ny
      rcases q with ⟨q1, q2, q3⟩ | ⟨q1, q2, q3, q4⟩
      · go_wp2_with (go_at_call 24; refine (same32_c _ _ hW hx _).mono ?_; rintro e w' ⟨rfl, n, rfl⟩)
        go_ret
        exact ⟨rfl, _, rfl⟩
      · have Q := Hd.mk q3
        have Q4 := Hd.mk q4
        have k3 := W_ng32 hW
        have g3 : Op.negFloat .f32 r = Fs.ng r := negF_W32 hW
        clear q3 q4
        go_wp2_with fail
        refine (iNext32_c _ _ hW hx _).mono ?_
        rintro e w' ⟨s, hs, hWs, rfl, n, rfl⟩
        have f3 := Q.out s hs
        clear hs
        go_wp2_with fail
        refine (iNext32_c _ _ k1 k2 _).mono ?_
        rintro e w' ⟨t, ht, hWt, rfl, n, rfl⟩
        have f4 := Q4.out t ht
        clear ht
        go_wp2_with (go_at_call 24; refine (same32_c _ _ hWt k3 _).mono ?_; rintro e w' ⟨rfl, n, rfl⟩)
        go_ret
        exact ⟨rfl, _, rfl⟩
    · have f2 := nan_eq_s ny
      have f3 := back_nan hr (Or.inr ny)
      clear hr nx ny
      go_wp2
      go_ret
      exact ⟨rfl, _, rfl⟩
  · have f2 := nan_eq_s nx
    have f3 := back_nan hr (Or.inl nx)
    clear hr nx
    go_wp2
    go_ret
    exact ⟨rfl, _, rfl⟩
end Go.Proofs.Ytnamdanomijdbaa
