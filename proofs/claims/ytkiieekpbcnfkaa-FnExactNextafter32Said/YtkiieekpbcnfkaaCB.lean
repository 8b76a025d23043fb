/- Contract of the reference's Nextafter32: the same number as the library's; no condition but that the arguments are words. -/
import Derived.Test.YtkiieekpbcnfkaaCA
namespace Go.Proofs.Ytkiieekpbcnfkaa
open Go.RowKit

theorem wide_zero : wide 0 = 0 := by unfold wide; rw [show Fs.rg 0 = 0 from rfl, emb_zero]; rfl
theorem wide_tests {x y : Nat} (nx : Fs.nan x = false) (ny : Fs.nan y = false) :
    eqF .f64 (wide x) (wide y) = decide (Fs.key x = Fs.key y) ∧ ltF .f64 (wide x) (wide y) = decide (Fs.key x < Fs.key y) ∧ ltF .f64 (wide y) (wide x) = decide (Fs.key y < Fs.key x) ∧
    eqF .f64 (wide x) 0 = decide (Fs.key x = 0) ∧ ltF .f64 (wide x) 0 = decide (Fs.key x < 0) ∧ ltF .f64 0 (wide x) = decide (0 < Fs.key x) ∧ ltF .f64 (wide y) 0 = decide (Fs.key y < 0) := by
  have n0 : Fs.nan 0 = false := by decide
  have k0 : Fs.key 0 = 0 := by decide
  have a1 := wide_key_eq nx ny
  have a2 := wide_key_lt nx ny
  have a3 := wide_key_lt ny nx
  have b1 := wide_key_eq nx n0
  have b2 := wide_key_lt nx n0
  have b3 := wide_key_lt n0 nx
  have b4 := wide_key_lt ny n0
  rw [wide_zero, k0] at b1 b2 b3 b4
  have w0 : Fd.nan 0 = false := by decide
  rw [eq64, lt64, lt64, eq64, lt64, lt64, lt64, nan_wide, nan_wide, w0]
  refine ⟨?_, ?_, ?_, ?_, ?_, ?_, ?_⟩ <;> (rw [Bool.eq_iff_iff]; simp; assumption)
/-- from a rung of 32 bits with a sign back to the word -/
theorem nar_sgn {s : Bool} {q : Nat} (h : q ≤ 2139095040) (w : World) : narR (Fd.sgnV s (emb q)) w = Fs.wd s q := by
  rw [← wide_wd (by omega)]
  exact narR_some (narO_wide (Fs.wd_lt (by omega)) (Fs.nan_wd h)) w
set_option maxHeartbeats 4000000 in
theorem sNext32_c (x y : Nat) (hx : W32 x) (hy : W32 y) (w : World) : Calls Try.prog 26 #[.float .f32 x, .float .f32 y] w (RG (Fs.nextQ x y) w) := by
  have gx : ∀ w, Fd.nan (wideR x w) = Fs.nan x := nan_wideR x
  have gy : ∀ w, Fd.nan (wideR y w) = Fs.nan y := nan_wideR y
  cases nx : Fs.nan x
  · have ex : ∀ w, wideR x w = wide x := fun w => wideR_num nx w
    cases ny : Fs.nan y
    · have ey : ∀ w, wideR y w = wide y := fun w => wideR_num ny w
      have mx := nan_wide x
      have my := nan_wide y
      have HQ : Hd (∀ r, r = Fs.nxtV x y → Fs.nextQ x y r) := ⟨fun r h => by unfold Fs.nextQ; rw [nx, ny, if_neg (by decide)]; exact h⟩
      obtain ⟨t1, t2, t3, t4, t5, t6, t7⟩ := wide_tests nx ny
      clear gx gy
      have hwx : W64 (wide x) := wide_lt x
      by_cases c : Fs.key x = Fs.key y
      · have f1 : eqF .f64 (wide x) (wide y) = true := by rw [t1]; simpa using c
        have R : Hd (x = Fs.nxtV x y) := ⟨by unfold Fs.nxtV; rw [if_pos c]⟩
        clear c t1 t2 t3 t4 t5 t6 t7
        go_enter Try.func26, Try.ntmps26
        go_wp2_with (first | (go_at_call 45; refine (isNothing_c _ _).mono ?_; rintro e w' ⟨rfl, n, rfl⟩) | (go_at_call 46; refine (nothing_c _).mono ?_; rintro e w' ⟨r, hr, hW, rfl, n, rfl⟩) | (go_at_call 51; refine (isInfinity_c _ _).mono ?_; rintro e w' ⟨rfl, n, rfl⟩) | (go_at_call 53; refine (infinity_c _ _).mono ?_; rintro e w' ⟨rfl, n, rfl⟩) | (go_at_call 49; refine (size_c _ (by with_reducible assumption) _).mono ?_; rintro e w' ⟨rfl, n, rfl⟩) | (go_at_call 47; refine (signed_c _ _ (by with_reducible assumption) _).mono ?_; rintro e w' ⟨rfl, n, rfl⟩))
        go_ret
        exact ⟨_, HQ.out _ R.out, hx, rfl, _, rfl⟩
      · have f1 : eqF .f64 (wide x) (wide y) = false := by rw [t1]; simpa using c
        by_cases z : Fs.key x = 0
        · have f2 : eqF .f64 (wide x) 0 = true := by rw [t4]; simpa using z
          obtain ⟨b, hb⟩ : ∃ b, b = decide (Fs.key y < 0) := ⟨_, rfl⟩
          rw [← hb] at t7
          have h1 : W64 (emb 1) := by have := emb_le 1; unfold W64; omega
          have R : Hd (∀ w, narR (Fd.sgnV b (emb 1)) w = Fs.nxtV x y) := ⟨fun w => by rw [nar_sgn (by omega), Fs.nxt_zero hy c z, hb]⟩
          clear c z hb t1 t2 t3 t4 t5 t6
          go_enter Try.func26, Try.ntmps26
          go_wp2_with (first | (go_at_call 45; refine (isNothing_c _ _).mono ?_; rintro e w' ⟨rfl, n, rfl⟩) | (go_at_call 46; refine (nothing_c _).mono ?_; rintro e w' ⟨r, hr, hW, rfl, n, rfl⟩) | (go_at_call 51; refine (isInfinity_c _ _).mono ?_; rintro e w' ⟨rfl, n, rfl⟩) | (go_at_call 53; refine (infinity_c _ _).mono ?_; rintro e w' ⟨rfl, n, rfl⟩) | (go_at_call 49; refine (size_c _ (by with_reducible assumption) _).mono ?_; rintro e w' ⟨rfl, n, rfl⟩) | (go_at_call 47; refine (signed_c _ _ (by with_reducible assumption) _).mono ?_; rintro e w' ⟨rfl, n, rfl⟩) | (go_at_call 48; refine (foll32_zero _).mono ?_; rintro e w' ⟨rfl, n, rfl⟩))
          go_ret
          exact ⟨_, HQ.out _ (R.out _), W_narR _ _, rfl, _, rfl⟩
        · have f2 : eqF .f64 (wide x) 0 = false := by rw [t4]; simpa using z
          have kk := @Fs.key_sg x
          have sx : Fs.sg x = decide (Fs.key x < 0) := by
            cases s : Fs.sg x <;> simp only [s, Bool.false_eq_true, if_false, if_true] at kk <;> simp <;> omega
          rw [← sx] at t5
          have hl := num_s nx
          have hz : 0 < Fs.rg x := by
            cases s : Fs.sg x <;> simp only [s, Bool.false_eq_true, if_false, if_true] at kk <;> omega
          have by' := Fs.key_bound ny
          have bx := Fs.key_bound nx
          have E : Hd (∀ g : Bool, g = decide ((0 < Fs.key x ∧ Fs.key x < Fs.key y) ∨ (Fs.key x < 0 ∧ Fs.key y < Fs.key x)) → Fs.nxtV x y = Fs.wd (Fs.sg x) (if g then Fs.rg x + 1 else Fs.rg x - 1)) := by
            constructor; intro g hg
            rw [Fs.nxt_wd hx c z]; congr 1
            by_cases q : (0 < Fs.key x ∧ Fs.key x < Fs.key y) ∨ (Fs.key x < 0 ∧ Fs.key y < Fs.key x)
            · have : g = true := by rw [hg]; simpa using q
              rw [if_pos q, this]; rfl
            · have : g = false := by rw [hg]; simpa using q
              rw [if_neg q, this]; rfl
          have hi0 : Fd.isInf (wide x) = decide (Fs.rg x = 2139095040) := by
            unfold Fd.isInf; rw [rg_wide, Bool.eq_iff_iff, ← emb_inf]; simp only [decide_eq_true_eq]; exact emb_inj hl (Nat.le_refl _)
          obtain ⟨s, hs⟩ : ∃ s, s = Fs.sg x := ⟨_, rfl⟩
          by_cases i : Fs.rg x = 2139095040
          · have f3 : Fd.isInf (wide x) = true := by rw [hi0]; simpa using i
            have R : Hd (∀ w, narR (Fd.sgnV s (embu 2139095039)) w = Fs.nxtV x y) := by
              constructor; intro w
              rw [embu_emb (by omega), nar_sgn (by omega), E.out false ?_, i, hs]; · rfl
              · symm; simp
                cases s' : Fs.sg x <;> simp only [s', Bool.false_eq_true, if_false, if_true] at kk <;> omega
            rw [← hs] at t5
            have h1 : W64 (embu 2139095039) := by have := embu_lt (q := 2139095039) (by omega); unfold W64; omega
            clear c z kk sx hl hz E hi0 hs i t1 t2 t3 t4 t6 t7 by' bx
            go_enter Try.func26, Try.ntmps26
            go_wp2_with (first | (go_at_call 45; refine (isNothing_c _ _).mono ?_; rintro e w' ⟨rfl, n, rfl⟩) | (go_at_call 46; refine (nothing_c _).mono ?_; rintro e w' ⟨r, hr, hW, rfl, n, rfl⟩) | (go_at_call 51; refine (isInfinity_c _ _).mono ?_; rintro e w' ⟨rfl, n, rfl⟩) | (go_at_call 53; refine (infinity_c _ _).mono ?_; rintro e w' ⟨rfl, n, rfl⟩) | (go_at_call 49; refine (size_c _ (by with_reducible assumption) _).mono ?_; rintro e w' ⟨rfl, n, rfl⟩) | (go_at_call 47; refine (signed_c _ _ (by with_reducible assumption) _).mono ?_; rintro e w' ⟨rfl, n, rfl⟩))
            refine (power_at _ 16777215 (embu 2139095039) _ rfl (by omega) (by omega) (pw32_at (e := 253) (by omega) (by omega) (by omega)) (Nat.le_of_lt (embu_lt (by omega))) _).mono ?_
            rintro e w' ⟨rfl, n, rfl⟩
            go_wp2_with (first | (go_at_call 45; refine (isNothing_c _ _).mono ?_; rintro e w' ⟨rfl, n, rfl⟩) | (go_at_call 46; refine (nothing_c _).mono ?_; rintro e w' ⟨r, hr, hW, rfl, n, rfl⟩) | (go_at_call 51; refine (isInfinity_c _ _).mono ?_; rintro e w' ⟨rfl, n, rfl⟩) | (go_at_call 53; refine (infinity_c _ _).mono ?_; rintro e w' ⟨rfl, n, rfl⟩) | (go_at_call 49; refine (size_c _ (by with_reducible assumption) _).mono ?_; rintro e w' ⟨rfl, n, rfl⟩) | (go_at_call 47; refine (signed_c _ _ (by with_reducible assumption) _).mono ?_; rintro e w' ⟨rfl, n, rfl⟩))
            go_ret
            exact ⟨_, HQ.out _ (R.out _), W_narR _ _, rfl, _, rfl⟩
          · have f3 : Fd.isInf (wide x) = false := by rw [hi0]; simpa using i
            have hr : Fd.sizeV (wide x) = emb (Fs.rg x) := by rw [Fd.sizeV_num mx, rg_wide]
            have H0 := Hd.mk hz
            have H2 : Hd (Fs.rg x < 2139095040) := ⟨by omega⟩
            obtain ⟨q, hq⟩ : ∃ q, q = Fs.rg x := ⟨_, rfl⟩
            have FIN : Hd (∀ g : Bool, g = decide ((0 < Fs.key x ∧ Fs.key x < Fs.key y) ∨ (Fs.key x < 0 ∧ Fs.key y < Fs.key x)) →
                (leF .f64 (embu 2139095040) (embu (if g then q + 1 else q - 1)) = true ∧ ∀ w, narR (Fd.sgnV s (Fd.sgnV false 9218868437227405312)) w = Fs.nxtV x y) ∨
                (leF .f64 (embu 2139095040) (embu (if g then q + 1 else q - 1)) = false ∧ ∀ w, narR (Fd.sgnV s (embu (if g then q + 1 else q - 1))) w = Fs.nxtV x y)) := by
              constructor; intro g hg
              have hh := E.out g hg
              rw [← hq, ← hs] at hh
              have hlt := H2.out
              have q2 : (if g then q + 1 else q - 1) ≤ 2139095040 := by split <;> omega
              obtain ⟨p, hp⟩ : ∃ p, p = (if g then q + 1 else q - 1) := ⟨_, rfl⟩
              rw [← hp] at hh q2 ⊢
              have b1 := embu_lt (q := 2139095040) (by omega)
              have b2 := embu_lt q2
              rw [le_words (by omega) (by omega)]
              rcases Nat.lt_or_ge p 2139095040 with d | d
              · right
                have := embu_mono d
                refine ⟨by simp; omega, fun w => ?_⟩
                rw [embu_emb d, nar_sgn (by omega), hh]
              · left
                have e : p = 2139095040 := by omega
                refine ⟨by rw [e]; simp, fun w => ?_⟩
                rw [show Fd.sgnV false 9218868437227405312 = 9218868437227405312 from rfl, ← emb_inf, nar_sgn (by omega), hh, e]
            rw [← hq] at hr H0 H2
            rw [← hs] at t5
            have hT : W64 (Fd.sgnV false 9218868437227405312) := by unfold W64; decide
            have hU : ∀ g : Bool, W64 (embu (if g then q + 1 else q - 1)) := fun g => by
              have := embu_lt (q := (if g then q + 1 else q - 1)) (by have := H2.out; split <;> omega)
              unfold W64; omega
            have HT : ∃ g : Bool, g = decide ((0 < Fs.key x ∧ Fs.key x < Fs.key y) ∨ (Fs.key x < 0 ∧ Fs.key y < Fs.key x)) ∧
                ((ltF .f64 0 (wide x) = true ∧ ltF .f64 (wide x) (wide y) = true ∧ s = false ∧ g = true) ∨ (ltF .f64 0 (wide x) = true ∧ ltF .f64 (wide x) (wide y) = false ∧ s = false ∧ g = false) ∨ (ltF .f64 0 (wide x) = false ∧ s = true ∧ ltF .f64 (wide y) (wide x) = g)) := by
              refine ⟨_, rfl, ?_⟩
              rw [t2, t3, t6, hs, sx]
              rcases (by omega : 0 < Fs.key x ∨ Fs.key x < 0) with p | p
              · rcases (by omega : Fs.key x < Fs.key y ∨ Fs.key y < Fs.key x) with d | d
                · left; simp; omega
                · right; left; simp; omega
              · right; right; simp
                refine ⟨by omega, p, ?_⟩
                rw [Bool.eq_iff_iff]; simp; omega
            obtain ⟨g, hg, ht⟩ := HT
            have F := FIN.out g hg
            have hUg : W64 (embu (if g then q + 1 else q - 1)) := hU g
            clear c z kk sx hl hz E hi0 hs i t1 t2 t3 t4 t6 t7 by' bx FIN hU hg hq
            rcases ht with ⟨u1, u2, u3, u4⟩ | ⟨u1, u2, u3, u4⟩ | ⟨u1, u3, u2⟩
            · subst u3; subst u4
              simp only [if_true] at F hUg
              rcases F with ⟨v1, v2⟩ | ⟨v1, v2⟩
              all_goals
                have V := Hd.mk v2
                clear v2
                go_enter Try.func26, Try.ntmps26
                go_wp2_with (first | (go_at_call 45; refine (isNothing_c _ _).mono ?_; rintro e w' ⟨rfl, n, rfl⟩) | (go_at_call 46; refine (nothing_c _).mono ?_; rintro e w' ⟨r, hr, hW, rfl, n, rfl⟩) | (go_at_call 51; refine (isInfinity_c _ _).mono ?_; rintro e w' ⟨rfl, n, rfl⟩) | (go_at_call 53; refine (infinity_c _ _).mono ?_; rintro e w' ⟨rfl, n, rfl⟩) | (go_at_call 49; refine (size_c _ (by with_reducible assumption) _).mono ?_; rintro e w' ⟨rfl, n, rfl⟩) | (go_at_call 47; refine (signed_c _ _ (by with_reducible assumption) _).mono ?_; rintro e w' ⟨rfl, n, rfl⟩) | (go_at_call 48; refine (foll32_c q _ H0.out H2.out _).mono ?_; rintro e w' ⟨rfl, n, rfl⟩) | (go_at_call 52; refine (power_at _ 1 (embu 2139095040) _ rfl (by omega) (by omega) pw32_top (Nat.le_of_lt (embu_lt (by omega))) _).mono ?_; rintro e w' ⟨rfl, n, rfl⟩))
                go_ret
                exact ⟨_, HQ.out _ (V.out _), W_narR _ _, rfl, _, rfl⟩
            · subst u3; subst u4
              simp only [Bool.false_eq_true, if_false] at F hUg
              rcases F with ⟨v1, v2⟩ | ⟨v1, v2⟩
              all_goals
                have V := Hd.mk v2
                clear v2
                go_enter Try.func26, Try.ntmps26
                go_wp2_with (first | (go_at_call 45; refine (isNothing_c _ _).mono ?_; rintro e w' ⟨rfl, n, rfl⟩) | (go_at_call 46; refine (nothing_c _).mono ?_; rintro e w' ⟨r, hr, hW, rfl, n, rfl⟩) | (go_at_call 51; refine (isInfinity_c _ _).mono ?_; rintro e w' ⟨rfl, n, rfl⟩) | (go_at_call 53; refine (infinity_c _ _).mono ?_; rintro e w' ⟨rfl, n, rfl⟩) | (go_at_call 49; refine (size_c _ (by with_reducible assumption) _).mono ?_; rintro e w' ⟨rfl, n, rfl⟩) | (go_at_call 47; refine (signed_c _ _ (by with_reducible assumption) _).mono ?_; rintro e w' ⟨rfl, n, rfl⟩) | (go_at_call 48; refine (foll32_c q _ H0.out H2.out _).mono ?_; rintro e w' ⟨rfl, n, rfl⟩) | (go_at_call 52; refine (power_at _ 1 (embu 2139095040) _ rfl (by omega) (by omega) pw32_top (Nat.le_of_lt (embu_lt (by omega))) _).mono ?_; rintro e w' ⟨rfl, n, rfl⟩))
                go_ret
                exact ⟨_, HQ.out _ (V.out _), W_narR _ _, rfl, _, rfl⟩
            · subst u3
              cases g <;> simp only [Bool.false_eq_true, if_false, if_true] at F hUg <;> rcases F with ⟨v1, v2⟩ | ⟨v1, v2⟩
              all_goals
                have V := Hd.mk v2
                clear v2
                go_enter Try.func26, Try.ntmps26
                go_wp2_with (first | (go_at_call 45; refine (isNothing_c _ _).mono ?_; rintro e w' ⟨rfl, n, rfl⟩) | (go_at_call 46; refine (nothing_c _).mono ?_; rintro e w' ⟨r, hr, hW, rfl, n, rfl⟩) | (go_at_call 51; refine (isInfinity_c _ _).mono ?_; rintro e w' ⟨rfl, n, rfl⟩) | (go_at_call 53; refine (infinity_c _ _).mono ?_; rintro e w' ⟨rfl, n, rfl⟩) | (go_at_call 49; refine (size_c _ (by with_reducible assumption) _).mono ?_; rintro e w' ⟨rfl, n, rfl⟩) | (go_at_call 47; refine (signed_c _ _ (by with_reducible assumption) _).mono ?_; rintro e w' ⟨rfl, n, rfl⟩) | (go_at_call 48; refine (foll32_c q _ H0.out H2.out _).mono ?_; rintro e w' ⟨rfl, n, rfl⟩) | (go_at_call 52; refine (power_at _ 1 (embu 2139095040) _ rfl (by omega) (by omega) pw32_top (Nat.le_of_lt (embu_lt (by omega))) _).mono ?_; rintro e w' ⟨rfl, n, rfl⟩))
                go_ret
                exact ⟨_, HQ.out _ (V.out _), W_narR _ _, rfl, _, rfl⟩
    · have R : Hd (∀ r w, Fd.nan r = true → Fs.nextQ x y (narR r w)) := ⟨fun r w h => by unfold Fs.nextQ; rw [nx, ny, Bool.or_true, if_pos rfl]; exact narR_nan h w⟩
      have mx := nan_wide x
      go_enter Try.func26, Try.ntmps26
      go_wp2_with (first | (go_at_call 45; refine (isNothing_c _ _).mono ?_; rintro e w' ⟨rfl, n, rfl⟩) | (go_at_call 46; refine (nothing_c _).mono ?_; rintro e w' ⟨r, hr, hW, rfl, n, rfl⟩) | (go_at_call 51; refine (isInfinity_c _ _).mono ?_; rintro e w' ⟨rfl, n, rfl⟩) | (go_at_call 53; refine (infinity_c _ _).mono ?_; rintro e w' ⟨rfl, n, rfl⟩) | (go_at_call 49; refine (size_c _ (by with_reducible assumption) _).mono ?_; rintro e w' ⟨rfl, n, rfl⟩) | (go_at_call 47; refine (signed_c _ _ (by with_reducible assumption) _).mono ?_; rintro e w' ⟨rfl, n, rfl⟩))
      go_ret
      exact ⟨_, R.out _ _ hr, W_narR _ _, rfl, _, rfl⟩
  · have R : Hd (∀ r w, Fd.nan r = true → Fs.nextQ x y (narR r w)) := ⟨fun r w h => by unfold Fs.nextQ; rw [nx, Bool.true_or, if_pos rfl]; exact narR_nan h w⟩
    go_enter Try.func26, Try.ntmps26
    go_wp2_with (first | (go_at_call 45; refine (isNothing_c _ _).mono ?_; rintro e w' ⟨rfl, n, rfl⟩) | (go_at_call 46; refine (nothing_c _).mono ?_; rintro e w' ⟨r, hr, hW, rfl, n, rfl⟩) | (go_at_call 51; refine (isInfinity_c _ _).mono ?_; rintro e w' ⟨rfl, n, rfl⟩) | (go_at_call 53; refine (infinity_c _ _).mono ?_; rintro e w' ⟨rfl, n, rfl⟩) | (go_at_call 49; refine (size_c _ (by with_reducible assumption) _).mono ?_; rintro e w' ⟨rfl, n, rfl⟩) | (go_at_call 47; refine (signed_c _ _ (by with_reducible assumption) _).mono ?_; rintro e w' ⟨rfl, n, rfl⟩))
    go_ret
    exact ⟨_, R.out _ _ hr, W_narR _ _, rfl, _, rfl⟩

end Go.Proofs.Ytkiieekpbcnfkaa
