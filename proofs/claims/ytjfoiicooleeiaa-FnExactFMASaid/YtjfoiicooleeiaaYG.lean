/- Contract of the reference's sum; conditions: as told in each line. -/
import Derived.Test.YtjfoiicooleeiaaYD
import Derived.Test.YtjfoiicooleeiaaDR
namespace Go.Proofs.Ytjfoiicooleeiaa
open Go.RowKit
/-- the nearest number to the sum of M and N with signs, times 2 to the power of g -/
def SumQ (s t : Bool) (M N : Nat) (g : Int) (v : Nat) : Prop := ∃ R, Fd.NearAt (Fd.sm s M + Fd.sm t N).natAbs g R ∧ v = Fd.wd (Fd.sgT s t (Fd.sm s M + Fd.sm t N)) (min R 9218868437227405312)
theorem sumq_of {s t r : Bool} {M N D R : Nat} {g : Int} (nr : Fd.NearAt D g R) (h : (Fd.sm s M + Fd.sm t N).natAbs = D ∧ Fd.sgT s t (Fd.sm s M + Fd.sm t N) = r) (hl : min R 9218868437227405312 < 9223372036854775808) : SumQ s t M N g (Fd.sgnV r (min R 9218868437227405312)) := by
  refine ⟨R, by rw [h.1]; exact nr, ?_⟩
  rw [h.2, Fd.wd_sgn hl]
theorem sumq_zero {s t : Bool} {M N : Nat} {g : Int} (hs : t = !s) (h : M = N) : SumQ s t M N g 0 := by
  obtain ⟨a, b⟩ := Fd.sum_eq hs h
  refine ⟨0, by rw [a]; exact Fd.nearAt_zero g, ?_⟩
  rw [b]; rfl
def RSum (s t : Bool) (M N : Nat) (g : Int) (w : World) (e : Ending) (w' : World) : Prop := ∃ v, SumQ s t M N g v ∧ W64 v ∧ e = .returned (.float .f64 v) ∧ Below w.heap.size w w'
set_option maxHeartbeats 4000000 in
theorem sum_gt_c {a b : Value} {M N ka kb : Nat} (s t : Bool) (e f : Int) (d : Nat) (w : World) (ha : NS w a M ka) (hb : NS w b N kb) (h1 : ka ≤ 10) (h2 : kb ≤ 10) (he1 : -3000 ≤ e) (he2 : e ≤ 3000) (hf1 : -3000 ≤ f) (hf2 : f ≤ 3000) (hd : e = f + d) (hd1 : 1 ≤ d) (MA NA : Nat) (hMA : MA = M * 2 ^ d) (hNA : NA = N * 2 ^ 0) :
    Calls Try.prog 48 #[.bool s, a, .int .i64 e, .bool t, b, .int .i64 f] w (RSum s t MA NA f w) := by
  have HA := Hd.mk ha
  have HB := Hd.mk hb
  have c0 : f < e := by omega
  have e0 : e - f = (d : Int) := by omega
  have HD := Hd.mk hd
  have dl : d ≤ 6000 := by omega
  have HMA := Hd.mk hMA
  have HNA := Hd.mk hNA
  clear ha hb hd hMA hNA
  go_enter Try.func48, Try.ntmps48
  go_wp2_with fail
  refine (twice_x (d : Int) d rfl _ HA.out (by omega) (by omega)).mono ?_
  rintro en' w1 ⟨v1, N1, rfl, B1⟩
  rw [← HMA.out] at N1
  have HN1 := Hd.mk N1
  have HNB := Hd.mk (HB.out.below B1)
  have HB1 := Hd.mk B1
  clear N1 B1 HA HB
  go_wp2_with fail
  refine (twice_x 0 0 rfl _ HNB.out (by omega) (by omega)).mono ?_
  rintro en' w2 ⟨v2, N2, rfl, B2⟩
  rw [← HNA.out] at N2
  have HN2 := Hd.mk N2
  have HN12 := Hd.mk (HN1.out.below B2)
  have HB2 := Hd.mk (below_then HB1.out B2)
  clear N2 B2 HN1 HB1 HNB
  by_cases st : t = s
  · have e1 : (s == t) = true := by rw [st]; simp
    have ST := Hd.mk st
    clear st
    go_wp2_with fail
    refine (plus_c _ HN12.out HN2.out (by omega) (by omega)).mono ?_
    rintro en' w5 ⟨v5, N5, rfl, B5⟩
    have HN5 := Hd.mk N5
    have HB5 := Hd.mk (below_then HB2.out B5)
    clear N5 B5
    go_wp2_with fail
    refine (nearest_c f _ HN5.out (by omega) (by omega) (by omega)).mono ?_
    rintro en' w9 ⟨R, nr, rfl, B9⟩
    have HR : Hd (SumQ s t MA NA f (Fd.sgnV s (min R 9218868437227405312))) := ⟨sumq_of nr (by rw [ST.out]; exact Fd.sum_same) (by omega)⟩
    have HB9 := Hd.mk (below_then HB5.out B9)
    clear nr B9
    go_wp2_with fail
    refine (signed_c s _ (by unfold W64; omega) _).mono ?_
    rintro en' w' ⟨rfl, n', rfl⟩
    go_wp2
    go_ret
    exact ⟨_, HR.out, by exact Fd.sgnV_W (by omega), rfl, below_drewN HB9.out _⟩
  · have e1 : (s == t) = false := by cases s <;> cases t <;> simp at st ⊢
    have ST : Hd (t = !s) := ⟨by cases s <;> cases t <;> simp at st ⊢⟩
    clear st
    rcases Nat.lt_trichotomy MA NA with c | c | c
    · have c1 : cmpN MA NA = -1 := by unfold cmpN; rw [if_pos c]
      go_wp2_with fail
      refine (compare_c _ HN12.out HN2.out (by omega) (by omega)).mono ?_
      rintro en' w' ⟨rfl, rfl⟩
      go_wp2_with fail
      refine (compare_c _ HN12.out HN2.out (by omega) (by omega)).mono ?_
      rintro en' w' ⟨rfl, rfl⟩
      go_wp2_with fail
      refine (minus_c _ HN2.out HN12.out (by omega) (by omega) (by omega)).mono ?_
      rintro en' w5 ⟨v5, N5, rfl, B5⟩
      have HN5 := Hd.mk N5
      have HB5 := Hd.mk (below_then HB2.out B5)
      clear N5 B5
      go_wp2_with fail
      refine (nearest_c f _ HN5.out (by omega) (by omega) (by omega)).mono ?_
      rintro en' w9 ⟨R, nr, rfl, B9⟩
      have HR : Hd (SumQ s t MA NA f (Fd.sgnV t (min R 9218868437227405312))) := ⟨sumq_of nr (Fd.sum_lt ST.out c) (by omega)⟩
      have HB9 := Hd.mk (below_then HB5.out B9)
      clear nr B9
      go_wp2_with fail
      refine (signed_c t _ (by unfold W64; omega) _).mono ?_
      rintro en' w' ⟨rfl, n', rfl⟩
      go_wp2
      go_ret
      exact ⟨_, HR.out, by exact Fd.sgnV_W (by omega), rfl, below_drewN HB9.out _⟩
    · have c1 : cmpN MA NA = 0 := by unfold cmpN; rw [if_neg (by omega), if_neg (by omega)]
      have HR : Hd (SumQ s t MA NA f 0) := ⟨sumq_zero ST.out c⟩
      clear c
      go_wp2_with fail
      refine (compare_c _ HN12.out HN2.out (by omega) (by omega)).mono ?_
      rintro en' w' ⟨rfl, rfl⟩
      go_wp2_with fail
      refine (compare_c _ HN12.out HN2.out (by omega) (by omega)).mono ?_
      rintro en' w' ⟨rfl, rfl⟩
      go_wp2
      go_ret
      exact ⟨_, HR.out, by unfold W64; omega, rfl, HB2.out⟩
    · have c1 : cmpN MA NA = 1 := by unfold cmpN; rw [if_neg (by omega), if_pos c]
      go_wp2_with fail
      refine (compare_c _ HN12.out HN2.out (by omega) (by omega)).mono ?_
      rintro en' w' ⟨rfl, rfl⟩
      go_wp2_with fail
      refine (minus_c _ HN12.out HN2.out (by omega) (by omega) (by omega)).mono ?_
      rintro en' w5 ⟨v5, N5, rfl, B5⟩
      have HN5 := Hd.mk N5
      have HB5 := Hd.mk (below_then HB2.out B5)
      clear N5 B5
      go_wp2_with fail
      refine (nearest_c f _ HN5.out (by omega) (by omega) (by omega)).mono ?_
      rintro en' w9 ⟨R, nr, rfl, B9⟩
      have HR : Hd (SumQ s t MA NA f (Fd.sgnV s (min R 9218868437227405312))) := ⟨sumq_of nr (Fd.sum_gt ST.out c) (by omega)⟩
      have HB9 := Hd.mk (below_then HB5.out B9)
      clear nr B9
      go_wp2_with fail
      refine (signed_c s _ (by unfold W64; omega) _).mono ?_
      rintro en' w' ⟨rfl, n', rfl⟩
      go_wp2
      go_ret
      exact ⟨_, HR.out, by exact Fd.sgnV_W (by omega), rfl, below_drewN HB9.out _⟩
set_option maxHeartbeats 4000000 in
theorem sum_le_c {a b : Value} {MA N ka kb : Nat} (s t : Bool) (e f : Int) (d : Nat) (w : World) (ha : NS w a MA ka) (hb : NS w b N kb) (h1 : ka ≤ 10) (h2 : kb ≤ 10) (he1 : -3000 ≤ e) (he2 : e ≤ 3000) (hf1 : -3000 ≤ f) (hf2 : f ≤ 3000) (hd : f = e + d) (NA : Nat) (hNA : NA = N * 2 ^ d) :
    Calls Try.prog 48 #[.bool s, a, .int .i64 e, .bool t, b, .int .i64 f] w (RSum s t MA NA e w) := by
  have HA := Hd.mk ha
  have HB := Hd.mk hb
  have c0 : ¬ f < e := by omega
  have e0 : f - e = (d : Int) := by omega
  have HD := Hd.mk hd
  have dl : d ≤ 6000 := by omega
  have HNA := Hd.mk hNA
  clear ha hb hd hNA
  go_enter Try.func48, Try.ntmps48
  go_wp2_with fail
  refine (twice_x (d : Int) d rfl _ HB.out (by omega) (by omega)).mono ?_
  rintro en' w2 ⟨v2, N2, rfl, B2⟩
  rw [← HNA.out] at N2
  have HN2 := Hd.mk N2
  have HN12 := Hd.mk (HA.out.below B2)
  have HB2 := Hd.mk B2
  clear N2 B2 HA HB
  by_cases st : t = s
  · have e1 : (s == t) = true := by rw [st]; simp
    have ST := Hd.mk st
    clear st
    go_wp2_with fail
    refine (plus_c _ HN12.out HN2.out (by omega) (by omega)).mono ?_
    rintro en' w5 ⟨v5, N5, rfl, B5⟩
    have HN5 := Hd.mk N5
    have HB5 := Hd.mk (below_then HB2.out B5)
    clear N5 B5
    go_wp2_with fail
    refine (nearest_c e _ HN5.out (by omega) (by omega) (by omega)).mono ?_
    rintro en' w9 ⟨R, nr, rfl, B9⟩
    have HR : Hd (SumQ s t MA NA e (Fd.sgnV s (min R 9218868437227405312))) := ⟨sumq_of nr (by rw [ST.out]; exact Fd.sum_same) (by omega)⟩
    have HB9 := Hd.mk (below_then HB5.out B9)
    clear nr B9
    go_wp2_with fail
    refine (signed_c s _ (by unfold W64; omega) _).mono ?_
    rintro en' w' ⟨rfl, n', rfl⟩
    go_wp2
    go_ret
    exact ⟨_, HR.out, by exact Fd.sgnV_W (by omega), rfl, below_drewN HB9.out _⟩
  · have e1 : (s == t) = false := by cases s <;> cases t <;> simp at st ⊢
    have ST : Hd (t = !s) := ⟨by cases s <;> cases t <;> simp at st ⊢⟩
    clear st
    rcases Nat.lt_trichotomy MA NA with c | c | c
    · have c1 : cmpN MA NA = -1 := by unfold cmpN; rw [if_pos c]
      go_wp2_with fail
      refine (compare_c _ HN12.out HN2.out (by omega) (by omega)).mono ?_
      rintro en' w' ⟨rfl, rfl⟩
      go_wp2_with fail
      refine (compare_c _ HN12.out HN2.out (by omega) (by omega)).mono ?_
      rintro en' w' ⟨rfl, rfl⟩
      go_wp2_with fail
      refine (minus_c _ HN2.out HN12.out (by omega) (by omega) (by omega)).mono ?_
      rintro en' w5 ⟨v5, N5, rfl, B5⟩
      have HN5 := Hd.mk N5
      have HB5 := Hd.mk (below_then HB2.out B5)
      clear N5 B5
      go_wp2_with fail
      refine (nearest_c e _ HN5.out (by omega) (by omega) (by omega)).mono ?_
      rintro en' w9 ⟨R, nr, rfl, B9⟩
      have HR : Hd (SumQ s t MA NA e (Fd.sgnV t (min R 9218868437227405312))) := ⟨sumq_of nr (Fd.sum_lt ST.out c) (by omega)⟩
      have HB9 := Hd.mk (below_then HB5.out B9)
      clear nr B9
      go_wp2_with fail
      refine (signed_c t _ (by unfold W64; omega) _).mono ?_
      rintro en' w' ⟨rfl, n', rfl⟩
      go_wp2
      go_ret
      exact ⟨_, HR.out, by exact Fd.sgnV_W (by omega), rfl, below_drewN HB9.out _⟩
    · have c1 : cmpN MA NA = 0 := by unfold cmpN; rw [if_neg (by omega), if_neg (by omega)]
      have HR : Hd (SumQ s t MA NA e 0) := ⟨sumq_zero ST.out c⟩
      clear c
      go_wp2_with fail
      refine (compare_c _ HN12.out HN2.out (by omega) (by omega)).mono ?_
      rintro en' w' ⟨rfl, rfl⟩
      go_wp2_with fail
      refine (compare_c _ HN12.out HN2.out (by omega) (by omega)).mono ?_
      rintro en' w' ⟨rfl, rfl⟩
      go_wp2
      go_ret
      exact ⟨_, HR.out, by unfold W64; omega, rfl, HB2.out⟩
    · have c1 : cmpN MA NA = 1 := by unfold cmpN; rw [if_neg (by omega), if_pos c]
      go_wp2_with fail
      refine (compare_c _ HN12.out HN2.out (by omega) (by omega)).mono ?_
      rintro en' w' ⟨rfl, rfl⟩
      go_wp2_with fail
      refine (minus_c _ HN12.out HN2.out (by omega) (by omega) (by omega)).mono ?_
      rintro en' w5 ⟨v5, N5, rfl, B5⟩
      have HN5 := Hd.mk N5
      have HB5 := Hd.mk (below_then HB2.out B5)
      clear N5 B5
      go_wp2_with fail
      refine (nearest_c e _ HN5.out (by omega) (by omega) (by omega)).mono ?_
      rintro en' w9 ⟨R, nr, rfl, B9⟩
      have HR : Hd (SumQ s t MA NA e (Fd.sgnV s (min R 9218868437227405312))) := ⟨sumq_of nr (Fd.sum_gt ST.out c) (by omega)⟩
      have HB9 := Hd.mk (below_then HB5.out B9)
      clear nr B9
      go_wp2_with fail
      refine (signed_c s _ (by unfold W64; omega) _).mono ?_
      rintro en' w' ⟨rfl, n', rfl⟩
      go_wp2
      go_ret
      exact ⟨_, HR.out, by exact Fd.sgnV_W (by omega), rfl, below_drewN HB9.out _⟩
end Go.Proofs.Ytjfoiicooleeiaa
