/- Contract of the reference's nearest; conditions: as told in each line. -/
import Derived.Test.YtjfoiicooleeiaaYA
import Derived.Test.YtjfoiicooleeiaaYB
import Derived.Test.YtjfoiicooleeiaaC6
import Derived.Test.YtjfoiicooleeiaaDK
namespace Go.Proofs.Ytjfoiicooleeiaa
open Go.RowKit
theorem power_x (mi ki : Int) (m r : Nat) (hmi : mi = (m : Int)) (hm : m ≤ 9007199254740992) (hk : -100000 ≤ ki ∧ ki ≤ 100000) (hr : Fd.PW m ki r) (w : World) :
    Calls Try.prog 52 #[.int .u64 mi, .int .i64 ki] w (RV (.float .f64 (min r 9218868437227405312)) w) := by
  subst hmi; exact power_c m r ki hm hk hr w
theorem cut_x {a : Value} {M ka : Nat} (ni : Int) (n Q : Nat) (hni : ni = (n : Int)) (w : World) (ha : NS w a M ka) (h1 : ka ≤ 1000) (h2 : n ≤ 30000) (hQ : M / 2 ^ n = Q) (hM : Q < 18446744073709551616) :
    Calls Try.prog 53 #[a, .int .i64 ni] w (RQ (.int .u64 (Q : Int)) w) := by
  subst hni; exact cut_c n Q w ha h1 h2 hQ hM
theorem twice_x {a : Value} {M ka : Nat} (ni : Int) (n : Nat) (hni : ni = (n : Int)) (w : World) (ha : NS w a M ka) (h1 : ka ≤ 1000) (h2 : n ≤ 10000) :
    Calls Try.prog 31 #[a, .int .i64 ni] w (RNS (M * 2 ^ n) (ka + n / 32 + 1) w) := by
  subst hni; exact twice_c n w ha h1 h2
theorem natural_x (xi : Int) (x : Nat) (hxi : xi = (x : Int)) (hx : x < 18446744073709551616) (w : World) :
    Calls Try.prog 32 #[.int .u64 xi] w (RNS x 2 w) := by
  subst hxi; exact natural_c x hx w
/-- the nearest number to M times 2 to the power of e -/
def RNear (M : Nat) (e : Int) (w : World) (en : Ending) (w' : World) : Prop := ∃ R, Fd.NearAt M e R ∧ en = .returned (.float .f64 (min R 9218868437227405312)) ∧ Below w.heap.size w w'
theorem below_drewN {B : Nat} {a w : World} (h : Below B a w) (n : Nat) : Below B a (w.drewN n) := ⟨h.os, h.tape, h.output, h.size, h.block⟩
/-- one call behind another -/
theorem below_then {a b c : World} (h : Below a.heap.size a b) (k : Below b.heap.size b c) : Below a.heap.size a c := h.trans (k.mono h.size)
theorem small_facts {M b : Nat} {e nn : Int} (hb : M < 2 ^ b) (n1 : (b : Int) - 53 ≤ nn) (n2 : -1074 - e ≤ nn) (d : nn ≤ 0) : M < 9007199254740992 ∧ ∃ R, Fd.PW M e R ∧ Fd.NearAt M e R := by
  have : M < 2 ^ 53 := Nat.lt_of_lt_of_le hb (Nat.pow_le_pow_right (by omega) (by omega))
  have l : M < 9007199254740992 := this
  exact ⟨l, Fd.nearAt_small (by omega) (by omega)⟩
/-- what the great case needs: the quotient, the rest, and where it is rounded -/
theorem great_facts {M b k : Nat} {e : Int} (hb : M < 2 ^ b ∧ (0 < b → 2 ^ (b - 1) ≤ M)) (n1 : (b : Int) - 53 ≤ (k : Int)) (n2 : -1074 - e ≤ (k : Int)) (n3 : (k : Int) = b - 53 ∨ (k : Int) = -1074 - e) (d : 1 ≤ k) :
    ∃ q rest half q' R : Nat, M / 2 ^ k = q ∧ q < 9007199254740992 ∧ q * 2 ^ k ≤ M ∧ M - q * 2 ^ k = rest ∧ 1 * 2 ^ (k - 1) = half ∧ q' ≤ 9007199254740992 ∧ Fd.PW q' (e + k) R ∧ Fd.NearAt M e R ∧
      ((cmpN rest half = 1 ∧ q' = q + 1) ∨ (cmpN rest half = 0 ∧ q % 2 = 1 ∧ q' = q + 1) ∨ (cmpN rest half = 0 ∧ q % 2 = 0 ∧ q = q') ∨ (cmpN rest half = -1 ∧ q = q')) := by
  obtain ⟨f1, f2, R, f3, f4⟩ := Fd.nearAt_cut hb.1 hb.2 n1 n2 n3 d
  obtain ⟨j, rfl⟩ : ∃ j, k = j + 1 := ⟨k - 1, by omega⟩
  have dm := Nat.div_add_mod M (2 ^ (j + 1))
  rw [Nat.mul_comm] at dm
  have er : M - M / 2 ^ (j + 1) * 2 ^ (j + 1) = M % 2 ^ (j + 1) := by omega
  refine ⟨_, _, _, _, R, rfl, f1, by omega, rfl, rfl, f2, f3, f4, ?_⟩
  rw [er, Nat.one_mul, Nat.add_sub_cancel]
  unfold cmpN
  rcases Nat.lt_trichotomy (M % 2 ^ (j + 1)) (2 ^ j) with c | c | c
  · right; right; right
    exact ⟨by rw [if_pos c], (Fd.rne_down (Or.inl c)).symm⟩
  · rw [if_neg (by omega), if_neg (by omega)]
    rcases Nat.mod_two_eq_zero_or_one (M / 2 ^ (j + 1)) with o | o
    · right; right; left
      exact ⟨rfl, o, (Fd.rne_down (Or.inr ⟨c.symm, o⟩)).symm⟩
    · right; left
      exact ⟨rfl, o, Fd.rne_up (Or.inr ⟨c.symm, o⟩)⟩
  · left
    exact ⟨by rw [if_neg (by omega), if_pos c], Fd.rne_up (Or.inl c)⟩
set_option maxHeartbeats 2000000 in
theorem nearest_c {a : Value} {M ka : Nat} (e : Int) (w : World) (ha : NS w a M ka) (h1 : ka ≤ 250) (h2 : -5000 ≤ e) (h3 : e ≤ 5000) :
    Calls Try.prog 37 #[a, .int .i64 e] w (RNear M e w) := by
  obtain ⟨A, n, c, la, rfl, hn, da, hM⟩ := ha
  have HA : Hd (NS w (.slice A n c) M ka) := ⟨A, n, c, la, rfl, hn, da, hM⟩
  have Z : Hd (n = 0 → M = 0) := ⟨fun h => by
    have := da.len
    rw [← hM, show la = [] from List.eq_nil_of_length_eq_zero (by omega)]; rfl⟩
  clear da hM
  go_enter Try.func37, Try.ntmps37
  go_wp2_with fail
  refine (binary_c _ HA.out (by omega)).mono ?_
  rintro en w' ⟨b, hb1, hb2, hb3, rfl, rfl⟩
  obtain ⟨nn, n1, n2, n3, ne⟩ : ∃ nn : Int, (b : Int) - 53 ≤ nn ∧ -1074 - e ≤ nn ∧ Hd (nn = b - 53 ∨ nn = -1074 - e) ∧ (((b : Int) - 53 = nn ∧ (-1074 - e ≤ (b : Int) - 53)) ∨ (-1074 - e = nn ∧ (b : Int) - 53 < -1074 - e)) := by
    rcases (by omega : (-1074 - e ≤ (b : Int) - 53) ∨ (b : Int) - 53 < -1074 - e) with g | g
    · exact ⟨_, by omega, by omega, ⟨Or.inl rfl⟩, Or.inl ⟨rfl, g⟩⟩
    · exact ⟨-1074 - e, by omega, by omega, ⟨Or.inr rfl⟩, Or.inr ⟨rfl, g⟩⟩
  have HB := Hd.mk (And.intro hb1 hb2)
  have nb : nn ≤ 30000 := by omega
  clear hb1 hb2
  rcases ne with ⟨en, g⟩ | ⟨en, g⟩
  all_goals
    rcases Nat.eq_zero_or_pos n with z | z
    · have R : Hd (M = 0) := ⟨Z.out z⟩
      subst z
      go_wp2
      go_ret
      exact ⟨0, by rw [R.out]; exact Fd.nearAt_zero e, rfl, Below.refl _ _⟩
    · have z' : ((n : Int) == 0) = false := by simp; omega
      rcases (by omega : nn ≤ 0 ∨ 0 < nn) with d | d
      · obtain ⟨s1, R, s2, s3⟩ := small_facts HB.out.1 n1 n2 d
        have H2 := Hd.mk s2
        have H3 := Hd.mk s3
        clear s2 s3
        go_wp2_with fail
        refine (cut_x 0 0 M rfl _ HA.out (by omega) (by omega) (by simp) (by omega)).mono ?_
        rintro en' w' ⟨rfl, rfl⟩
        go_wp2_with fail
        refine (power_x (M : Int) e M R rfl (by omega) (by omega) H2.out _).mono ?_
        rintro en' w' ⟨rfl, n', rfl⟩
        go_wp2
        go_ret
        exact ⟨R, H3.out, rfl, below_drewN (Below.refl _ _) _⟩
      · obtain ⟨k, rfl⟩ := Int.eq_ofNat_of_zero_le (show 0 ≤ nn by omega)
        obtain ⟨q, rest, half, q', R, g1, g2, g3, g4, g5, g6, g7, g8, g9⟩ := great_facts HB.out n1 n2 n3.out (by omega)
        have G1 := Hd.mk g1
        have G3 := Hd.mk g3
        have G4 := Hd.mk g4
        have G5 := Hd.mk g5
        have G7 := Hd.mk g7
        have G8 := Hd.mk g8
        have G9 := Hd.mk g9
        clear g1 g3 g4 g5 g7 g8 g9 Z HB n3 la
        have EN := Hd.mk en
        go_wp2_with fail
        refine (cut_x (k : Int) k q rfl _ HA.out (by omega) (by omega) G1.out (by omega)).mono ?_
        rintro en' w' ⟨rfl, rfl⟩
        go_wp2_with fail
        refine (natural_x (q : Int) q rfl (by omega) _).mono ?_
        rintro en' w1 ⟨v1, N1, rfl, B1⟩
        have HN1 := Hd.mk N1
        have HB1 := Hd.mk B1
        clear N1 B1
        go_wp2_with fail
        refine (twice_x (k : Int) k rfl _ HN1.out (by omega) (by omega)).mono ?_
        rintro en' w2 ⟨v2, N2, rfl, B2⟩
        have HN2 := Hd.mk N2
        have HB2 := Hd.mk (below_then HB1.out B2)
        clear N2 B2 HN1 HB1
        go_wp2_with fail
        refine (minus_c _ (HA.out.below HB2.out) HN2.out (by omega) (by omega) G3.out).mono ?_
        rintro en' w3 ⟨v3, N3, rfl, B3⟩
        rw [G4.out] at N3
        have HN3 := Hd.mk N3
        have HB3 := Hd.mk (below_then HB2.out B3)
        clear N3 B3 HN2 HB2
        go_wp2_with fail
        refine (natural_x 1 1 rfl (by omega) _).mono ?_
        rintro en' w4 ⟨v4, N4, rfl, B4⟩
        have HN4 := Hd.mk N4
        have HN34 := Hd.mk (HN3.out.below B4)
        have HB4 := Hd.mk (below_then HB3.out B4)
        clear N4 B4 HN3 HB3
        go_wp2_with fail
        refine (twice_x ((k : Int) - 1) (k - 1) (by omega) _ HN4.out (by omega) (by omega)).mono ?_
        rintro en' w5 ⟨v5, N5, rfl, B5⟩
        rw [G5.out] at N5
        have HN5 := Hd.mk N5
        have HN35 := Hd.mk (HN34.out.below B5)
        have HB5 := Hd.mk (below_then HB4.out B5)
        clear N5 B5 HN4 HB4 HN34
        go_wp2_with fail
        refine (compare_c _ HN35.out HN5.out (by omega) (by omega)).mono ?_
        rintro en' w' ⟨rfl, rfl⟩
        rcases G9.out with ⟨c1, rfl⟩ | ⟨c1, c2, rfl⟩ | ⟨c1, c2, rfl⟩ | ⟨c1, rfl⟩
        · have mi : (q : Int) + 1 = ((q + 1 : Nat) : Int) := by omega
          have MI := Hd.mk mi
          clear mi
          go_wp2_with fail
          refine (power_x ((q : Int) + 1) (e + (k : Int)) _ R MI.out (by omega) (by omega) G7.out _).mono ?_
          rintro en' w' ⟨rfl, n', rfl⟩
          go_wp2
          go_ret
          exact ⟨R, G8.out, rfl, below_drewN HB5.out _⟩
        · have c3 : (q : Int) % 2 = 1 := by omega
          have mi : (q : Int) + 1 = ((q + 1 : Nat) : Int) := by omega
          have MI := Hd.mk mi
          clear mi
          go_wp2_with fail
          refine (power_x ((q : Int) + 1) (e + (k : Int)) _ R MI.out (by omega) (by omega) G7.out _).mono ?_
          rintro en' w' ⟨rfl, n', rfl⟩
          go_wp2
          go_ret
          exact ⟨R, G8.out, rfl, below_drewN HB5.out _⟩
        · have c3 : (q : Int) % 2 = 0 := by omega
          go_wp2_with fail
          refine (power_x (q : Int) (e + (k : Int)) q R rfl (by omega) (by omega) G7.out _).mono ?_
          rintro en' w' ⟨rfl, n', rfl⟩
          go_wp2
          go_ret
          exact ⟨R, G8.out, rfl, below_drewN HB5.out _⟩
        · go_wp2_with fail
          refine (power_x (q : Int) (e + (k : Int)) q R rfl (by omega) (by omega) G7.out _).mono ?_
          rintro en' w' ⟨rfl, n', rfl⟩
          go_wp2
          go_ret
          exact ⟨R, G8.out, rfl, below_drewN HB5.out _⟩
end Go.Proofs.Ytjfoiicooleeiaa
