/- Contracts of the reference's compare, binary and cut; conditions: as told in each line. -/
import Derived.Test.YtjfoiicooleeiaaCY
namespace Go.Proofs.Ytjfoiicooleeiaa
open Go.RowKit
def cmpN (M N : Nat) : Int := if M < N then -1 else if N < M then 1 else 0
def CmpRel (la lb : List Nat) (k : Nat) : Prop := ∃ X, Dg.nl la = Dg.vt (Dg.dg la) k + X ∧ Dg.nl lb = Dg.vt (Dg.dg lb) k + X
theorem cmp_less {la lb : List Nat} {j x y : Nat} (h : CmpRel la lb (j + 1)) (oa : Dg.Ok la) (hx : Dg.dg la j = x) (hy : Dg.dg lb j = y) (c : x < y) : Dg.nl la < Dg.nl lb := by
  obtain ⟨X, h1, h2⟩ := h
  rw [Dg.vt, hx] at h1
  rw [Dg.vt, hy] at h2
  have b := Dg.vt_lt oa.dg j
  have : (x + 1) * 2 ^ (32 * j) ≤ y * 2 ^ (32 * j) := Nat.mul_le_mul_right _ c
  rw [Nat.add_mul, Nat.one_mul] at this
  omega
theorem cmp_sym {la lb : List Nat} {k : Nat} (h : CmpRel la lb k) : CmpRel lb la k := by
  obtain ⟨X, h1, h2⟩ := h
  exact ⟨X, h2, h1⟩
theorem cmp_next {la lb : List Nat} {j x : Nat} (h : CmpRel la lb (j + 1)) (hx : Dg.dg la j = x) (hy : Dg.dg lb j = x) : CmpRel la lb j := by
  obtain ⟨X, h1, h2⟩ := h
  rw [Dg.vt, hx] at h1
  rw [Dg.vt, hy] at h2
  exact ⟨x * 2 ^ (32 * j) + X, by omega, by omega⟩
theorem cmp_end {la lb : List Nat} (h : CmpRel la lb 0) : Dg.nl la = Dg.nl lb := by
  obtain ⟨X, h1, h2⟩ := h
  rw [Dg.vt] at h1 h2; omega
theorem cmp_start {la lb : List Nat} {k : Nat} (h1 : la.length ≤ k) (h2 : lb.length ≤ k) : CmpRel la lb k := ⟨0, by rw [Dg.vt_nl h1]; omega, by rw [Dg.vt_nl h2]; omega⟩
set_option maxHeartbeats 1000000 in
theorem compare_c {a b : Value} {M N ka kb : Nat} (w : World) (ha : NS w a M ka) (hb : NS w b N kb) (h1 : ka ≤ 1000) (h2 : kb ≤ 1000) :
    Calls Try.prog 34 #[a, b] w (RQ (.int .i64 (cmpN M N)) w) := by
  obtain ⟨A, n, c, la, rfl, hn, da, rfl⟩ := ha
  obtain ⟨A', m, c', lb, rfl, hm, db, rfl⟩ := hb
  have DA := Hd.mk da
  have DB := Hd.mk db
  clear da db
  have cm0 : (n < m ∧ decide (n < m) = true) ∨ (m ≤ n ∧ decide (n < m) = false) := by
    by_cases h : n < m
    · exact Or.inl ⟨h, by simpa using h⟩
    · exact Or.inr ⟨by omega, by simpa using h⟩
  rcases cm0 with ⟨cm, dm⟩ | ⟨cm, dm⟩
  all_goals
    go_enter Try.func34, Try.ntmps34
    go_wp2
    go_loop [6] (fun i => ∃ t : Int, -1 ≤ t ∧ t ≤ 2000 ∧ Hd (CmpRel la lb (t + 1).toNat) ∧ i = .int .i64 t) (fun i => (intOf i + 1).toNat)
    case atStart => exact ⟨_, by omega, by omega, ⟨cmp_start (by have := DA.out.len; omega) (by have := DB.out.len; omega)⟩, rfl⟩
    case round =>
      obtain ⟨t, ht1, ht2, HC, rfl⟩ := hrel
      rcases (by omega : t = -1 ∨ 0 ≤ t) with ct | ct
      · subst ct
        have R : Hd (cmpN (Dg.nl la) (Dg.nl lb) = 0) := ⟨by unfold cmpN; rw [cmp_end HC.out]; simp⟩
        go_wp2
        go_ret
        exact ⟨ret_int' R.out.symm, rfl⟩
      · obtain ⟨j, rfl⟩ := Int.eq_ofNat_of_zero_le ct
        have HC' : Hd (CmpRel la lb (j + 1)) := HC
        clear HC ht1 ct
        obtain ⟨x, hx⟩ : ∃ x, Dg.di la (j : Int) = x := ⟨_, rfl⟩
        obtain ⟨y, hy⟩ : ∃ y, Dg.di lb (j : Int) = y := ⟨_, rfl⟩
        have bx : x < 4294967296 := by rw [← hx]; exact DA.out.ok.di _
        have by' : y < 4294967296 := by rw [← hy]; exact DB.out.ok.di _
        have HX := Hd.mk hx
        have HY := Hd.mk hy
        have GX : Hd (Dg.dg la j = x) := ⟨by rw [← Dg.di_nat]; exact hx⟩
        have GY : Hd (Dg.dg lb j = y) := ⟨by rw [← Dg.di_nat]; exact hy⟩
        clear hx hy
        rcases Nat.lt_trichotomy x y with cx | cx | cx
        · have R : Hd (cmpN (Dg.nl la) (Dg.nl lb) = -1) := ⟨by unfold cmpN; rw [if_pos (cmp_less HC'.out DA.out.ok GX.out GY.out cx)]⟩
          go_wp2_with fail
          refine (digit_x (j : Int) x _ DA.out HX.out (by omega) (by omega)).mono ?_
          rintro e w' ⟨rfl, rfl⟩
          go_wp2_with fail
          refine (digit_x (j : Int) y _ DB.out HY.out (by omega) (by omega)).mono ?_
          rintro e w' ⟨rfl, rfl⟩
          go_wp2
          go_ret
          exact ⟨ret_int' R.out.symm, rfl⟩
        · subst cx
          go_wp2_with fail
          refine (digit_x (j : Int) x _ DA.out HX.out (by omega) (by omega)).mono ?_
          rintro e w' ⟨rfl, rfl⟩
          go_wp2_with fail
          refine (digit_x (j : Int) x _ DB.out HY.out (by omega) (by omega)).mono ?_
          rintro e w' ⟨rfl, rfl⟩
          go_wp2_with fail
          refine (digit_x (j : Int) x _ DA.out HX.out (by omega) (by omega)).mono ?_
          rintro e w' ⟨rfl, rfl⟩
          go_wp2_with fail
          refine (digit_x (j : Int) x _ DB.out HY.out (by omega) (by omega)).mono ?_
          rintro e w' ⟨rfl, rfl⟩
          go_wp2
          go_round
          case rel => exact ⟨(j : Int) - 1, by omega, by omega, ⟨by rw [show ((j : Int) - 1 + 1).toNat = j by omega]; exact cmp_next HC'.out GX.out GY.out⟩, rfl⟩
          case measure => simp [intOf]
        · have R : Hd (cmpN (Dg.nl la) (Dg.nl lb) = 1) := ⟨by
            have := cmp_less (cmp_sym HC'.out) DB.out.ok GY.out GX.out cx
            unfold cmpN; rw [if_neg (by omega), if_pos this]⟩
          go_wp2_with fail
          refine (digit_x (j : Int) x _ DA.out HX.out (by omega) (by omega)).mono ?_
          rintro e w' ⟨rfl, rfl⟩
          go_wp2_with fail
          refine (digit_x (j : Int) y _ DB.out HY.out (by omega) (by omega)).mono ?_
          rintro e w' ⟨rfl, rfl⟩
          go_wp2_with fail
          refine (digit_x (j : Int) x _ DA.out HX.out (by omega) (by omega)).mono ?_
          rintro e w' ⟨rfl, rfl⟩
          go_wp2_with fail
          refine (digit_x (j : Int) y _ DB.out HY.out (by omega) (by omega)).mono ?_
          rintro e w' ⟨rfl, rfl⟩
          go_wp2
          go_ret
          exact ⟨ret_int' R.out.symm, rfl⟩
/-- how many binary digits -/
def RBin (N k : Nat) (w : World) (e : Ending) (w' : World) : Prop := ∃ b : Nat, N < 2 ^ b ∧ (0 < b → 2 ^ (b - 1) ≤ N) ∧ b ≤ 32 * k ∧ e = .returned (.int .i64 (b : Int)) ∧ w = w'
theorem bit_and {x r : Nat} (bx : x < 4294967296) : bits BinOp.and IntKind.u64 ((x : Int) / 2 ^ r) 1 = ((x / 2 ^ r % 2 : Nat) : Int) := by
  have e : ((x : Int) / 2 ^ r) = ((x / 2 ^ r : Nat) : Int) := by rw [Int.natCast_ediv, Int.natCast_pow]; rfl
  have l : x / 2 ^ r ≤ x := Nat.div_le_self _ _
  rw [e, show (1 : Int) = ((1 : Nat) : Int) from rfl, bits_and_u64_nat _ 1 (by omega) (by decide), Nat.and_one_is_mod]
/-- the binary digit at a place -/
theorem bit_at {la : List Nat} {p x : Nat} (ok : Dg.Ok la) (hx : Dg.di la ((p : Int) / 32) = x) : x / 2 ^ (p % 32) % 2 = Dg.nl la / 2 ^ p % 2 := by
  have e : ((p : Int) / 32) = ((p / 32 : Nat) : Int) := by omega
  rw [e, Dg.di_nat] at hx
  rw [← hx]; exact Dg.nl_bit ok p
theorem bit_zero {N p : Nat} (h : N < 2 ^ (p + 1)) (b : N / 2 ^ p % 2 = 0) : N < 2 ^ p := by
  have : N / 2 ^ p < 2 := by rw [Nat.div_lt_iff_lt_mul (Nat.two_pow_pos p), ← Nat.pow_succ']; exact h
  have z : N / 2 ^ p = 0 := by generalize N / 2 ^ p = z at *; omega
  exact (Nat.div_eq_zero_iff_lt (Nat.two_pow_pos p)).1 z
theorem bit_one {N p : Nat} (b : N / 2 ^ p % 2 = 1) : 2 ^ p ≤ N := by
  rcases Nat.lt_or_ge N (2 ^ p) with c | c
  · rw [Nat.div_eq_of_lt c] at b; omega
  · exact c
set_option maxHeartbeats 1000000 in
theorem binary_c {a : Value} {M ka : Nat} (w : World) (ha : NS w a M ka) (h1 : ka ≤ 1000) :
    Calls Try.prog 51 #[a] w (RBin M ka w) := by
  obtain ⟨A, n, c, la, rfl, hn, da, rfl⟩ := ha
  have DA := Hd.mk da
  clear da
  go_enter Try.func51, Try.ntmps51
  go_wp2
  go_loop [3] (fun i => ∃ k : Nat, k ≤ 32 * n ∧ Hd (Dg.nl la < 2 ^ k) ∧ i = .int .i64 (k : Int)) (fun i => (intOf i).toNat)
  case atStart => exact ⟨32 * n, by omega, ⟨by rw [← DA.out.len]; exact Dg.nl_lt DA.out.ok⟩, by go_num⟩
  case round =>
    obtain ⟨k, hk, HK, rfl⟩ := hrel
    rcases Nat.eq_zero_or_pos k with z | z
    · subst z
      go_wp2
      go_ret
      exact ⟨0, HK.out, (fun h => by omega), by omega, rfl, rfl⟩
    · obtain ⟨p, rfl⟩ : ∃ p, k = p + 1 := ⟨k - 1, by omega⟩
      obtain ⟨x, hx⟩ : ∃ x, Dg.di la ((p : Int) / 32) = x := ⟨_, rfl⟩
      have bx : x < 4294967296 := by rw [← hx]; exact DA.out.ok.di _
      have HX := Hd.mk hx
      have HB := bit_at DA.out.ok hx
      have ea := bit_and (r := p % 32) bx
      rw [HB] at ea
      clear hx HB
      rcases Nat.mod_two_eq_zero_or_one (Dg.nl la / 2 ^ p) with b | b
      · have HB := Hd.mk (bit_zero HK.out b)
        rw [b] at ea
        clear b HK
        go_wp2_with fail
        refine (digit_x ((p : Int) / 32) x _ DA.out HX.out (by omega) (by omega)).mono ?_
        rintro e w' ⟨rfl, rfl⟩
        go_wp2
        go_round
        case rel => exact ⟨p, by omega, HB, rfl⟩
        case measure => simp [intOf]
      · have HB := Hd.mk (bit_one b)
        rw [b] at ea
        clear b
        go_wp2_with fail
        refine (digit_x ((p : Int) / 32) x _ DA.out HX.out (by omega) (by omega)).mono ?_
        rintro e w' ⟨rfl, rfl⟩
        go_wp2
        go_ret
        exact ⟨p + 1, HK.out, (fun _ => HB.out), by omega, rfl, rfl⟩
theorem cut_start {N n : Nat} (h : N / 2 ^ n < 18446744073709551616) : 0 = N / 2 ^ (n + 64) := by
  rw [Nat.pow_add, ← Nat.div_div_eq_div_mul, Nat.div_eq_of_lt]
  exact h
theorem cut_low {N n p : Nat} (h : N / 2 ^ n < 18446744073709551616) (hp : n ≤ p) : N / 2 ^ (p + 1) < 9223372036854775808 := by
  have a : N / 2 ^ (p + 1) ≤ N / 2 ^ (n + 1) := Nat.div_le_div_left (Nat.pow_le_pow_right (by omega) (by omega)) (Nat.two_pow_pos _)
  rw [Nat.pow_succ 2 n, ← Nat.div_div_eq_div_mul] at a
  generalize N / 2 ^ n = z at *
  omega
theorem cut_step (N p : Nat) : 2 * (N / 2 ^ (p + 1)) + N / 2 ^ p % 2 = N / 2 ^ p := by
  rw [Nat.pow_succ, ← Nat.div_div_eq_div_mul]
  generalize N / 2 ^ p = z
  omega
theorem or_bit {o b : Nat} (ho : o < 9223372036854775808) (hb : b ≤ 1) : bits BinOp.or IntKind.u64 ((o : Int) * 2) (b : Int) = ((2 * o + b : Nat) : Int) := by
  have e : ((o : Int) * 2) = ((o * 2 ^ 1 : Nat) : Int) := by omega
  rw [e, bits_or_u64_nat _ _ (by omega) (by omega), Nat.or_comm, or_high b o 1 (by omega)]
  omega
set_option maxHeartbeats 1000000 in
theorem cut_c {a : Value} {M ka : Nat} (n Q : Nat) (w : World) (ha : NS w a M ka) (h1 : ka ≤ 1000) (h2 : n ≤ 30000) (hQ : M / 2 ^ n = Q) (hM : Q < 18446744073709551616) :
    Calls Try.prog 53 #[a, .int .i64 (n : Int)] w (RQ (.int .u64 (Q : Int)) w) := by
  obtain ⟨A, m, c, la, rfl, hn, da, rfl⟩ := ha
  have DA := Hd.mk da
  have HQ := Hd.mk hQ
  have HM := Hd.mk (show Dg.nl la / 2 ^ n < 18446744073709551616 by rw [hQ]; exact hM)
  clear da hM hQ
  go_enter Try.func53, Try.ntmps53
  go_wp2
  go_loop [5, 6] (fun o i => ∃ (ii : Int) (t oo : Nat), (n : Int) - 1 ≤ ii ∧ ii ≤ n + 63 ∧ Hd ((t : Int) = ii + 1 ∧ oo = Dg.nl la / 2 ^ t) ∧ i = .int .i64 ii ∧ o = .int .u64 (oo : Int)) (fun _ i => (intOf i + 1).toNat)
  case atStart => exact ⟨_, n + 64, 0, by omega, by omega, ⟨by omega, cut_start HM.out⟩, rfl, rfl⟩
  case round =>
    obtain ⟨ii, t, oo, i1, i2, HT, rfl, rfl⟩ := hrel
    rcases (by omega : ii = (n : Int) - 1 ∨ (n : Int) ≤ ii) with ci | ci
    · subst ci
      have R : Hd (oo = Q) := ⟨by have := HT.out; rw [this.2, show t = n by omega, HQ.out]⟩
      go_wp2
      go_ret
      exact ⟨ret_int' (by rw [R.out]), rfl⟩
    · obtain ⟨p, rfl⟩ := Int.eq_ofNat_of_zero_le (show 0 ≤ ii by omega)
      obtain ⟨x, hx⟩ : ∃ x, Dg.di la ((p : Int) / 32) = x := ⟨_, rfl⟩
      have bx : x < 4294967296 := by rw [← hx]; exact DA.out.ok.di _
      have et : t = p + 1 := by have := HT.out.1; omega
      have eo : oo = Dg.nl la / 2 ^ (p + 1) := by rw [← et]; exact HT.out.2
      have bo : oo < 9223372036854775808 := by rw [eo]; exact cut_low HM.out (by omega)
      have HX := Hd.mk hx
      have HB := bit_at DA.out.ok hx
      have ea := bit_and (r := p % 32) bx
      have st := cut_step (Dg.nl la) p
      rw [← eo] at st
      rw [HB] at ea
      have b1 : Dg.nl la / 2 ^ p % 2 ≤ 1 := by have := Nat.mod_lt (Dg.nl la / 2 ^ p) (show 2 > 0 by omega); omega
      obtain ⟨b, hb⟩ : ∃ b, b = Dg.nl la / 2 ^ p % 2 := ⟨_, rfl⟩
      rw [← hb] at ea st b1
      have er := or_bit bo b1
      rw [st] at er
      obtain ⟨s, hs⟩ : ∃ s, s = Dg.nl la / 2 ^ p := ⟨_, rfl⟩
      rw [← hs] at er
      have HS := Hd.mk hs
      clear hx HB eo st hb hs et HT
      go_wp2_with fail
      refine (digit_x ((p : Int) / 32) x _ DA.out HX.out (by omega) (by omega)).mono ?_
      rintro e w' ⟨rfl, rfl⟩
      go_wp2
      go_round
      case rel => exact ⟨_, p, s, by omega, by omega, ⟨by omega, HS.out⟩, rfl, rfl⟩
      case measure => simp [intOf]
end Go.Proofs.Ytjfoiicooleeiaa
