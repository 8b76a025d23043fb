/- Numbers of 32 bits as numbers of 64 bits and back: each is one, with the same order, sign and kind; conditions: as told in each line. -/
import Derived.Test.YtjfoiicooleeiaaFOd
import Derived.Test.YtjfoiicooleeiaaFOs
import Derived.Test.YtjfoiicooleeiaaDP
namespace Go.Proofs.Ytjfoiicooleeiaa
open Ieee

/-- exponents, kept from being reckoned -/
def n925 : Nat := 925
theorem n925_eq : n925 = 925 := rfl

namespace Fd
theorem mg_dbls' (e q : Nat) (h : q ≤ 9007199254740992) : mg (dbls e q) = q * 2 ^ e := by
  have := mg_at (e := 0) (q := q) (by omega)
  rw [Nat.zero_mul, Nat.zero_add, Nat.pow_zero, Nat.mul_one] at this
  rw [mg_dbls, this]
theorem mg_inf {e : Nat} (h : e = 2046) : mg 9218868437227405312 = 2 ^ (e + 52) := by
  rw [← mg_pow e, h]
end Fd
theorem Fs.mg_inf {e : Nat} (h : e = 254) : Fs.mg 2139095040 = 2 ^ (e + 23) := by
  rw [← Fs.mg_pow e, h]

/-- the rung of 64 bits of a rung of 32 bits -/
def emb (r : Nat) : Nat := if r < 2139095040 then Fd.dbls (Fs.fp r + n925) (Fs.fm r) else 9218868437227405312
def wide (x : Nat) : Nat := Fd.wd (Fs.sg x) (emb (Fs.rg x))

theorem mg_emb {r : Nat} (h : r < 2139095040) : Fd.mg (emb r) = Fs.mg r * 2 ^ n925 := by
  unfold emb
  have := Fs.fm_lt r
  rw [if_pos h, Fd.mg_dbls' _ _ (by omega), Fs.mg_fm, Nat.pow_add]; grind
theorem emb_lt {r : Nat} (h : r < 2139095040) : emb r < 9218868437227405312 := by
  apply Fd.mg_lt_iff.1
  obtain ⟨a, ha⟩ : ∃ a : Nat, a = 2046 := ⟨_, rfl⟩
  obtain ⟨b, hb⟩ : ∃ b : Nat, b = 254 := ⟨_, rfl⟩
  rw [mg_emb h, Fd.mg_inf ha]
  have h1 : Fs.mg r < 2 ^ (b + 23) := by rw [← Fs.mg_inf hb]; exact Fs.mg_lt h
  have h2 : Fs.mg r * 2 ^ n925 < 2 ^ (b + 23) * 2 ^ n925 := Nat.mul_lt_mul_of_pos_right h1 (Nat.two_pow_pos _)
  rw [Fd.pow_sum] at h2
  have := n925_eq
  exact Nat.lt_of_lt_of_le h2 (Nat.pow_le_pow_right (by omega) (by omega))
theorem emb_inf : emb 2139095040 = 9218868437227405312 := by unfold emb; rw [if_neg (by omega)]
theorem emb_zero : emb 0 = 0 := by
  apply Fd.mg_inj.1
  rw [mg_emb (by omega), Fs.mg_zero, Fd.mg_zero, Nat.zero_mul]
theorem emb_mono {a b : Nat} (hb : b ≤ 2139095040) (h : a < b) : emb a < emb b := by
  rcases Nat.lt_or_ge b 2139095040 with c | c
  · apply Fd.mg_lt_iff.1
    rw [mg_emb c, mg_emb (by omega)]
    exact Nat.mul_lt_mul_of_pos_right (Fs.mg_lt h) (Nat.two_pow_pos _)
  · have : b = 2139095040 := by omega
    subst this
    rw [emb_inf]; exact emb_lt (by omega)
theorem emb_le (r : Nat) : emb r ≤ 9218868437227405312 := by
  rcases Nat.lt_or_ge r 2139095040 with c | c
  · exact Nat.le_of_lt (emb_lt c)
  · unfold emb; rw [if_neg (by omega)]; exact Nat.le_refl _
theorem emb_lt_iff {a b : Nat} (ha : a ≤ 2139095040) (hb : b ≤ 2139095040) : emb a < emb b ↔ a < b := by
  constructor
  · intro h; rcases Nat.lt_or_ge a b with c | c
    · exact c
    · rcases Nat.lt_or_ge b a with d | d
      · have := emb_mono ha d; omega
      · have : a = b := by omega
        subst this; omega
  · exact emb_mono hb
theorem emb_inj {a b : Nat} (ha : a ≤ 2139095040) (hb : b ≤ 2139095040) : emb a = emb b ↔ a = b := by
  constructor
  · intro h
    rcases Nat.lt_trichotomy a b with c | c | c
    · have := emb_mono hb c; omega
    · exact c
    · have := emb_mono ha c; omega
  · rintro rfl; rfl

theorem wide_lt (x : Nat) : wide x < 18446744073709551616 := Fd.wd_lt (by have := emb_le (Fs.rg x); omega)
theorem nan_wide (x : Nat) : Fd.nan (wide x) = false := Fd.nan_wd (emb_le _)
theorem sg_wide (x : Nat) : Fd.sg (wide x) = Fs.sg x := Fd.sg_wd (by have := emb_le (Fs.rg x); omega)
theorem rg_wide (x : Nat) : Fd.rg (wide x) = emb (Fs.rg x) := Fd.rg_wd (by have := emb_le (Fs.rg x); omega)
theorem key_wide (x : Nat) : Fd.key (wide x) = Fd.sm (Fs.sg x) (emb (Fs.rg x)) := Fd.key_wd (by have := emb_le (Fs.rg x); omega)
theorem num_s {x : Nat} (h : Fs.nan x = false) : Fs.rg x ≤ 2139095040 := by unfold Fs.nan at h; simpa using h

/-- the order of 32 bits is that of 64 bits -/
theorem wide_key_lt {x y : Nat} (hx : Fs.nan x = false) (hy : Fs.nan y = false) : Fd.key (wide x) < Fd.key (wide y) ↔ Fs.key x < Fs.key y := by
  have a := num_s hx
  have b := num_s hy
  have l1 := emb_lt_iff a b
  have l2 := emb_lt_iff b a
  have z := emb_zero
  have z1 := emb_inj a (Nat.zero_le _)
  have z2 := emb_inj b (Nat.zero_le _)
  rw [z] at z1 z2
  rw [key_wide, key_wide]
  unfold Fd.sm Fs.key
  generalize emb (Fs.rg x) = p at *
  generalize emb (Fs.rg y) = q at *
  cases Fs.sg x <;> cases Fs.sg y <;> simp only [Bool.false_eq_true, if_false, if_true] <;> omega
theorem wide_key_eq {x y : Nat} (hx : Fs.nan x = false) (hy : Fs.nan y = false) : Fd.key (wide x) = Fd.key (wide y) ↔ Fs.key x = Fs.key y := by
  have := wide_key_lt hx hy
  have := wide_key_lt hy hx
  omega
theorem wide_inj {x y : Nat} (hx : Fs.nan x = false) (hy : Fs.nan y = false) (wx : x < 4294967296) (wy : y < 4294967296) : wide x = wide y ↔ x = y := by
  constructor
  · intro h
    have h1 := congrArg Fd.sg h
    have h2 := congrArg Fd.rg h
    rw [sg_wide, sg_wide] at h1
    rw [rg_wide, rg_wide] at h2
    exact Fs.word_ext wx wy h1 ((emb_inj (num_s hx) (num_s hy)).1 h2)
  · rintro rfl; rfl

/-- 'float64(x)' of a number of 32 bits -/
theorem write_wide {x : Nat} (h : Fs.rg x < 2139095040) : double.write (single.read x) = wide x := by
  rw [Fs.read_fin h]
  have hk : (0 : Int) ≤ -149 + (Fs.fp (Fs.rg x) : Int) + 1074 + ((0 : Nat) : Int) := by omega
  have e := Fd.nearest_exact (Fs.sg x) (Fs.fm (Fs.rg x)) (-149 + (Fs.fp (Fs.rg x) : Int)) 0 (emb (Fs.rg x)) hk (by
    have t : (-149 + (Fs.fp (Fs.rg x) : Int) + 1074 + ((0 : Nat) : Int)).toNat = Fs.fp (Fs.rg x) + n925 := by have := n925_eq; omega
    rw [t, mg_emb h, Fs.mg_fm, Nat.pow_add, Nat.pow_zero, Nat.mul_one]; grind)
  rw [Nat.min_eq_left (emb_le _)] at e
  exact e
/-- 'float32(y)' of such a number -/
theorem write_narrow {x : Nat} (wx : x < 4294967296) (h : Fs.rg x < 2139095040) : single.write (double.read (wide x)) = x := by
  have hl := emb_lt h
  rw [Fd.read_fin (by rw [rg_wide]; exact hl), sg_wide, rg_wide]
  have hk : (0 : Int) ≤ -1074 + (Fd.fp (emb (Fs.rg x)) : Int) + 149 + ((n925 : Nat) : Int) := by have := n925_eq; omega
  have e := Fs.nearest_exact (Fs.sg x) (Fd.fm (emb (Fs.rg x))) (-1074 + (Fd.fp (emb (Fs.rg x)) : Int)) n925 (Fs.rg x) hk (by
    have t : (-1074 + (Fd.fp (emb (Fs.rg x)) : Int) + 149 + ((n925 : Nat) : Int)).toNat = Fd.fp (emb (Fs.rg x)) := by have := n925_eq; omega
    rw [t, ← Fd.mg_fm, mg_emb h])
  rw [Nat.min_eq_left (by omega), Fs.wd_of wx] at e
  exact e

end Go.Proofs.Ytjfoiicooleeiaa
