/- Conversions between numbers of 32 and of 64 bits, as the walk meets them, and contracts of functions of numbers of 32 bits; no condition but that the arguments are words. -/
import Derived.Test.YtjfoiicooleeiaaC2
import Derived.Test.YtjfoiicooleeiaaDX
namespace Go.Proofs.Ytjfoiicooleeiaa
open Go.RowKit

def wideR (b : Nat) (w : World) : Nat := if Fs.nan b then (Question.nanConv .f64 b).cut (w.tape w.drawn (.nanConv .f64 b)) else wide b
def wideN (b : Nat) : Nat := if Fs.nan b then 1 else 0

theorem nc64 (b : Nat) (w : World) : Fd.nan ((Question.nanConv .f64 b).cut (w.tape w.drawn (.nanConv .f64 b))) = true ∧ (Question.nanConv .f64 b).cut (w.tape w.drawn (.nanConv .f64 b)) < 18446744073709551616 := by
  unfold Question.cut Fd.nan Fd.rg
  simp only [decide_eq_true_eq]
  generalize w.tape _ _ = t
  have h1 : t % 2 < 2 := Nat.mod_lt _ (by decide)
  have h2 : t / 2 % (2 ^ 52 - 1) < 2 ^ 52 - 1 := Nat.mod_lt _ (by decide)
  generalize t % 2 = a at *
  generalize t / 2 % (2 ^ 52 - 1) = b at *
  omega
theorem nc32 (b : Nat) (w : World) : Fs.nan ((Question.nanConv .f32 b).cut (w.tape w.drawn (.nanConv .f32 b))) = true ∧ (Question.nanConv .f32 b).cut (w.tape w.drawn (.nanConv .f32 b)) < 4294967296 := by
  unfold Question.cut Fs.nan Fs.rg
  simp only [decide_eq_true_eq]
  generalize w.tape _ _ = t
  have h1 : t % 2 < 2 := Nat.mod_lt _ (by decide)
  have h2 : t / 2 % (2 ^ 23 - 1) < 2 ^ 23 - 1 := Nat.mod_lt _ (by decide)
  generalize t % 2 = a at *
  generalize t / 2 % (2 ^ 23 - 1) = b at *
  omega

theorem nan_wideR (b : Nat) (w : World) : Fd.nan (wideR b w) = Fs.nan b := by
  unfold wideR; cases h : Fs.nan b
  · exact nan_wide b
  · exact (nc64 b w).1
theorem W_wideR (b : Nat) (w : World) : W64 (wideR b w) := by
  unfold wideR; split
  · exact (nc64 b w).2
  · exact wide_lt b
theorem wideR_num {b : Nat} (h : Fs.nan b = false) (w : World) : wideR b w = wide b := by unfold wideR; rw [h]; rfl

theorem f2f_wide {P : Program} (b : Nat) (w : World) : (Conv.floatToFloat .f32 b .f64).run P w = .ok (.float .f64 (wideR b w)) (w.drewN (wideN b)) := by
  unfold Conv.floatToFloat
  rw [if_neg (by decide)]
  have d : FloatKind.f32.decode b = Ieee.single.read b := rfl
  rw [d]
  unfold wideR wideN
  rcases Nat.lt_trichotomy (Fs.rg b) 2139095040 with h | h | h
  · have n : Fs.nan b = false := by unfold Fs.nan; simp; omega
    have e := write_wide h
    rw [n]
    rw [Fs.read_fin h] at e ⊢
    have e' : FloatKind.f64.encode (.number (Fs.sg b) (Fs.fm (Fs.rg b)) (-149 + (Fs.fp (Fs.rg b) : Int))) = wide b := e
    simp only [e']
    have i : (FloatKind.f64.decode (wide b)).isInfinity = false := by
      show (Ieee.double.read (wide b)).isInfinity = false
      rw [Fd.read_fin (by rw [rg_wide]; exact emb_lt h)]; rfl
    rw [i]; rfl
  · have n : Fs.nan b = false := by unfold Fs.nan; simp; omega
    rw [n, Fs.read_inf h]
    have e : FloatKind.f64.encode (.infinity (Fs.sg b)) = wide b := by
      unfold wide; rw [h, emb_inf]; rfl
    simp only [e]; rfl
  · have n : Fs.nan b = true := by unfold Fs.nan; simp; omega
    rw [n, Fs.read_nan h]; rfl
@[go_sem] theorem run_wide {P : Program} (src dst : TypeId) (b : Nat) (w : World) (hs : (P.underlying src).isSome = true) (hd : P.underlying dst = some (.float .f64)) :
    (convert src dst (.float .f32 b)).run P w = .ok (.float .f64 (wideR b w)) (w.drewN (wideN b)) := by
  obtain ⟨u, hs'⟩ := Option.isSome_iff_exists.1 hs
  have := @f2f_wide P b w
  cases u <;> simp [convert, run_underlying hs', run_underlying hd, this]

/-- 'float32(y)': the nearest number of 32 bits; of a not-a-number any one; of what is too great whatever the machine gives -/
def narO (b : Nat) : Option Nat :=
  match Ieee.double.read b with
  | .nan _ _ => none
  | .infinity s => some (Ieee.single.write (.infinity s))
  | .number s m e => if (Ieee.single.read (Ieee.single.write (.number s m e))).isInfinity then none else some (Ieee.single.write (.number s m e))
def narQ (b : Nat) : Question := if Fd.nan b then .nanConv .f32 b else .floatToFloat b
def narR (b : Nat) (w : World) : Nat :=
  match narO b with
  | some r => r
  | none => (narQ b).cut (w.tape w.drawn (narQ b))
def narN (b : Nat) : Nat := if (narO b).isSome then 0 else 1

theorem f2f_narrow {P : Program} (b : Nat) (w : World) : (Conv.floatToFloat .f64 b .f32).run P w = .ok (.float .f32 (narR b w)) (w.drewN (narN b)) := by
  unfold Conv.floatToFloat
  rw [if_neg (by decide)]
  have d : FloatKind.f64.decode b = Ieee.double.read b := rfl
  rw [d]
  unfold narR narN narO narQ
  rcases Nat.lt_trichotomy (Fd.rg b) 9218868437227405312 with h | h | h
  · have n : Fd.nan b = false := by unfold Fd.nan; simp; omega
    rw [n, Fd.read_fin h]
    have e : ∀ s m p, FloatKind.f32.encode (.number s m p) = Ieee.single.write (.number s m p) := fun _ _ _ => rfl
    have e2 : ∀ x, FloatKind.f32.decode x = Ieee.single.read x := fun _ => rfl
    simp only [e, e2]
    by_cases c : (Ieee.single.read (Ieee.single.write (.number (Fd.sg b) (Fd.fm (Fd.rg b)) (-1074 + (Fd.fp (Fd.rg b) : Int))))).isInfinity = true
    · simp only [c, if_true]; rfl
    · simp only [c]; rfl
  · rw [Fd.read_inf h]; rfl
  · have n : Fd.nan b = true := by unfold Fd.nan; simp; omega
    rw [n, Fd.read_nan h]; rfl
@[go_sem] theorem run_narrow {P : Program} (src dst : TypeId) (b : Nat) (w : World) (hs : (P.underlying src).isSome = true) (hd : P.underlying dst = some (.float .f32)) :
    (convert src dst (.float .f64 b)).run P w = .ok (.float .f32 (narR b w)) (w.drewN (narN b)) := by
  obtain ⟨u, hs'⟩ := Option.isSome_iff_exists.1 hs
  have := @f2f_narrow P b w
  cases u <;> simp [convert, run_underlying hs', run_underlying hd, this]

theorem narO_wide {x : Nat} (wx : W32 x) (h : Fs.nan x = false) : narO (wide x) = some x := by
  unfold narO
  rcases Nat.lt_or_ge (Fs.rg x) 2139095040 with c | c
  · have e := write_narrow wx c
    rw [Fd.read_fin (by rw [rg_wide]; exact emb_lt c)] at e ⊢
    simp only [e]
    rw [Fs.read_fin c]; rfl
  · have c' : Fs.rg x = 2139095040 := by have := num_s h; omega
    rw [Fd.read_inf (by rw [rg_wide, c', emb_inf]), sg_wide]
    simp only [Fs.write_inf]
    rw [← c', Fs.wd_of wx]
theorem narR_some {b r : Nat} (h : narO b = some r) (w : World) : narR b w = r := by unfold narR; rw [h]
theorem narR_nan {b : Nat} (h : Fd.nan b = true) (w : World) : Fs.nan (narR b w) = true := by
  have o : narO b = none := by
    unfold Fd.nan at h; simp at h
    unfold narO; rw [Fd.read_nan h]
  unfold narR; rw [o]; unfold narQ; rw [h]; exact (nc32 b w).1
theorem W_narR (b : Nat) (w : World) : W32 (narR b w) := by
  unfold narR W32
  cases h : narO b with
  | some r =>
    unfold narO at h
    split at h
    · cases h
    · injection h with h; rw [← h]; exact Ieee.Format.write_lt Ieee.single _
    · split at h
      · cases h
      · injection h with h; rw [← h]; exact Ieee.Format.write_lt Ieee.single _
  | none =>
    show (narQ b).cut _ < _
    unfold narQ
    split
    · exact (nc32 b w).2
    · unfold Question.cut; exact Nat.mod_lt _ (by decide)

theorem same_wide {a b : Nat} (ha : W32 a) (hb : W32 b) (w1 w2 : World) : Fd.sameV (wideR a w1) (wideR b w2) = Fs.sameV a b := by
  unfold Fd.sameV Fs.sameV
  rw [nan_wideR, nan_wideR]
  cases na : Fs.nan a
  · cases nb : Fs.nan b
    · rw [wideR_num na, wideR_num nb, Bool.eq_iff_iff]; simp [wide_inj na nb ha hb]
    · rfl
  · rfl

theorem nan_eq_s {a : Nat} : Fs.nan a = true → eqF .f32 a a = false := fun h => by rw [eq32, h]; rfl
theorem num_eq_s {a : Nat} : Fs.nan a = false → eqF .f32 a a = true := fun h => by rw [eq32, h]; simp
theorem W_ng32 {a : Nat} (h : W32 a) : W32 (Fs.ng a) := Fs.ng_lt h
theorem negF_W32 {a : Nat} (h : W32 a) : Op.negFloat .f32 a = Fs.ng a := negF32 a h
theorem and_u32 (a b : Nat) (ha : a < 4294967296) (hb : b < 4294967296) : bits .and .u32 (a : Int) (b : Int) = ((a &&& b : Nat) : Int) :=
  (bits_nat .u32 32 (by decide) (fun n h0 h1 => by simp [IntKind.wrap, IntKind.bits, IntKind.signed]; omega) a b ha hb).1

end Go.Proofs.Ytjfoiicooleeiaa
