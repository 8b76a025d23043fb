/- Natural numbers on slices: what a slice holds, and the contracts of the reference's digit and trim; conditions: as told in each line. -/
import Derived.Test.YtjfoiicooleeiaaW
import Derived.Test.YtjfoiicooleeiaaB
import Derived.Test.YtjfoiicooleeiaaVT
import Derived.Below
import Derived.Laws.OwnMore
import Derived.Deep.AppendLies
import Derived.Deep.Draws
namespace Go.Proofs.Ytjfoiicooleeiaa
open Go.RowKit

theorem block_of_add (a : Addr) (n : Nat) : (a.add n).block = a.block := by unfold Addr.add; split <;> rfl

/-- the slice's cells are these -/
def Reads (w : World) (B : Nat) (A : Option Addr) (n : Nat) (xs : List Value) : Prop :=
  xs.length = n ∧ (0 < n → ∃ ad, A = some ad ∧ ad.block < B ∧ ∀ j u, xs[j]? = some u → w.cell? (ad.add j) = some u)
section
variable {w w' : World} {B B' n : Nat} {A : Option Addr} {xs : List Value}
theorem Reads.at_ {k : Nat} (h : Reads w B A n xs) (hk : k < n) : ∃ ad u, A = some ad ∧ ad.block < B ∧ xs[k]? = some u ∧ w.cell? (ad.add k) = some u := by
  obtain ⟨ad, e, hb, hc⟩ := h.2 (by omega)
  have hl : k < xs.length := by have := h.1; omega
  exact ⟨ad, xs[k], e, hb, List.getElem?_eq_getElem hl, hc k _ (List.getElem?_eq_getElem hl)⟩
theorem Reads.keep (h : Reads w B A n xs) (hk : ∀ p : Addr, p.block < B → w'.cell? p = w.cell? p) : Reads w' B A n xs :=
  ⟨h.1, fun hn => by
    obtain ⟨ad, e, hb, hc⟩ := h.2 hn
    exact ⟨ad, e, hb, fun j u hu => (hk _ (by rw [block_of_add]; exact hb)).trans (hc j u hu)⟩⟩
theorem Reads.more (h : Reads w B A n xs) (hB : B ≤ B') : Reads w B' A n xs :=
  ⟨h.1, fun hn => by
    obtain ⟨ad, e, hb, hc⟩ := h.2 hn
    exact ⟨ad, e, by omega, hc⟩⟩
theorem Reads.below (h : Reads w B A n xs) (hb : Below B w w') : Reads w' B A n xs := h.keep fun _ hp => hb.cell hp
theorem Reads.take (h : Reads w B A n xs) {k : Nat} (hk : k ≤ n) : Reads w B A k (xs.take k) := by
  refine ⟨by rw [List.length_take, h.1, Nat.min_eq_left hk], fun hn => ?_⟩
  obtain ⟨ad, e, hb, hc⟩ := h.2 (by omega)
  refine ⟨ad, e, hb, fun j u hu => hc j u ?_⟩
  rw [List.getElem?_take] at hu
  split at hu
  · exact hu
  · cases hu
theorem Reads.of_own {base : Nat} {e : TypeId} {c : Nat} (h : w.ownsRow base e 1 (.slice A n c) n xs) : Reads w w.heap.size A n xs := by
  refine ⟨by have := h.1; omega, fun hn => ?_⟩
  obtain ⟨g, cap, hv, _, hlt⟩ := h.form hn
  have hA : A = some ⟨g, 0, none⟩ := by injection hv
  subst hA
  exact ⟨_, rfl, hlt, h.cells (g := g) rfl⟩
end

/-- a digit as a value -/
def dv (d : Nat) : Value := .int .u32 (d : Int)
/-- the slice A, n long, holds the digits l -/
structure Digs (w : World) (A : Option Addr) (n c : Nat) (l : List Nat) : Prop where
  len : l.length = n
  cap : n ≤ c
  ok : Dg.Ok l
  reads : Reads w w.heap.size A n (l.map dv)
theorem Digs.below {w w' : World} {A : Option Addr} {n c : Nat} {l : List Nat} (h : Digs w A n c l) (hb : Below w.heap.size w w') : Digs w' A n c l :=
  ⟨h.len, h.cap, h.ok, (h.reads.below hb).more hb.size⟩
theorem Digs.take {w : World} {A : Option Addr} {n c : Nat} {l : List Nat} (h : Digs w A n c l) {k : Nat} (hk : k ≤ n) : Digs w A k c (l.take k) :=
  ⟨by rw [List.length_take, h.len, Nat.min_eq_left hk], Nat.le_trans hk h.cap, h.ok.take k, by rw [List.map_take]; exact h.reads.take hk⟩
theorem Digs.at_ {w : World} {A : Option Addr} {n c : Nat} {l : List Nat} (h : Digs w A n c l) {k : Nat} (hk : k < n) :
    ∃ ad, A = some ad ∧ w.cell? (ad.add k) = some (.int .u32 (Dg.dg l k : Int)) ∧ Dg.dg l k < 4294967296 := by
  obtain ⟨ad, u, e, _, hx, hc⟩ := h.reads.at_ hk
  have hl := h.len
  rw [List.getElem?_map, Dg.dg_in (by omega)] at hx
  have : dv (Dg.dg l k) = u := by simpa using hx
  subst this
  exact ⟨ad, e, hc, h.ok.dg k⟩
/-- the value is a slice that holds the natural number N, with at most k digits -/
def NS (w : World) (v : Value) (N k : Nat) : Prop := ∃ A n c l, v = .slice A n c ∧ n ≤ k ∧ Digs w A n c l ∧ Dg.nl l = N
theorem NS.below {w w' : World} {v : Value} {N k : Nat} (h : NS w v N k) (hb : Below w.heap.size w w') : NS w' v N k := by
  obtain ⟨A, n, c, l, e, hk, d, hN⟩ := h
  exact ⟨A, n, c, l, e, hk, d.below hb, hN⟩
theorem NS.more {w : World} {v : Value} {N k k' : Nat} (h : NS w v N k) (hk : k ≤ k') : NS w v N k' := by
  obtain ⟨A, n, c, l, e, hn, d, hN⟩ := h
  exact ⟨A, n, c, l, e, by omega, d, hN⟩
/-- a call gives a natural number; what was there before is as it was -/
def RNS (N k : Nat) (w : World) (e : Ending) (w' : World) : Prop := ∃ v, NS w' v N k ∧ e = .returned v ∧ Below w.heap.size w w'
/-- a call that only computes -/
def RQ (v : Value) (w : World) (e : Ending) (w' : World) : Prop := e = .returned v ∧ w = w'

theorem ret_int' {k : IntKind} {a b : Int} (h : a = b) : Ending.returned (.int k a) = .returned (.int k b) := by rw [h]
set_option maxHeartbeats 400000 in
theorem digit_c {A : Option Addr} {n c : Nat} {l : List Nat} (i : Int) (w : World) (h : Digs w A n c l) (hn : n ≤ 1000000) (hi : -1000000 ≤ i ∧ i ≤ 1000000) :
    Calls Try.prog 49 #[.slice A n c, .int .i64 i] w (RQ (.int .u64 (Dg.di l i : Int)) w) := by
  have hl := h.len
  rcases (by omega : i < 0 ∨ (0 ≤ i ∧ (n : Int) ≤ i) ∨ (0 ≤ i ∧ i < n)) with c1 | ⟨c1, c2⟩ | ⟨c1, c2⟩
  · have R : Hd (Dg.di l i = 0) := ⟨Dg.di_neg c1⟩
    clear h hl
    go_enter Try.func49, Try.ntmps49
    go_wp2
    go_ret
    exact ⟨ret_int' (by rw [R.out]; rfl), rfl⟩
  · have R : Hd (Dg.di l i = 0) := ⟨by unfold Dg.di; rw [if_neg (by omega), Dg.dg_out (by omega)]⟩
    clear h hl
    go_enter Try.func49, Try.ntmps49
    go_wp2
    go_ret
    exact ⟨ret_int' (by rw [R.out]; rfl), rfl⟩
  · obtain ⟨k, rfl⟩ := Int.eq_ofNat_of_zero_le c1
    obtain ⟨ad, rfl, hc, hd⟩ := h.at_ (k := k) (by omega)
    have R : Hd (Dg.di l (k : Int) = Dg.dg l k) := ⟨Dg.di_nat l k⟩
    obtain ⟨x, hx⟩ : ∃ x, x = Dg.dg l k := ⟨_, rfl⟩
    rw [← hx] at hc hd R
    clear h hl hx
    go_enter Try.func49, Try.ntmps49
    go_wp2
    go_ret
    exact ⟨ret_int' (by rw [R.out]), rfl⟩
def RT (A : Option Addr) (n c : Nat) (l : List Nat) (w : World) (e : Ending) (w' : World) : Prop := ∃ m, m ≤ n ∧ e = .returned (.slice A m c) ∧ w = w' ∧ Dg.nl (l.take m) = Dg.nl l
set_option maxHeartbeats 400000 in
theorem trim_c {A : Option Addr} {n c : Nat} {l : List Nat} (w : World) (h : Digs w A n c l) (hn : n ≤ 1000000) :
    Calls Try.prog 50 #[.slice A n c] w (RT A n c l w) := by
  have H := Hd.mk h
  have hcap := h.cap
  clear h
  go_enter Try.func50, Try.ntmps50
  go_wp2
  go_loop [3] (fun i => ∃ k : Nat, k ≤ n ∧ Hd (Dg.vt (Dg.dg l) k = Dg.nl l) ∧ i = .int .i64 (k : Int)) (fun i => (intOf i).toNat)
  case atStart => exact ⟨n, Nat.le_refl _, ⟨by rw [← H.out.len]; rfl⟩, rfl⟩
  case round =>
    obtain ⟨k, hk, HK, rfl⟩ := hrel
    have R : Hd (Dg.nl (l.take k) = Dg.nl l) := ⟨by rw [Dg.nl_take (by have := H.out.len; omega)]; exact HK.out⟩
    rcases Nat.eq_zero_or_pos k with z | z
    · subst z
      go_wp2
      go_ret
      exact ⟨0, by omega, rfl, rfl, R.out⟩
    · obtain ⟨j, rfl⟩ : ∃ j, k = j + 1 := ⟨k - 1, by omega⟩
      obtain ⟨ad, rfl, hc, hd⟩ := H.out.at_ (k := j) (by omega)
      obtain ⟨x, hx⟩ : ∃ x, x = Dg.dg l j := ⟨_, rfl⟩
      rw [← hx] at hc hd
      have HX := Hd.mk hx
      clear hx
      by_cases x0 : x = 0
      · subst x0
        go_wp2
        go_round
        case rel =>
          refine ⟨j, by omega, ⟨?_⟩, by go_num⟩
          have := HK.out
          rw [Dg.vt, ← HX.out] at this; omega
        case measure => simp [intOf]
      · have x1 : ((x : Int) == 0) = false := by simp; exact x0
        go_wp2
        go_ret
        exact ⟨j + 1, by omega, rfl, rfl, R.out⟩
end Go.Proofs.Ytjfoiicooleeiaa
