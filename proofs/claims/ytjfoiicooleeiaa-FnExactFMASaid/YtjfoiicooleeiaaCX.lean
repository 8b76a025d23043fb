/- Natural numbers on slices: what a slice holds, and the contracts of the reference's digit and trim; conditions: as told in each line. -/
import Derived.Test.YtjfoiicooleeiaaW
import Derived.Test.YtjfoiicooleeiaaB
import Derived.Test.YtjfoiicooleeiaaVT
import Derived.Below
import Derived.Laws.OwnMore
import Derived.Deep.Draws
namespace Go.Proofs.Ytjfoiicooleeiaa
open Go.RowKit

/-- a digit as a value -/
def dv (d : Nat) : Value := .int .u32 (d : Int)
/-- the slice A, n long, holds the digits l: each lies in a cell that was there -/
structure Digs (w : World) (A : Option Addr) (n c : Nat) (l : List Nat) : Prop where
  len : l.length = n
  cap : n ≤ c
  ok : Dg.Ok l
  cells : ∀ j, j < n → ∃ ad : Addr, A = some ad ∧ (ad.add j).block < w.heap.size ∧ w.cell? (ad.add j) = some (.int .u32 (Dg.dg l j : Int))
theorem Digs.below {w w' : World} {A : Option Addr} {n c : Nat} {l : List Nat} (h : Digs w A n c l) (hb : Below w.heap.size w w') : Digs w' A n c l := by
  refine ⟨h.len, h.cap, h.ok, fun j hj => ?_⟩
  obtain ⟨ad, e, lt, hc⟩ := h.cells j hj
  exact ⟨ad, e, Nat.lt_of_lt_of_le lt hb.size, (hb.cell lt).trans hc⟩
theorem Digs.take {w : World} {A : Option Addr} {n c : Nat} {l : List Nat} (h : Digs w A n c l) {k : Nat} (hk : k ≤ n) : Digs w A k c (l.take k) := by
  refine ⟨by rw [List.length_take, h.len, Nat.min_eq_left hk], Nat.le_trans hk h.cap, h.ok.take k, fun j hj => ?_⟩
  rw [Dg.dg_take hj]
  exact h.cells j (by omega)
theorem Digs.at_ {w : World} {A : Option Addr} {n c : Nat} {l : List Nat} (h : Digs w A n c l) {k : Nat} (hk : k < n) :
    ∃ ad, A = some ad ∧ w.cell? (ad.add k) = some (.int .u32 (Dg.dg l k : Int)) ∧ Dg.dg l k < 4294967296 := by
  obtain ⟨ad, e, _, hc⟩ := h.cells k hk
  exact ⟨ad, e, hc, h.ok.dg k⟩
/-- the value is a slice that holds the natural number N, with at most k digits -/
def NS (w : World) (v : Value) (N k : Nat) : Prop := ∃ A n c l, v = .slice A n c ∧ n ≤ k ∧ Digs w A n c l ∧ Dg.nl l = N
theorem NS.below {w w' : World} {v : Value} {N k : Nat} (h : NS w v N k) (hb : Below w.heap.size w w') : NS w' v N k := by
  obtain ⟨A, n, c, l, e, hk, d, hN⟩ := h
  exact ⟨A, n, c, l, e, hk, d.below hb, hN⟩
theorem NS.more {w : World} {v : Value} {N k k' : Nat} (h : NS w v N k) (hk : k ≤ k') : NS w v N k' := by
  obtain ⟨A, n, c, l, e, hn, d, hN⟩ := h
  exact ⟨A, n, c, l, e, by omega, d, hN⟩
/-- a call gives a natural number; what was there before is as it was -/
def RNS (N k : Nat) (w : World) (e : Ending) (w' : World) : Prop := ∃ v, NS w' v N k ∧ e = .returned v ∧ Below w.heap.size w w'
/-- a call that only computes -/
def RQ (v : Value) (w : World) (e : Ending) (w' : World) : Prop := e = .returned v ∧ w = w'

theorem ret_int' {k : IntKind} {a b : Int} (h : a = b) : Ending.returned (.int k a) = .returned (.int k b) := by rw [h]
set_option maxHeartbeats 400000 in
theorem digit_c {A : Option Addr} {n c : Nat} {l : List Nat} (i : Int) (w : World) (h : Digs w A n c l) (hn : n ≤ 1000000) (hi : -1000000 ≤ i ∧ i ≤ 1000000) :
    Calls Try.prog 49 #[.slice A n c, .int .i64 i] w (RQ (.int .u64 (Dg.di l i : Int)) w) := by
  have hl := h.len
  rcases (by omega : i < 0 ∨ (0 ≤ i ∧ (n : Int) ≤ i) ∨ (0 ≤ i ∧ i < n)) with c1 | ⟨c1, c2⟩ | ⟨c1, c2⟩
  · have R : Hd (Dg.di l i = 0) := ⟨Dg.di_neg c1⟩
    clear h hl
    go_enter Try.func49, Try.ntmps49
    go_wp2
    go_ret
    exact ⟨ret_int' (by rw [R.out]; rfl), rfl⟩
  · have R : Hd (Dg.di l i = 0) := ⟨by unfold Dg.di; rw [if_neg (by omega), Dg.dg_out (by omega)]⟩
    clear h hl
    go_enter Try.func49, Try.ntmps49
    go_wp2
    go_ret
    exact ⟨ret_int' (by rw [R.out]; rfl), rfl⟩
  · obtain ⟨k, rfl⟩ := Int.eq_ofNat_of_zero_le c1
    obtain ⟨ad, rfl, hc, hd⟩ := h.at_ (k := k) (by omega)
    have R : Hd (Dg.di l (k : Int) = Dg.dg l k) := ⟨Dg.di_nat l k⟩
    obtain ⟨x, hx⟩ : ∃ x, x = Dg.dg l k := ⟨_, rfl⟩
    rw [← hx] at hc hd R
    clear h hl hx
    go_enter Try.func49, Try.ntmps49
    go_wp2
    go_ret
    exact ⟨ret_int' (by rw [R.out]), rfl⟩
def RT (A : Option Addr) (n c : Nat) (l : List Nat) (w : World) (e : Ending) (w' : World) : Prop := ∃ m, m ≤ n ∧ e = .returned (.slice A m c) ∧ w = w' ∧ Dg.nl (l.take m) = Dg.nl l
set_option maxHeartbeats 400000 in
theorem trim_c {A : Option Addr} {n c : Nat} {l : List Nat} (w : World) (h : Digs w A n c l) (hn : n ≤ 1000000) :
    Calls Try.prog 50 #[.slice A n c] w (RT A n c l w) := by
  have H := Hd.mk h
  have hcap := h.cap
  clear h
  go_enter Try.func50, Try.ntmps50
  go_wp2
  go_loop [3] (fun i => ∃ k : Nat, k ≤ n ∧ Hd (Dg.vt (Dg.dg l) k = Dg.nl l) ∧ i = .int .i64 (k : Int)) (fun i => (intOf i).toNat)
  case atStart => exact ⟨n, Nat.le_refl _, ⟨by rw [← H.out.len]; rfl⟩, rfl⟩
  case round =>
    obtain ⟨k, hk, HK, rfl⟩ := hrel
    have R : Hd (Dg.nl (l.take k) = Dg.nl l) := ⟨by rw [Dg.nl_take (by have := H.out.len; omega)]; exact HK.out⟩
    rcases Nat.eq_zero_or_pos k with z | z
    · subst z
      go_wp2
      go_ret
      exact ⟨0, by omega, rfl, rfl, R.out⟩
    · obtain ⟨j, rfl⟩ : ∃ j, k = j + 1 := ⟨k - 1, by omega⟩
      obtain ⟨ad, rfl, hc, hd⟩ := H.out.at_ (k := j) (by omega)
      obtain ⟨x, hx⟩ : ∃ x, x = Dg.dg l j := ⟨_, rfl⟩
      rw [← hx] at hc hd
      have HX := Hd.mk hx
      clear hx
      by_cases x0 : x = 0
      · subst x0
        go_wp2
        go_round
        case rel =>
          refine ⟨j, by omega, ⟨?_⟩, by go_num⟩
          have := HK.out
          rw [Dg.vt, ← HX.out] at this; omega
        case measure => simp [intOf]
      · have x1 : ((x : Int) == 0) = false := by simp; exact x0
        go_wp2
        go_ret
        exact ⟨j + 1, by omega, rfl, rfl, R.out⟩
end Go.Proofs.Ytjfoiicooleeiaa
