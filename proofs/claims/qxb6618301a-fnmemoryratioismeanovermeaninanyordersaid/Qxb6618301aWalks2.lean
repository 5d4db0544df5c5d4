/-
  THE WALKS, SECOND PART: the functions that make a slice.
-/
import Derived.Test.Qxb6618301aWalks
namespace Go.Proofs.Qxb6618301a
open Go.RowKit
open Fl (FRes IsNaN Rep fl same TWO ONE INF MAXM)

/-- A float stored: the guide's set has no such row. -/
theorem run_store_float (P : Program) (w : World) (a : Addr) (m : Mode) (k : FloatKind) (b : Nat) : (store a (.float k b) m).run P w = stored P w a (.float k b) m := run_store P w a _ m rfl
attribute [local go_sem] run_store_float

theorem info27 : (Try.prog.info? 27).map (fun i => (i.zero, i.size, i.bytes)) = some (some (.float .f64 0), 1, 8) := by kernel_rfl
theorem info2 : (Try.prog.info? 2).map (fun i => (i.zero, i.size, i.bytes)) = some (some (.int .i64 0), 1, 8) := by kernel_rfl

/-- 'make([]float64, n)'. -/
theorem make27 (n : Nat) (hn : n ≤ 4096) (w : World) : (Instr.makeSlice 23 (.int .i64 (n : Int)) (.int .i64 (n : Int))).run Try.prog w = .ok (.slice (some ⟨w.heap.size, 0, none⟩) n n) (w.alloc (.cells (madeCells #[.float .f64 0] n) 27)) := by
  obtain ⟨i, hi, hz, hs, hb⟩ := info_parts info27
  have := run_make (P := Try.prog) w 23 27 i _ Try.underlying23 hi hz .i64 .i64 n n (by omega) (by omega) (by rw [hb]; omega) (by omega)
  rw [this, hs]
  simp [Value.cells]
/-- 'make([]int64, n)'. -/
theorem make2 (n : Nat) (hn : n ≤ 4096) (w : World) : (Instr.makeSlice 22 (.int .i64 (n : Int)) (.int .i64 (n : Int))).run Try.prog w = .ok (.slice (some ⟨w.heap.size, 0, none⟩) n n) (w.alloc (.cells (madeCells #[.int .i64 0] n) 2)) := by
  obtain ⟨i, hi, hz, hs, hb⟩ := info_parts info2
  have := run_make (P := Try.prog) w 22 2 i _ Try.underlying22 hi hz .i64 .i64 n n (by omega) (by omega) (by rw [hb]; omega) (by omega)
  rw [this, hs]
  simp [Value.cells]

/-- The cells of a new block: all are there; the first k hold what was stored. -/
def Cells (A : Array Value) (len k : Nat) (g : Nat → Value) : Prop := A.size = len ∧ ∀ j, j < k → A[j]? = some (g j)

theorem cells_made (v : Value) (n : Nat) (g : Nat → Value) : Cells (madeCells #[v] n) n 0 g := ⟨size_madeCells _ _, fun j h => absurd h (by omega)⟩
theorem cells_set {A : Array Value} {len k : Nat} {g : Nat → Value} {v : Value} (h : Cells A len k g) (hk : k < len) (hv : v = g k) : Cells (A.setIfInBounds k v) len (k + 1) g := by
  obtain ⟨h1, h2⟩ := h
  refine ⟨by simpa using h1, fun j hj => ?_⟩
  rw [Array.getElem?_setIfInBounds]
  by_cases e : k = j
  · subst e; rw [if_pos rfl, if_pos (by omega), hv]
  · rw [if_neg e]; exact h2 j (by omega)

/-- Twice each word. -/
def dbl (x : Nat) : Nat := (Ieee.double.mul TWO x).getD 0
theorem dbl_rep {x k : Nat} (h : Rep x k) (hk : k ≤ 1099511627776) : floatBits .mul .f64 4611686018427387904 x = some (dbl x) ∧ Rep (dbl x) (2 * k) := by
  obtain ⟨y, hy, hr⟩ := Fl.two_mul_rep x k h hk
  have : dbl x = y := by unfold dbl; rw [hy]; rfl
  rw [this]
  exact ⟨hy, hr⟩

theorem lt_of_cell {w : World} {b o : Nat} {v : Value} (h : w.cell? ⟨b, o, none⟩ = some v) : b < w.heap.size := by
  by_cases hb : b < w.heap.size
  · exact hb
  · simp [World.cell?, Array.getElem?_eq_none (Nat.le_of_not_lt hb)] at h

set_option maxHeartbeats 400000 in
theorem doubled_any (a : Option Addr) (len cap : Nat) (fs ks : List Nat) (w : World) (h : FRow w a len fs) (hl : len ≤ 4096) (hw : Whole fs ks) :
    Calls Try.prog 13 #[.slice a len cap] w fun e w' => e = .returned (.slice (some ⟨w.heap.size, 0, none⟩) len len) ∧ FRow w' (some ⟨w.heap.size, 0, none⟩) len (fs.map dbl) ∧ Below w.heap.size w w' := by
  obtain ⟨hlen, hc⟩ := h
  have hmk := make27 len hl
  go_enter Try.func13, Try.ntmps13
  go_wp2
  go_loopw [4] (fun i wr => ∃ (k : Nat) (A : Array Value), k ≤ len ∧ i = .int .i64 k ∧ Cells A len k (fun j => .float .f64 (dbl (fs.getD j 0))) ∧ wr = w.alloc (.cells A 27)) (fun i _ => len - (intOf i).toNat)
  case atStart => exact ⟨0, _, Nat.zero_le _, rfl, cells_made _ _ _, rfl⟩
  case round =>
    obtain ⟨k, A, hk, rfl, hA, rfl⟩ := hrel
    by_cases hlt : k < len
    · rcases hc with h0 | ⟨b, off, rfl, hc⟩
      · omega
      obtain ⟨x, hx⟩ : ∃ x, x = fs.getD k 0 := ⟨_, rfl⟩
      have hcx : w.cell? ⟨b, off + k, none⟩ = some (.float .f64 x) := by rw [hx]; exact hc k hlt
      have hb := lt_of_cell hcx
      have hsz := hA.1
      obtain ⟨hm, _⟩ := dbl_rep (hw.2 k (by omega)).2 (hw.2 k (by omega)).1
      rw [← hx] at hm
      have hmul := fun w => run_float_arith (P := Try.prog) w .mul 27 .f64 4611686018427387904 x (dbl x) hm
      have HX : Hid (x = fs.getD k 0) := hx
      have HA : Hid (Cells A len k (fun j => .float .f64 (dbl (fs.getD j 0)))) := hA
      obtain ⟨v0, hin⟩ : ∃ v, A[k]? = some v := ⟨A[k]'(by omega), Array.getElem?_eq_getElem (by omega)⟩
      clear hx hc hm hA hw
      go_wp2
      go_roundw
      case rel => exact ⟨k + 1, _, by omega, by go_num, cells_set HA.out hlt (by rw [HX.out]), rfl⟩
      case measure => simp [intOf]; omega
    · obtain rfl : k = len := by omega
      have HA : Hid (Cells A k k (fun j => .float .f64 (dbl (fs.getD j 0)))) := hA
      clear hA hw
      go_wp2
      go_ret
      refine ⟨rfl, ⟨by simp [hlen], .inr ⟨_, 0, rfl, fun i hi => ?_⟩⟩, (Below.refl _ _).alloc (Nat.le_refl _) _⟩
      rw [World.cell?_alloc_at _ _ _ _ rfl, Nat.zero_add, HA.out.2 i hi]
      simp [hlen, hi]

/-- A slice of int64s: each element is a number. -/
def IRow (w : World) (a : Option Addr) (len : Nat) : Prop :=
  len = 0 ∨ ∃ b off, a = some ⟨b, off, none⟩ ∧ ∀ i, i < len → ∃ n, w.cell? ⟨b, off + i, none⟩ = some (.int .i64 n)

def CellsI (A : Array Value) (len k : Nat) : Prop := A.size = len ∧ ∀ j, j < k → ∃ n, A[j]? = some (.int .i64 n)
theorem cellsI_made (v : Value) (n : Nat) : CellsI (madeCells #[v] n) n 0 := ⟨size_madeCells _ _, fun j h => absurd h (by omega)⟩
theorem cellsI_set {A : Array Value} {len k : Nat} (n : Int) (h : CellsI A len k) (hk : k < len) : CellsI (A.setIfInBounds k (.int .i64 n)) len (k + 1) := by
  obtain ⟨h1, h2⟩ := h
  refine ⟨by simpa using h1, fun j hj => ?_⟩
  rw [Array.getElem?_setIfInBounds]
  by_cases e : k = j
  · subst e; rw [if_pos rfl, if_pos (by omega)]; exact ⟨_, rfl⟩
  · rw [if_neg e]; exact h2 j (by omega)

set_option maxHeartbeats 400000 in
theorem revMems_any (a : Option Addr) (len cap : Nat) (fs : List Nat) (w : World) (h : FRow w a len fs) (hl : len ≤ 4096) :
    Calls Try.prog 9 #[.slice a len cap] w fun e w' => e = .returned (.slice (some ⟨w.heap.size, 0, none⟩) len len) ∧ FRow w' (some ⟨w.heap.size, 0, none⟩) len fs.reverse ∧ Below w.heap.size w w' := by
  obtain ⟨hlen, hc⟩ := h
  have hmk := make27 len hl
  go_enter Try.func9, Try.ntmps9
  go_wp2
  go_loopw [4] (fun i wr => ∃ (k : Nat) (A : Array Value), k ≤ len ∧ i = .int .i64 k ∧ Cells A len k (fun j => .float .f64 (fs.getD (len - 1 - j) 0)) ∧ wr = w.alloc (.cells A 27)) (fun i _ => len - (intOf i).toNat)
  case atStart => exact ⟨0, _, Nat.zero_le _, rfl, cells_made _ _ _, rfl⟩
  case round =>
    obtain ⟨k, A, hk, rfl, hA, rfl⟩ := hrel
    by_cases hlt : k < len
    · rcases hc with h0 | ⟨b, off, rfl, hc⟩
      · omega
      obtain ⟨m, hm⟩ : ∃ m : Nat, (len : Int) - 1 - k = m ∧ m = len - 1 - k := ⟨len - 1 - k, by omega, rfl⟩
      obtain ⟨x, hx⟩ : ∃ x, x = fs.getD m 0 := ⟨_, rfl⟩
      have hcx : w.cell? ⟨b, off + m, none⟩ = some (.float .f64 x) := by rw [hx]; exact hc m (by omega)
      have hb := lt_of_cell hcx
      have hsz := hA.1
      have HX : Hid (x = fs.getD (len - 1 - k) 0) := by rw [← hm.2]; exact hx
      have HA : Hid (Cells A len k (fun j => .float .f64 (fs.getD (len - 1 - j) 0))) := hA
      obtain ⟨v0, hin⟩ : ∃ v, A[k]? = some v := ⟨A[k]'(by omega), Array.getElem?_eq_getElem (by omega)⟩
      have hm1 := hm.1
      have hml : m < len := by omega
      clear hx hc hm hA
      go_wp2
      go_roundw
      case rel => exact ⟨k + 1, _, by omega, by go_num, cells_set HA.out hlt (by rw [HX.out]), rfl⟩
      case measure => simp [intOf]; omega
    · obtain rfl : k = len := by omega
      have HA : Hid (Cells A k k (fun j => .float .f64 (fs.getD (k - 1 - j) 0))) := hA
      clear hA
      go_wp2
      go_ret
      refine ⟨rfl, ⟨by simp [hlen], .inr ⟨_, 0, rfl, fun i hi => ?_⟩⟩, (Below.refl _ _).alloc (Nat.le_refl _) _⟩
      rw [World.cell?_alloc_at _ _ _ _ rfl, Nat.zero_add, HA.out.2 i hi]
      dsimp only
      rw [List.getD_eq_getElem?_getD, List.getD_eq_getElem?_getD, List.getElem?_reverse (by omega), hlen]

set_option maxHeartbeats 400000 in
theorem revTimes_any (a : Option Addr) (len cap : Nat) (w : World) (h : IRow w a len) (hl : len ≤ 4096) :
    Calls Try.prog 8 #[.slice a len cap] w fun e w' => e = .returned (.slice (some ⟨w.heap.size, 0, none⟩) len len) ∧ IRow w' (some ⟨w.heap.size, 0, none⟩) len ∧ Below w.heap.size w w' := by
  have hmk := make2 len hl
  go_enter Try.func8, Try.ntmps8
  go_wp2
  go_loopw [4] (fun i wr => ∃ (k : Nat) (A : Array Value), k ≤ len ∧ i = .int .i64 k ∧ CellsI A len k ∧ wr = w.alloc (.cells A 2)) (fun i _ => len - (intOf i).toNat)
  case atStart => exact ⟨0, _, Nat.zero_le _, rfl, cellsI_made _ _, rfl⟩
  case round =>
    obtain ⟨k, A, hk, rfl, hA, rfl⟩ := hrel
    by_cases hlt : k < len
    · rcases h with h0 | ⟨b, off, rfl, hc⟩
      · omega
      obtain ⟨m, hm⟩ : ∃ m : Nat, (len : Int) - 1 - k = m ∧ m < len := ⟨len - 1 - k, by omega, by omega⟩
      obtain ⟨x, hcx⟩ := hc m hm.2
      have hb := lt_of_cell hcx
      have hsz := hA.1
      have HA : Hid (CellsI A len k) := hA
      obtain ⟨v0, hin⟩ : ∃ v, A[k]? = some v := ⟨A[k]'(by omega), Array.getElem?_eq_getElem (by omega)⟩
      have hm1 := hm.1
      have hml := hm.2
      clear hc hm hA
      go_wp2
      go_roundw
      case rel => exact ⟨k + 1, _, by omega, by go_num, cellsI_set _ HA.out hlt, rfl⟩
      case measure => simp [intOf]; omega
    · obtain rfl : k = len := by omega
      have HA : Hid (CellsI A k k) := hA
      clear hA
      go_wp2
      go_ret
      refine ⟨rfl, .inr ⟨_, 0, rfl, fun i hi => ?_⟩, (Below.refl _ _).alloc (Nat.le_refl _) _⟩
      rw [World.cell?_alloc_at _ _ _ _ rfl, Nat.zero_add]
      exact HA.out.2 i hi

end Go.Proofs.Qxb6618301a
