/-
  THE WALKS, THIRD PART: the runs, the mean, the ratio.
-/
import Derived.Test.Qxb6618301aWalks2
import Derived.RegionTactic
import Derived.Deep.QuietTactic
import Derived.BigQuiet
namespace Go.Proofs.Qxb6618301a
open Go.RowKit
open Fl (FRes IsNaN Rep fl same TWO ONE INF MAXM)
attribute [local go_sem] run_store_float

theorem info41 : (Try.prog.info? 41).map (fun i => (i.zero, i.size, i.bytes)) = some (some (.agg #[.int .i64 0, .float .f64 0]), 2, 16) := by kernel_rfl
/-- 'make([]Run, n)'. -/
theorem make41 (n : Nat) (hn : n ≤ 4096) (w : World) : (Instr.makeSlice 34 (.int .i64 (n : Int)) (.int .i64 (n : Int))).run Try.prog w = .ok (.slice (some ⟨w.heap.size, 0, none⟩) n n) (w.alloc (.cells (madeCells #[.int .i64 0, .float .f64 0] (n * 2)) 41)) := by
  obtain ⟨i, hi, hz, hs, hb⟩ := info_parts info41
  have := run_make (P := Try.prog) w 34 41 i _ Try.underlying34 hi hz .i64 .i64 n n (by omega) (by omega) (by rw [hb]; omega) (by omega)
  rw [this, hs]
  simp [Value.cells]

/-- The cells of a row of runs: a number and a float each, the floats as given. -/
def CellsR (A : Array Value) (len k : Nat) (fs : List Nat) : Prop := A.size = len * 2 ∧ ∀ j, j < k → (∃ n, A[j * 2]? = some (.int .i64 n)) ∧ A[j * 2 + 1]? = some (.float .f64 (fs.getD j 0))
theorem cellsR_made (z : Array Value) (n : Nat) (fs : List Nat) : CellsR (madeCells z (n * 2)) n 0 fs := ⟨size_madeCells _ _, fun j h => absurd h (by omega)⟩
theorem cellsR_set {A : Array Value} {len k x : Nat} {fs : List Nat} (n : Int) (h : CellsR A len k fs) (hk : k < len) (hx : x = fs.getD k 0) : CellsR ((A.setIfInBounds (k * 2) (.int .i64 n)).setIfInBounds (k * 2 + 1) (.float .f64 x)) len (k + 1) fs := by
  obtain ⟨h1, h2⟩ := h
  refine ⟨by simpa using h1, fun j hj => ?_⟩
  rw [Array.getElem?_setIfInBounds, Array.getElem?_setIfInBounds, Array.getElem?_setIfInBounds, Array.getElem?_setIfInBounds]
  simp only [Array.size_setIfInBounds]
  by_cases e : k = j
  · subst e
    rw [if_neg (by omega), if_pos rfl, if_pos (by omega), if_pos rfl, if_pos (by omega)]
    exact ⟨⟨_, rfl⟩, by rw [hx]⟩
  · rw [if_neg (by omega), if_neg (by omega), if_neg (by omega), if_neg (by omega)]
    exact h2 j (by omega)

theorem set_two (w : World) (A : Array Value) (n i : Nat) (u v : Value) : (((w.alloc (.cells A 41)).drewN n).setCell ⟨w.heap.size, i, none⟩ u).setCell ⟨w.heap.size, i + 1, none⟩ v = (w.alloc (.cells ((A.setIfInBounds i u).setIfInBounds (i + 1) v) 41)).drewN n := by
  show (((w.alloc (.cells A 41)).setCell ⟨w.heap.size, i, none⟩ u).setCell ⟨w.heap.size, i + 1, none⟩ v).drewN n = _
  rw [World.setCell_alloc_at _ _ _ _ _ rfl, World.setCell_alloc_at _ _ _ _ _ rfl]

/-- A slice of runs, as the mean reads it. -/
def RRow (w : World) (a : Option Addr) (len : Nat) (fs : List Nat) : Prop :=
  fs.length = len ∧ (len = 0 ∨ ∃ b off, a = some ⟨b, off, none⟩ ∧ ∀ i, i < len → (∃ n, w.cell? ⟨b, off + i * 2, none⟩ = some (.int .i64 n)) ∧ w.cell? ⟨b, off + i * 2 + 1, none⟩ = some (.float .f64 (fs.getD i 0)))

set_option maxHeartbeats 1000000 in
theorem runs_any (a0 a1 : Option Addr) (len c0 c1 : Nat) (fs : List Nat) (w : World) (h0 : IRow w a0 len) (h : FRow w a1 len fs) (hl : len ≤ 4096) :
    Calls Try.prog 16 #[.slice a0 len c0, .slice a1 len c1] w fun e w' => e = .returned (.slice (some ⟨w.heap.size, 0, none⟩) len len) ∧ RRow w' (some ⟨w.heap.size, 0, none⟩) len fs ∧ Below w.heap.size w w' := by
  obtain ⟨hlen, hc⟩ := h
  have hmk := make41 len hl
  go_enter Try.func16, Try.ntmps16
  go_wp2
  go_loopw [6] (fun i wr => ∃ (k nq : Nat) (A : Array Value), k ≤ len ∧ i = .int .i64 k ∧ CellsR A len k fs ∧ wr = (w.alloc (.cells A 41)).drewN nq) (fun i _ => len - (intOf i).toNat)
  case atStart => exact ⟨0, 0, _, Nat.zero_le _, rfl, cellsR_made _ _ _, rfl⟩
  case round =>
    obtain ⟨k, nq, A, hk, rfl, hA, rfl⟩ := hrel
    by_cases hlt : k < len
    · rcases hc with h0' | ⟨b, off, rfl, hc⟩
      · omega
      rcases h0 with h0' | ⟨b', off', rfl, hc'⟩
      · omega
      obtain ⟨x, hx⟩ : ∃ x, x = fs.getD k 0 := ⟨_, rfl⟩
      have hcx : w.cell? ⟨b, off + k, none⟩ = some (.float .f64 x) := by rw [hx]; exact hc k hlt
      obtain ⟨t, hct⟩ := hc' k hlt
      have hb := lt_of_cell hcx
      have hb' := lt_of_cell hct
      have hsz := hA.1
      have HX : Hid (x = fs.getD k 0) := hx
      have HA : Hid (CellsR A len k fs) := hA
      obtain ⟨v0, hin0⟩ : ∃ v, A[k * 2]? = some v := ⟨A[k * 2]'(by omega), Array.getElem?_eq_getElem (by omega)⟩
      obtain ⟨v1, hin1⟩ : ∃ v, A[k * 2 + 1]? = some v := ⟨A[k * 2 + 1]'(by omega), Array.getElem?_eq_getElem (by omega)⟩
      clear hx hc hc' hA
      go_wp2
      go_region
      go_wp2
      go_roundw
      case rel => exact ⟨k + 1, nq + 1, _, by omega, by go_num, cellsR_set _ HA.out hlt HX.out, set_two _ _ _ _ _ _⟩
      case measure => simp [intOf]; omega
    · obtain rfl : k = len := by omega
      have HA : Hid (CellsR A k k fs) := hA
      clear hA
      go_wp2
      go_ret
      refine ⟨rfl, ⟨hlen, .inr ⟨_, 0, rfl, fun i hi => ?_⟩⟩, below_drewN ((Below.refl _ _).alloc (Nat.le_refl _) _) nq⟩
      have := HA.out.2 i hi
      show (∃ n, (w.alloc (.cells A 41)).cell? _ = _) ∧ (w.alloc (.cells A 41)).cell? _ = _
      rw [World.cell?_alloc_at _ _ _ _ rfl, World.cell?_alloc_at _ _ _ _ rfl, Nat.zero_add]
      exact this

/-- The words read as these whole numbers. -/
def Reps (fs ks : List Nat) : Prop := fs.length = ks.length ∧ ∀ i, i < fs.length → Rep (fs.getD i 0) (ks.getD i 0)

theorem take_sum_succ (ks : List Nat) (k : Nat) (h : k < ks.length) : (ks.take (k + 1)).sum = (ks.take k).sum + ks.getD k 0 := by
  rw [List.take_succ_eq_append_getElem h, sum_snoc]
  simp [h]
theorem take_sum_le (ks : List Nat) (k : Nat) : (ks.take k).sum ≤ ks.sum := by
  have := congrArg List.sum (List.take_append_drop k ks)
  rw [List.sum_append] at this
  omega

set_option maxHeartbeats 1000000 in
theorem mean_any (a : Option Addr) (len cap : Nat) (fs ks : List Nat) (w : World) (h : RRow w a len fs) (hl : len ≤ 4096) (hr : Reps fs ks) (hs : ks.sum ≤ 9007199254740992) :
    Calls Try.prog 20 #[.slice a len cap] w fun e w' => ∃ r, e = .returned (.float .f64 r) ∧ Fl.Mean ks.sum len r ∧ Below w.heap.size w w' := by
  obtain ⟨hlen, hc⟩ := h
  go_enter Try.func20, Try.ntmps20
  go_wp2
  go_loopw [3, 8] (fun s i wr => ∃ (k S : Nat), k ≤ len ∧ i = .int .i64 k ∧ S = (ks.take k).sum ∧ s = .float .f64 (fl S) ∧ Below w.heap.size w wr) (fun _ i _ => len - (intOf i).toNat)
  case atStart => exact ⟨0, 0, Nat.zero_le _, rfl, by simp, by rw [Fl.fl_zero], Below.refl _ _⟩
  case round =>
    obtain ⟨k, S, hk, rfl, hS, rfl, hB⟩ := hrel
    have HS : Hid (S = (ks.take k).sum) := hS
    by_cases hlt : k < len
    · rcases hc with h0' | ⟨b, off, rfl, hc⟩
      · omega
      obtain ⟨x, hx⟩ : ∃ x, x = fs.getD k 0 := ⟨_, rfl⟩
      obtain ⟨⟨t, hct⟩, hcx⟩ := hc k hlt
      have hb := lt_of_cell hct
      have hct' : wr.cell? ⟨b, off + k * 2, none⟩ = some (.int .i64 t) := (hB.cell (p := ⟨b, off + k * 2, none⟩) hb).trans hct
      have hcx' : wr.cell? ⟨b, off + k * 2 + 1, none⟩ = some (.float .f64 x) := (hB.cell (p := ⟨b, off + k * 2 + 1, none⟩) hb).trans (by rw [hx]; exact hcx)
      have hsz := hB.size
      have hle : S + ks.getD k 0 ≤ 9007199254740992 := by
        rw [hS, ← take_sum_succ ks k (by rw [← hr.1]; omega)]
        exact Nat.le_trans (take_sum_le _ _) hs
      have hadd := Fl.add_exact S (ks.getD k 0) x (by rw [hx]; exact hr.2 k (by omega)) hle
      obtain ⟨S', hS'⟩ : ∃ S', S' = S + ks.getD k 0 := ⟨_, rfl⟩
      rw [← hS'] at hadd
      have hrun := fun w => run_float_arith (P := Try.prog) w .add 27 .f64 (fl S) x (fl S') hadd
      have HS' : Hid (S' = (ks.take (k + 1)).sum) := by rw [take_sum_succ ks k (by rw [← hr.1]; omega), ← hS]; exact hS'
      have hbr : b < wr.heap.size := by omega
      clear hx hc hct hcx hS' hadd hS hle hr hs
      go_wp2
      go_roundw
      case rel => exact ⟨k + 1, S', by omega, by go_num, HS'.out, rfl, hB.alloc (by omega) _⟩
      case measure => simp [intOf]; omega
    · obtain rfl : k = len := by omega
      have hS2 : S = ks.sum := by rw [hS, List.take_of_length_le (by rw [← hr.1]; omega)]
      have HS2 : Hid (S = ks.sum) := hS2
      cases hq : floatBits .quo .f64 (fl S) (floatOfInt .f64 (k : Int)) with
      | some r =>
        have hrun := fun w => run_float_arith (P := Try.prog) w .quo 27 .f64 (fl S) (floatOfInt .f64 (k : Int)) r hq
        have HQ : Hid (Fl.Mean ks.sum k r) := by
          unfold Fl.Mean; rw [← hS2]; rw [Fl.floatOfInt_nat] at hq
          have hq' : Ieee.double.div (fl S) (fl k) = some r := hq
          rw [hq']; rfl
        clear hq hS hS2 hr hs
        go_wp2
        go_ret
        exact ⟨r, rfl, HQ.out, hB⟩
      | none =>
        have hrun := fun w => run_float_none (P := Try.prog) w .quo 27 (fl S) (floatOfInt .f64 (k : Int)) (by simp) hq
        have HQ : Hid (∀ r, IsNaN r → Fl.Mean ks.sum k r) := by
          intro r hn
          unfold Fl.Mean; rw [← hS2]; rw [Fl.floatOfInt_nat] at hq
          have hq' : Ieee.double.div (fl S) (fl k) = none := hq
          rw [hq']; exact hn
        clear hq hS hS2 hr hs
        go_wp2
        go_ret
        exact ⟨_, rfl, HQ.out _ (nanAt_nan _ _ _), hB.drew⟩

end Go.Proofs.Qxb6618301a
