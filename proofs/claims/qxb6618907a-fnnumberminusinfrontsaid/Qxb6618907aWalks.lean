/-
  THE WALKS, FIRST PART: the leaves; the digits of a stretch.
-/
import Derived.Test.Qxb6618907aRows
import Derived.Test.Qxb6618907aPlain
import Derived.WalkKit
import Derived.WalkLawsBesides
import Derived.WalkSpells
import Derived.Below
import Derived.RegionTactic
import Derived.Deep.QuietTactic
import Derived.BigQuiet
namespace Go.Proofs.Qxb6618907a
open Go.RowKit

theorem bytes5_any (a : Option Addr) (len cap : Nat) (i dep : Int) (nt : ByteArray) (w : World) (hn : nt.size ≤ maxLen) :
    Calls Try.prog 5 #[.slice a len cap, .int .i64 i, .int .i64 dep, .string nt] w fun e w' => (∃ b, e = .returned (.bool b)) ∧ w' = w := by
  unfold maxLen at hn
  go_enter Try.func5, Try.ntmps5
  go_wp2
  all_goals (go_ret; exact ⟨⟨_, rfl⟩, rfl⟩)
theorem bytes13_any (a : Option Addr) (len cap : Nat) (i dep : Int) (nt : ByteArray) (w : World) (hn : nt.size ≤ maxLen) :
    Calls Try.prog 13 #[.slice a len cap, .int .i64 i, .int .i64 dep, .string nt] w fun e w' => (∃ b, e = .returned (.bool b)) ∧ w' = w := by
  unfold maxLen at hn
  go_enter Try.func13, Try.ntmps13
  go_wp2
  all_goals (go_ret; exact ⟨⟨_, rfl⟩, rfl⟩)

/-- A slice of bytes: its elements. -/
def BRow (w : World) (a : Option Addr) (len : Nat) (xs : List Int) : Prop :=
  xs.length = len ∧ (len = 0 ∨ ∃ b off, a = some ⟨b, off, none⟩ ∧ ∀ i, i < len → w.cell? ⟨b, off + i, none⟩ = some (.int .u8 (xs.getD i 0)))

theorem lt_of_cell {w : World} {b o : Nat} {v : Value} (h : w.cell? ⟨b, o, none⟩ = some v) : b < w.heap.size := by
  by_cases hb : b < w.heap.size
  · exact hb
  · simp [World.cell?, Array.getElem?_eq_none (Nat.le_of_not_lt hb)] at h
theorem brow_below {w w' : World} {a : Option Addr} {len : Nat} {xs : List Int} (h : BRow w a len xs) (hb : Below w.heap.size w w') : BRow w' a len xs := by
  obtain ⟨h1, h2⟩ := h
  refine ⟨h1, ?_⟩
  rcases h2 with h0 | ⟨b, off, rfl, hc⟩
  · exact .inl h0
  · exact .inr ⟨b, off, rfl, fun i hi => (hb.cell (p := ⟨b, off + i, none⟩) (lt_of_cell (hc i hi))).trans (hc i hi)⟩
theorem below_alloc (w : World) (o : Obj) : Below w.heap.size w (w.alloc o) := (Below.refl _ _).alloc (Nat.le_refl _) _
theorem below_trans {w w1 w2 : World} (h : Below w.heap.size w w1) (k : Below w1.heap.size w1 w2) : Below w.heap.size w w2 := h.trans (k.mono h.size)

theorem info5 : (Try.prog.info? 5).map (fun i => (i.zero, i.size, i.bytes)) = some (some (.int .u8 0), 1, 1) := by kernel_rfl
/-- 'make([]byte, n)'. -/
theorem make5 (n : Nat) (hn : n ≤ 2000000) (w : World) : (Instr.makeSlice 22 (.int .i64 (n : Int)) (.int .i64 (n : Int))).run Try.prog w = .ok (.slice (some ⟨w.heap.size, 0, none⟩) n n) (w.alloc (.cells (madeCells #[.int .u8 0] n) 5)) := by
  obtain ⟨i, hi, hz, hs, hb⟩ := info_parts info5
  have := run_make (P := Try.prog) w 22 5 i _ Try.underlying22 hi hz .i64 .i64 n n (by omega) (by omega) (by rw [hb]; omega) (by omega)
  rw [this, hs]
  simp [Value.cells]
theorem make5' (n : Nat) (hn : n ≤ 1999999) (w : World) : (Instr.makeSlice 22 (.int .i64 ((n : Int) + 1)) (.int .i64 ((n : Int) + 1))).run Try.prog w = .ok (.slice (some ⟨w.heap.size, 0, none⟩) (n + 1) (n + 1)) (w.alloc (.cells (madeCells #[.int .u8 0] (n + 1)) 5)) := by
  have := make5 (n + 1) (by omega) w
  rw [show ((n + 1 : Nat) : Int) = (n : Int) + 1 from by omega] at this
  exact this

/-- The cells of a new block: all are there; the first k hold what was stored. -/
def Cells (A : Array Value) (len k : Nat) (g : Nat → Int) : Prop := A.size = len ∧ ∀ j, j < k → A[j]? = some (.int .u8 (g j))
theorem cells_made (v : Value) (n : Nat) (g : Nat → Int) : Cells (madeCells #[v] n) n 0 g := ⟨size_madeCells _ _, fun j h => absurd h (by omega)⟩
theorem cells_set {A : Array Value} {len k : Nat} {g : Nat → Int} {c : Int} (h : Cells A len k g) (hk : k < len) (hv : c = g k) : Cells (A.setIfInBounds k (.int .u8 c)) len (k + 1) g := by
  obtain ⟨h1, h2⟩ := h
  refine ⟨by simpa using h1, fun j hj => ?_⟩
  rw [Array.getElem?_setIfInBounds]
  by_cases e : k = j
  · subst e; rw [if_pos rfl, if_pos (by omega), hv]
  · rw [if_neg e]; exact h2 j (by omega)

theorem eq_nil (a : Option Addr) (n c : Nat) (w : World) : (binOp .eql 22 (.slice a n c) (.slice none 0 0)).run Try.prog w = .ok (.bool a.isNone) w := by
  have := Lib.run_eql_slice_nil (P := Try.prog) w 22 5 a n c 0 0 Try.underlying22
  simpa using this

set_option maxHeartbeats 400000 in
theorem clone_some (ad : Addr) (len cap : Nat) (xs : List Int) (w : World) (h : BRow w (some ad) len xs) (hl : len ≤ 1048576) :
    Calls Try.prog 6 #[.slice (some ad) len cap] w fun e w' => e = .returned (.slice (some ⟨w.heap.size, 0, none⟩) len len) ∧ BRow w' (some ⟨w.heap.size, 0, none⟩) len xs ∧ Below w.heap.size w w' := by
  obtain ⟨hlen, hc⟩ := h
  have hmk := make5 len (by omega)
  have hnil := eq_nil (some ad) len cap
  go_enter Try.func6, Try.ntmps6
  go_wp2
  go_loopw [4] (fun i wr => ∃ (k : Nat) (A : Array Value), k ≤ len ∧ i = .int .i64 k ∧ Cells A len k (fun j => xs.getD j 0) ∧ wr = w.alloc (.cells A 5)) (fun i _ => len - (intOf i).toNat)
  case atStart => exact ⟨0, _, Nat.zero_le _, rfl, cells_made _ _ _, rfl⟩
  case round =>
    obtain ⟨k, A, hk, rfl, hA, rfl⟩ := hrel
    by_cases hlt : k < len
    · rcases hc with h0 | ⟨b, off, e, hc⟩
      · omega
      obtain rfl : ad = ⟨b, off, none⟩ := by simpa using e
      obtain ⟨x, hx⟩ : ∃ x, x = xs.getD k 0 := ⟨_, rfl⟩
      have hcx : w.cell? ⟨b, off + k, none⟩ = some (.int .u8 x) := by rw [hx]; exact hc k hlt
      have hb := lt_of_cell hcx
      have hsz := hA.1
      have HX : Hid (x = xs.getD k 0) := hx
      have HA : Hid (Cells A len k (fun j => xs.getD j 0)) := hA
      obtain ⟨v0, hin⟩ : ∃ v, A[k]? = some v := ⟨A[k]'(by omega), Array.getElem?_eq_getElem (by omega)⟩
      clear hx hc hA e
      go_wp2
      go_roundw
      case rel => exact ⟨k + 1, _, by omega, by go_num, cells_set HA.out hlt HX.out, rfl⟩
      case measure => simp [intOf]; omega
    · obtain rfl : k = len := by omega
      have HA : Hid (Cells A k k (fun j => xs.getD j 0)) := hA
      clear hA
      go_wp2
      go_ret
      refine ⟨rfl, ⟨hlen, .inr ⟨_, 0, rfl, fun i hi => ?_⟩⟩, below_alloc _ _⟩
      rw [World.cell?_alloc_at _ _ _ _ rfl, Nat.zero_add, HA.out.2 i hi]

theorem clone_nil (w : World) : Calls Try.prog 6 #[.slice none 0 0] w fun e w' => e = .returned (.slice none 0 0) ∧ w' = w := by
  have hnil := eq_nil none 0 0
  go_enter Try.func6, Try.ntmps6
  go_wp2
  go_ret
  exact ⟨rfl, rfl⟩

/-- A scanner in memory, in block b. -/
def Sc (w : World) (b : Nat) (a : Option Addr) (len cap : Nat) (i dep : Int) (nt : ByteArray) : Prop :=
  w.cell? ⟨b, 0, none⟩ = some (.slice a len cap) ∧ w.cell? ⟨b, 1, none⟩ = some (.int .i64 i) ∧ w.cell? ⟨b, 2, none⟩ = some (.int .i64 dep) ∧ w.cell? ⟨b, 3, none⟩ = some (.string nt) ∧ w.cell? ⟨b, 4, none⟩ = some (.slice none 0 0) ∧ w.frozen? ⟨b, 1, none⟩ = false

theorem new_any (a : Option Addr) (len cap : Nat) (i dep : Int) (nt : ByteArray) (w : World) :
    Calls Try.prog 7 #[.slice a len cap, .int .i64 i, .int .i64 dep, .string nt] w fun e w' => e = .returned (.pointer (some ⟨w.heap.size, 0, none⟩)) ∧ Sc w' w.heap.size a len cap i dep nt ∧ Below w.heap.size w w' := by
  go_enter Try.func7, Try.ntmps7
  go_wp2
  go_ret
  refine ⟨rfl, ⟨?_, ?_, ?_, ?_, ?_, ?_⟩, below_alloc _ _⟩
  all_goals first | (rw [World.cell?_alloc_at _ _ _ _ rfl]; rfl) | (rw [World.frozen?_alloc_at _ _ _ _ rfl])

end Go.Proofs.Qxb6618907a
