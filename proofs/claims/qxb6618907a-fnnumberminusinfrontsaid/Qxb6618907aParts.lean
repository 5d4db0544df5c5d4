/-
  WHAT BOTH LAWS WALK THROUGH: the copy, the scanner made, the number read, its state; a stretch cut out of the data.
-/
import Derived.Test.Qxb6618907aNumber
import Derived.Test.Qxb6618907aViable
namespace Go.Proofs.Qxb6618907a
open Go.RowKit

theorem clone_any (a : Option Addr) (len cap : Nat) (xs : List Int) (w : World) (h : BRow w a len xs) (hl : len ≤ 1048576) (hn : a = none → len = 0 ∧ cap = 0) :
    Calls Try.prog 6 #[.slice a len cap] w fun e w' => ∃ a' c', e = .returned (.slice a' len c') ∧ BRow w' a' len xs ∧ Below w.heap.size w w' := by
  cases a with
  | none =>
    obtain ⟨rfl, rfl⟩ := hn rfl
    refine (clone_nil w).mono ?_
    rintro e w' ⟨rfl, rfl⟩
    exact ⟨none, 0, rfl, h, Below.refl _ _⟩
  | some ad =>
    refine (clone_some ad len cap xs w h hl).mono ?_
    rintro e w' ⟨rfl, hb, hbel⟩
    exact ⟨_, _, rfl, hb, hbel⟩

theorem state_any' (b len cap : Nat) (a : Option Addr) (i dep : Int) (nt : ByteArray) (w : World) (hs : Sc w b a len cap i dep nt) :
    Calls Try.prog 9 #[.pointer (some ⟨b, 0, none⟩)] w fun e w' => e = .returned (.tuple #[.slice a len cap, .int .i64 i, .int .i64 dep, .string nt, .int .i64 0]) ∧ Below w.heap.size w w' := by
  refine (state_any b len cap a i dep nt w hs).mono ?_
  rintro e w' ⟨rfl, n, rfl⟩
  exact ⟨rfl, below_drewN (Below.refl _ _) n⟩

/-- Where a stretch that is cut out begins. -/
def cutA (a : Option Addr) (cap p : Nat) : Option Addr := if cap = p then a else a.map (·.add p)
theorem size5 (w : World) : (Go.sizeOf (Try.prog.elem 22)).run Try.prog w = .ok 1 w := by kernel_rfl
theorem run_cut (a : Option Addr) (len cap p q : Nat) (h1 : p ≤ q) (h2 : q ≤ cap) (w : World) :
    (Instr.sliceAt 22 (.slice a len cap) (some (.int .i64 (p : Int))) (some (.int .i64 (q : Int))) none).run Try.prog w = .ok (.slice (cutA a cap p) (q - p) (cap - p)) w := by
  have ht : Try.prog.underlying 22 = some (.slice (Try.prog.elem 22)) := by kernel_rfl
  rw [run_sliceAt_slice w 22 _ _ _ _ ht, run_slice_lh w 22 a len cap ht .i64 .i64 p q (by omega) (by omega) (by omega), size5]
  simp [sliced, cutA]
theorem brow_cut {w : World} {a : Option Addr} {len cap p q : Nat} {xs : List Int} (h : BRow w a len xs) (hc : len ≤ cap) (h1 : p ≤ q) (h2 : q ≤ len) : BRow w (cutA a cap p) (q - p) ((xs.drop p).take (q - p)) := by
  obtain ⟨hl, h⟩ := h
  refine ⟨by rw [List.length_take, List.length_drop]; omega, ?_⟩
  by_cases e : q - p = 0
  · exact .inl e
  · rcases h with h0 | ⟨b, off, rfl, hcell⟩
    · omega
    · refine .inr ⟨b, off + p, ?_, fun i hi => ?_⟩
      · unfold cutA; rw [if_neg (by omega)]; simp [Addr.add]
      · rw [Nat.add_assoc, hcell (p + i) (by omega), List.getD_eq_getElem?_getD, List.getD_eq_getElem?_getD, List.getElem?_take_of_lt hi, List.getElem?_drop]

end Go.Proofs.Qxb6618907a
