/-
  THE WALK OF 'FnMemoryRatioScalesWithEachSideAndSelfIsOne'.
-/
import Derived.Test.Qxb6618301aWalks5
namespace Go.Proofs.Qxb6618301a
open Go.RowKit
open Fl (FRes IsNaN Rep fl same TWO ONE INF MAXM)
attribute [local go_sem] run_store_float

/-- A product with two as the model runs it, in every world. -/
def mulV (x y : Nat) (w : World) : Nat := (floatBits .mul .f64 x y).getD (nanAt x y w)
def mulW (x y : Nat) (w : World) : World := if (floatBits .mul .f64 x y).isSome then w else w.drew
theorem run_mul (x y : Nat) (w : World) : (binOp .mul 27 (.float .f64 x) (.float .f64 y)).run Try.prog w = .ok (.float .f64 (mulV x y w)) (mulW x y w) := by
  unfold mulV mulW
  cases h : floatBits .mul .f64 x y with
  | some r => exact run_float_arith w .mul 27 .f64 x y r h
  | none => exact run_float_none w .mul 27 x y (by simp) h
theorem mulV_res (x y : Nat) (w : World) : FRes (Ieee.double.mul x y) (mulV x y w) := by
  unfold mulV
  have e : floatBits .mul .f64 x y = Ieee.double.mul x y := rfl
  rw [e]
  cases h : Ieee.double.mul x y with
  | some r => rfl
  | none => exact nanAt_nan x y w
theorem mulW_below {B : Nat} {a : World} (x y : Nat) {w : World} (h : Below B a w) : Below B a (mulW x y w) := by
  unfold mulW
  split
  · exact h
  · exact h.drew

theorem whole_reps {fs ks : List Nat} (h : Whole fs ks) : Reps fs ks := ⟨h.1, fun i hi => (h.2 i hi).2⟩
theorem whole_sum {fs ks : List Nat} {n : Nat} (h : Whole fs ks) (hn : fs.length = n) (hl : n ≤ 4096) : ks.sum ≤ 4503599627370496 ∧ (n = 0 → ks.sum = 0) := by
  have h1 := sum_le (ks := ks) (fun i hi => (h.2 i (by rw [h.1]; exact hi)).1)
  have h2 := h.1
  refine ⟨by omega, fun e => ?_⟩
  have : ks.length = 0 := by omega
  rw [List.length_eq_zero_iff.1 this]; rfl
theorem double_reps {fs ks : List Nat} (h : Whole fs ks) : Reps (fs.map dbl) (ks.map (2 * ·)) := by
  refine ⟨by simpa using h.1, fun i hi => ?_⟩
  simp at hi
  have hk : i < ks.length := by rw [← h.1]; exact hi
  have := h.2 i hi
  simp only [List.getD_eq_getElem?_getD, List.getElem?_map, List.getElem?_eq_getElem hi, List.getElem?_eq_getElem hk, Option.map_some, Option.getD_some] at this ⊢
  exact (dbl_rep this.2 this.1).2
theorem double_sum (ks : List Nat) : (ks.map (2 * ·)).sum = 2 * ks.sum := by
  induction ks with
  | nil => rfl
  | cons a l ih => simp only [List.map_cons, List.sum_cons, ih]; omega

/-- THE WALK, where a length is too great or two lengths part: it says yes at once. -/
theorem scale_out (a0 a1 a2 a3 : Option Addr) (l0 c0 l1 c1 l2 c2 l3 c3 : Nat) (m : Bool) (w : World) (h : 4096 < l0 ∨ 4096 < l1 ∨ 4096 < l2 ∨ 4096 < l3 ∨ l0 ≠ l1 ∨ l2 ≠ l3) :
    Calls Try.prog 4 #[.slice a0 l0 c0, .slice a1 l1 c1, .slice a2 l2 c2, .slice a3 l3 c3, .bool m] w fun e w' => e = .returned (.bool true) ∧ Below w.heap.size w w' := by
  by_cases g0 : 4096 < l0
  · clear h
    go_enter Try.func4, Try.ntmps4
    go_wp2_with fail
    refine (bytes12_any _ _ _ _ _ _ _ _ _ _ _ _ _ _).mono ?_
    rintro e w' ⟨⟨b, rfl⟩, rfl⟩
    cases b <;> (go_wp2; go_ret; exact ⟨rfl, Below.refl _ _⟩)
  by_cases g1 : 4096 < l1
  · clear h
    go_enter Try.func4, Try.ntmps4
    go_wp2_with fail
    refine (bytes12_any _ _ _ _ _ _ _ _ _ _ _ _ _ _).mono ?_
    rintro e w' ⟨⟨b, rfl⟩, rfl⟩
    cases b <;> (go_wp2; go_ret; exact ⟨rfl, Below.refl _ _⟩)
  by_cases g2 : 4096 < l2
  · clear h
    go_enter Try.func4, Try.ntmps4
    go_wp2_with fail
    refine (bytes12_any _ _ _ _ _ _ _ _ _ _ _ _ _ _).mono ?_
    rintro e w' ⟨⟨b, rfl⟩, rfl⟩
    cases b <;> (go_wp2; go_ret; exact ⟨rfl, Below.refl _ _⟩)
  by_cases g3 : 4096 < l3
  · clear h
    go_enter Try.func4, Try.ntmps4
    go_wp2_with fail
    refine (bytes12_any _ _ _ _ _ _ _ _ _ _ _ _ _ _).mono ?_
    rintro e w' ⟨⟨b, rfl⟩, rfl⟩
    cases b <;> (go_wp2; go_ret; exact ⟨rfl, Below.refl _ _⟩)
  by_cases g4 : l0 = l1
  · subst g4
    have g5 : ((l2 : Int) != (l3 : Int)) = true := by simp; omega
    clear h
    go_enter Try.func4, Try.ntmps4
    go_wp2_with fail
    refine (bytes12_any _ _ _ _ _ _ _ _ _ _ _ _ _ _).mono ?_
    rintro e w' ⟨⟨b, rfl⟩, rfl⟩
    cases b <;> (go_wp2; go_ret; exact ⟨rfl, Below.refl _ _⟩)
  · have g5 : ((l0 : Int) != (l1 : Int)) = true := by simp; omega
    clear h
    go_enter Try.func4, Try.ntmps4
    go_wp2_with fail
    refine (bytes12_any _ _ _ _ _ _ _ _ _ _ _ _ _ _).mono ?_
    rintro e w' ⟨⟨b, rfl⟩, rfl⟩
    cases b <;> (go_wp2; go_ret; exact ⟨rfl, Below.refl _ _⟩)

end Go.Proofs.Qxb6618301a
