/-
  THE WALKS, FOURTH PART: the comparison and the ratio.
-/
import Derived.Test.Qxb6618301aWalks3
import Derived.Deep.RegionWith
namespace Go.Proofs.Qxb6618301a
open Go.RowKit
open Fl (FRes IsNaN Rep fl same TWO ONE INF MAXM)
attribute [local go_sem] run_store_float

theorem comparison_any (a0 a1 : Option Addr) (l0 c0 l1 c1 : Nat) (m : Bool) (w : World) :
    Calls Try.prog 15 #[.slice a0 l0 c0, .slice a1 l1 c1, .bool m] w fun e w' => e = .returned (.agg #[.slice a0 l0 c0, .slice a1 l1 c1, .bool m]) ∧ w' = w.alloc (.cells #[.slice a0 l0 c0, .slice a1 l1 c1, .bool m] 36) := by
  go_enter Try.func15, Try.ntmps15
  go_wp2
  exact bodyPost_ret (v := .agg #[.slice a0 l0 c0, .slice a1 l1 c1, .bool m]) (by simp [results, Try.results15, go_sem]) rfl ⟨rfl, rfl⟩

theorem memRatio_no (a0 a1 : Option Addr) (l0 c0 l1 c1 : Nat) (w : World) :
    Calls Try.prog 17 #[.agg #[.slice a0 l0 c0, .slice a1 l1 c1, .bool false]] w fun e w' => ∃ r, e = .returned (.float .f64 r) ∧ IsNaN r ∧ Below w.heap.size w w' := by
  go_enter Try.func17, Try.ntmps17
  go_wp2_with (go_at_call 19; refine (mathNaN_any _).mono ?_; rintro e w' ⟨r, rfl, hr, rfl⟩)
  go_ret
  exact ⟨_, rfl, by assumption, (Below.refl _ _).alloc (Nat.le_refl _) _⟩

theorem rrow_below {w w' : World} {a : Option Addr} {len : Nat} {fs : List Nat} (h : RRow w a len fs) (hb : Below w.heap.size w w') : RRow w' a len fs := by
  obtain ⟨h1, h2⟩ := h
  refine ⟨h1, ?_⟩
  rcases h2 with h0 | ⟨b, off, rfl, hc⟩
  · exact .inl h0
  · refine .inr ⟨b, off, rfl, fun i hi => ?_⟩
    obtain ⟨⟨n, hn⟩, hx⟩ := hc i hi
    exact ⟨⟨n, (hb.cell (p := ⟨b, off + i * 2, none⟩) (lt_of_cell hn)).trans hn⟩, (hb.cell (p := ⟨b, off + i * 2 + 1, none⟩) (lt_of_cell hx)).trans hx⟩

/-- A quotient as the model runs it, in every world. -/
def quoV (x y : Nat) (w : World) : Nat := (floatBits .quo .f64 x y).getD (nanAt x y w)
def quoW (x y : Nat) (w : World) : World := if (floatBits .quo .f64 x y).isSome then w else w.drew
theorem run_quo (x y : Nat) (w : World) : (binOp .quo 27 (.float .f64 x) (.float .f64 y)).run Try.prog w = .ok (.float .f64 (quoV x y w)) (quoW x y w) := by
  unfold quoV quoW
  cases h : floatBits .quo .f64 x y with
  | some r => exact run_float_arith w .quo 27 .f64 x y r h
  | none => exact run_float_none w .quo 27 x y (by simp) h
theorem quoV_res (x y : Nat) (w : World) : FRes (Ieee.double.div x y) (quoV x y w) := by
  unfold quoV
  have e : floatBits .quo .f64 x y = Ieee.double.div x y := rfl
  rw [e]
  cases h : Ieee.double.div x y with
  | some r => rfl
  | none => exact nanAt_nan x y w
theorem quoW_below {B : Nat} {a : World} (x y : Nat) {w : World} (h : Below B a w) : Below B a (quoW x y w) := by
  unfold quoW
  split
  · exact h
  · exact h.drew

set_option maxHeartbeats 1000000 in
theorem memRatio_yes (a0 a1 : Option Addr) (l0 c0 l1 c1 : Nat) (fs ks gs js : List Nat) (w : World) (h0 : RRow w a0 l0 fs) (hl0 : l0 ≤ 4096) (hr0 : Reps fs ks) (hs0 : ks.sum ≤ 9007199254740992)
    (h1 : RRow w a1 l1 gs) (hl1 : l1 ≤ 4096) (hr1 : Reps gs js) (hs1 : js.sum ≤ 9007199254740992) :
    Calls Try.prog 17 #[.agg #[.slice a0 l0 c0, .slice a1 l1 c1, .bool true]] w fun e w' => ∃ r, e = .returned (.float .f64 r) ∧ Fl.Ratio ks.sum l0 js.sum l1 r ∧ Below w.heap.size w w' := by
  have hquo := run_quo
  go_enter Try.func17, Try.ntmps17
  go_wp2_with fail
  go_region_with (first
    | (go_at_call_of 20 (Value.slice a0 l0 c0); refine (mean_any a0 l0 c0 fs ks _ ?_ hl0 hr0 hs0).mono ?_; exact rrow_below h0 (((Below.refl _ _).alloc (Nat.le_refl _) _).drew); rintro e w1 ⟨r0, rfl, hm0, hb0⟩; have cA := hb0.cell (p := ⟨w.heap.size, 0, none⟩) (by simp); have cB := hb0.cell (p := ⟨w.heap.size, 1, none⟩) (by simp))
    | (go_at_call_of 20 (Value.slice a1 l1 c1); refine (mean_any a1 l1 c1 gs js _ ?_ hl1 hr1 hs1).mono ?_; exact rrow_below h1 (((Below.refl _ _).alloc (Nat.le_refl _) _).drew.trans (hb0.mono (by simp))); rintro e w2 ⟨r1, rfl, hm1, hb1⟩))
  all_goals
    go_wp2
    go_ret
    refine ⟨_, rfl, ⟨_, _, hm0, hm1, quoV_res _ _ _⟩, quoW_below _ _ ((((Below.refl _ _).alloc (Nat.le_refl _) _).drew.trans (hb0.mono (by simp))).trans (hb1.mono ?_))⟩
    have := hb0.size
    simp at this
    omega

end Go.Proofs.Qxb6618301a
