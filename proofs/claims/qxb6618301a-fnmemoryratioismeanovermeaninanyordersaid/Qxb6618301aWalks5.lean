/-
  THE WALKS, FIFTH PART: the ratio of two columns.
-/
import Derived.Test.Qxb6618301aWalks4
namespace Go.Proofs.Qxb6618301a
open Go.RowKit
open Fl (FRes IsNaN Rep fl same TWO ONE INF MAXM)
attribute [local go_sem] run_store_float

theorem frow_below {w w' : World} {a : Option Addr} {len : Nat} {fs : List Nat} (h : FRow w a len fs) (hb : Below w.heap.size w w') : FRow w' a len fs := by
  obtain ⟨h1, h2⟩ := h
  refine ⟨h1, ?_⟩
  rcases h2 with h0 | ⟨b, off, rfl, hc⟩
  · exact .inl h0
  · exact .inr ⟨b, off, rfl, fun i hi => (hb.cell (p := ⟨b, off + i, none⟩) (lt_of_cell (hc i hi))).trans (hc i hi)⟩
theorem irow_below {w w' : World} {a : Option Addr} {len : Nat} (h : IRow w a len) (hb : Below w.heap.size w w') : IRow w' a len := by
  rcases h with h0 | ⟨b, off, rfl, hc⟩
  · exact .inl h0
  · refine .inr ⟨b, off, rfl, fun i hi => ?_⟩
    obtain ⟨n, hn⟩ := hc i hi
    exact ⟨n, (hb.cell (p := ⟨b, off + i, none⟩) (lt_of_cell hn)).trans hn⟩
theorem below_trans {w w1 w2 : World} (h : Below w.heap.size w w1) (k : Below w1.heap.size w1 w2) : Below w.heap.size w w2 := h.trans (k.mono h.size)
theorem below_alloc (w : World) (o : Obj) : Below w.heap.size w (w.alloc o) := (Below.refl _ _).alloc (Nat.le_refl _) _

set_option maxHeartbeats 1000000 in
theorem ratio_yes (a0 a1 a2 a3 : Option Addr) (l0 c0 c1 l1 c2 c3 : Nat) (fs ks gs js : List Nat) (w : World) (h0 : IRow w a0 l0) (h1 : FRow w a1 l0 fs) (hl0 : l0 ≤ 4096) (hr0 : Reps fs ks) (hs0 : ks.sum ≤ 9007199254740992)
    (h2 : IRow w a2 l1) (h3 : FRow w a3 l1 gs) (hl1 : l1 ≤ 4096) (hr1 : Reps gs js) (hs1 : js.sum ≤ 9007199254740992) :
    Calls Try.prog 7 #[.slice a0 l0 c0, .slice a1 l0 c1, .slice a2 l1 c2, .slice a3 l1 c3, .bool true] w fun e w' => ∃ r, e = .returned (.float .f64 r) ∧ Fl.Ratio ks.sum l0 js.sum l1 r ∧ Below w.heap.size w w' := by
  go_enter Try.func7, Try.ntmps7
  go_wp2_with fail
  refine (runs_any a0 a1 l0 c0 c1 fs _ h0 h1 hl0).mono ?_
  rintro e w1 ⟨rfl, hR0, hb0⟩
  go_wp2_with fail
  refine (runs_any a2 a3 l1 c2 c3 gs _ (irow_below h2 hb0) (frow_below h3 hb0) hl1).mono ?_
  rintro e w2 ⟨rfl, hR1, hb1⟩
  go_wp2_with fail
  refine (comparison_any _ _ _ _ _ _ _ _).mono ?_
  rintro e w3 ⟨rfl, rfl⟩
  go_wp2_with fail
  refine (memRatio_yes _ _ _ _ _ _ fs ks gs js _ ?_ hl0 hr0 hs0 ?_ hl1 hr1 hs1).mono ?_
  · exact rrow_below hR0 (below_trans hb1 (below_trans (below_alloc _ _) (below_alloc _ _)))
  · exact rrow_below hR1 (below_trans (below_alloc _ _) (below_alloc _ _))
  rintro e w4 ⟨r, rfl, hq, hb4⟩
  go_wp2_with fail
  go_ret
  exact ⟨r, rfl, hq, below_trans hb0 (below_trans hb1 (below_trans (below_alloc _ _) (below_trans (below_alloc _ _) hb4)))⟩

theorem ratio_no (a0 a1 a2 a3 : Option Addr) (l0 c0 c1 l1 c2 c3 : Nat) (fs gs : List Nat) (w : World) (h0 : IRow w a0 l0) (h1 : FRow w a1 l0 fs) (hl0 : l0 ≤ 4096)
    (h2 : IRow w a2 l1) (h3 : FRow w a3 l1 gs) (hl1 : l1 ≤ 4096) :
    Calls Try.prog 7 #[.slice a0 l0 c0, .slice a1 l0 c1, .slice a2 l1 c2, .slice a3 l1 c3, .bool false] w fun e w' => ∃ r, e = .returned (.float .f64 r) ∧ IsNaN r ∧ Below w.heap.size w w' := by
  go_enter Try.func7, Try.ntmps7
  go_wp2_with fail
  refine (runs_any a0 a1 l0 c0 c1 fs _ h0 h1 hl0).mono ?_
  rintro e w1 ⟨rfl, hR0, hb0⟩
  go_wp2_with fail
  refine (runs_any a2 a3 l1 c2 c3 gs _ (irow_below h2 hb0) (frow_below h3 hb0) hl1).mono ?_
  rintro e w2 ⟨rfl, hR1, hb1⟩
  go_wp2_with fail
  refine (comparison_any _ _ _ _ _ _ _ _).mono ?_
  rintro e w3 ⟨rfl, rfl⟩
  go_wp2_with fail
  refine (memRatio_no _ _ _ _ _ _ _).mono ?_
  rintro e w4 ⟨r, rfl, hq, hb4⟩
  go_wp2_with fail
  go_ret
  exact ⟨r, rfl, hq, below_trans hb0 (below_trans hb1 (below_trans (below_alloc _ _) (below_trans (below_alloc _ _) hb4)))⟩

end Go.Proofs.Qxb6618301a
