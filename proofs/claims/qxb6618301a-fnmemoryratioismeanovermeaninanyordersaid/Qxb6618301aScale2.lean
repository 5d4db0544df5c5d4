/-
  THE WALK OF 'FnMemoryRatioScalesWithEachSideAndSelfIsOne', where the lengths fit.
-/
import Derived.Test.Qxb6618301aScale
namespace Go.Proofs.Qxb6618301a
open Go.RowKit
open Fl (FRes IsNaN Rep fl same TWO ONE INF MAXM)
attribute [local go_sem] run_store_float

set_option maxHeartbeats 1000000 in
theorem scale_no (a0 a1 a2 a3 : Option Addr) (l0 c0 c1 l2 c2 c3 : Nat) (fs gs : List Nat) (w : World) (h0 : IRow w a0 l0) (h1 : FRow w a1 l0 fs) (hl0 : l0 ≤ 4096) (h2 : IRow w a2 l2) (h3 : FRow w a3 l2 gs) (hl2 : l2 ≤ 4096) :
    Calls Try.prog 4 #[.slice a0 l0 c0, .slice a1 l0 c1, .slice a2 l2 c2, .slice a3 l2 c3, .bool false] w fun e w' => e = .returned (.bool true) ∧ Below w.heap.size w w' := by
  go_enter Try.func4, Try.ntmps4
  go_wp2_with fail
  refine (bytes12_any _ _ _ _ _ _ _ _ _ _ _ _ _ _).mono ?_
  rintro e w' ⟨⟨b, rfl⟩, rfl⟩
  cases b
  · go_wp2; go_ret; exact ⟨rfl, Below.refl _ _⟩
  go_wp2_with fail
  refine (integral_any a1 l0 c1 fs _ h1 hl0).mono ?_
  rintro e w1 ⟨⟨s, rfl⟩ | ⟨ks, hw0, rfl⟩, rfl⟩
  · go_wp2; go_ret; exact ⟨rfl, Below.refl _ _⟩
  go_wp2_with fail
  refine (integral_any a3 l2 c3 gs _ h3 hl2).mono ?_
  rintro e w1 ⟨⟨s, rfl⟩ | ⟨js, hw1, rfl⟩, rfl⟩
  · go_wp2; go_ret; exact ⟨rfl, Below.refl _ _⟩
  go_wp2_with fail
  refine (ratio_no a0 a1 a2 a3 l0 c0 c1 l2 c2 c3 fs gs _ h0 h1 hl0 h2 h3 hl2).mono ?_
  rintro e u0 ⟨r0, rfl, n0, b0⟩
  go_wp2_with fail
  refine (doubled_any a1 l0 c1 fs ks _ (frow_below h1 b0) hl0 hw0).mono ?_
  rintro e u1 ⟨rfl, hf1, b1⟩
  have b1' := below_trans b0 b1
  go_wp2_with fail
  refine (ratio_no a0 _ a2 a3 l0 c0 _ l2 c2 c3 _ gs _ (irow_below h0 b1') hf1 hl0 (irow_below h2 b1') (frow_below h3 b1') hl2).mono ?_
  rintro e u2 ⟨r1, rfl, n1, b2⟩
  have b2' := below_trans b1' b2
  go_wp2_with fail
  refine (doubled_any a3 l2 c3 gs js _ (frow_below h3 b2') hl2 hw1).mono ?_
  rintro e u3 ⟨rfl, hf3, b3⟩
  have b3' := below_trans b2' b3
  go_wp2_with fail
  refine (ratio_no a0 a1 a2 _ l0 c0 c1 l2 c2 _ fs _ _ (irow_below h0 b3') (frow_below h1 b3') hl0 (irow_below h2 b3') hf3 hl2).mono ?_
  rintro e u4 ⟨r2, rfl, n2, b4⟩
  have b4' := below_trans b3' b4
  go_wp2_with fail
  refine (ratio_no a0 a1 a0 a1 l0 c0 c1 l0 c0 c1 fs fs _ (irow_below h0 b4') (frow_below h1 b4') hl0 (irow_below h0 b4') (frow_below h1 b4') hl0).mono ?_
  rintro e u5 ⟨r3, rfl, n3, b5⟩
  have b5' := below_trans b4' b5
  have o0 : FloatKind.f64.format.order r0 r0 = none := Fl.order_nan n0 r0
  have o1 : FloatKind.f64.format.order r1 r1 = none := Fl.order_nan n1 r1
  have o2 : FloatKind.f64.format.order r2 r2 = none := Fl.order_nan n2 r2
  have o3 : FloatKind.f64.format.order r3 r3 = none := Fl.order_nan n3 r3
  go_wp2
  go_ret
  exact ⟨rfl, b5'⟩

theorem ite_self (n S : Nat) (nan : Nat) (hnan : IsNaN nan) (r : Nat) (hS : S ≤ 4503599627370496) (hn : n ≤ 4096) (h0 : n = 0 → S = 0) (g : Fl.Ratio S n S n r) :
    (0 < n → 0 < S → same r 4607182418800017408 = true) ∧ (¬ (0 < n ∧ 0 < S) → same r nan = true) :=
  ⟨fun a b => (Fl.law_self S n r hS hn h0 g).1 ⟨a, b⟩, fun h => (Fl.law_self S n r hS hn h0 g).2 h nan hnan⟩

set_option maxHeartbeats 2000000 in
theorem scale_yes (a0 a1 a2 a3 : Option Addr) (l0 c0 c1 l2 c2 c3 : Nat) (fs gs : List Nat) (w : World) (h0 : IRow w a0 l0) (h1 : FRow w a1 l0 fs) (hl0 : l0 ≤ 4096) (h2 : IRow w a2 l2) (h3 : FRow w a3 l2 gs) (hl2 : l2 ≤ 4096) :
    Calls Try.prog 4 #[.slice a0 l0 c0, .slice a1 l0 c1, .slice a2 l2 c2, .slice a3 l2 c3, .bool true] w fun e w' => e = .returned (.bool true) ∧ Below w.heap.size w w' := by
  go_enter Try.func4, Try.ntmps4
  go_wp2_with fail
  refine (bytes12_any _ _ _ _ _ _ _ _ _ _ _ _ _ _).mono ?_
  rintro e w' ⟨⟨b, rfl⟩, rfl⟩
  cases b
  · go_wp2; go_ret; exact ⟨rfl, Below.refl _ _⟩
  go_wp2_with fail
  refine (integral_any a1 l0 c1 fs _ h1 hl0).mono ?_
  rintro e w1 ⟨⟨s, rfl⟩ | ⟨ks, hw0, rfl⟩, rfl⟩
  · go_wp2; go_ret; exact ⟨rfl, Below.refl _ _⟩
  go_wp2_with fail
  refine (integral_any a3 l2 c3 gs _ h3 hl2).mono ?_
  rintro e w1 ⟨⟨s, rfl⟩ | ⟨js, hw1, rfl⟩, rfl⟩
  · go_wp2; go_ret; exact ⟨rfl, Below.refl _ _⟩
  have s0 := whole_sum hw0 h1.1 hl0
  have s1 := whole_sum hw1 h3.1 hl2
  have d0 := double_sum ks
  have d1 := double_sum js
  have D0 : Hid ((ks.map (2 * ·)).sum = 2 * ks.sum) := d0
  have D1 : Hid ((js.map (2 * ·)).sum = 2 * js.sum) := d1
  clear d0 d1
  go_wp2_with fail
  refine (ratio_yes a0 a1 a2 a3 l0 c0 c1 l2 c2 c3 fs ks gs js _ h0 h1 hl0 (whole_reps hw0) (by omega) h2 h3 hl2 (whole_reps hw1) (by omega)).mono ?_
  rintro e u0 ⟨r0, rfl, n0, b0⟩
  go_wp2_with fail
  refine (doubled_any a1 l0 c1 fs ks _ (frow_below h1 b0) hl0 hw0).mono ?_
  rintro e u1 ⟨rfl, hf1, b1⟩
  have b1' := below_trans b0 b1
  go_wp2_with fail
  refine (ratio_yes a0 _ a2 a3 l0 c0 _ l2 c2 c3 _ (ks.map (2 * ·)) gs js _ (irow_below h0 b1') hf1 hl0 (double_reps hw0) (by rw [D0.out]; omega) (irow_below h2 b1') (frow_below h3 b1') hl2 (whole_reps hw1) (by omega)).mono ?_
  rintro e u2 ⟨r1, rfl, n1, b2⟩
  have b2' := below_trans b1' b2
  go_wp2_with fail
  refine (doubled_any a3 l2 c3 gs js _ (frow_below h3 b2') hl2 hw1).mono ?_
  rintro e u3 ⟨rfl, hf3, b3⟩
  have b3' := below_trans b2' b3
  go_wp2_with fail
  refine (ratio_yes a0 a1 a2 _ l0 c0 c1 l2 c2 _ fs ks _ (js.map (2 * ·)) _ (irow_below h0 b3') (frow_below h1 b3') hl0 (whole_reps hw0) (by omega) (irow_below h2 b3') hf3 hl2 (double_reps hw1) (by rw [D1.out]; omega)).mono ?_
  rintro e u4 ⟨r2, rfl, n2, b4⟩
  have b4' := below_trans b3' b4
  go_wp2_with fail
  refine (ratio_yes a0 a1 a0 a1 l0 c0 c1 l0 c0 c1 fs ks fs ks _ (irow_below h0 b4') (frow_below h1 b4') hl0 (whole_reps hw0) (by omega) (irow_below h0 b4') (frow_below h1 b4') hl0 (whole_reps hw0) (by omega)).mono ?_
  rintro e u5 ⟨r3, rfl, n3, b5⟩
  have b5' := below_trans b4' b5
  go_wp2_with fail
  refine (nan_any _).mono ?_
  rintro e u6 ⟨q, rfl, hq, rfl⟩
  rw [D0.out] at n1
  rw [D1.out] at n2
  have L1 := fun W => Fl.law_double _ _ _ _ _ _ (mulV 4611686018427387904 r0 W) s0.1 hl0 s0.2 s1.1 hl2 s1.2 n0 n1 (mulV_res _ _ _)
  have L2 := fun W => Fl.law_half _ _ _ _ _ _ (quoV r0 4611686018427387904 W) s0.1 hl0 s0.2 s1.1 hl2 s1.2 n0 n2 (quoV_res _ _ _)
  have L3 := ite_self l0 ks.sum q hq r3 s0.1 hl0 s0.2 n3
  have hmul := run_mul
  have hquo := run_quo
  generalize ks.sum = S at *
  by_cases hc : 0 < l0
  · by_cases hS : 0 < S
    · have L3' := L3.1 hc hS
      clear L3 h0 h1 h2 h3 hf1 hf3 hw0 hw1 D0 D1 n0 n1 n2 n3 s0 s1 b0 b1 b1' b2 b2' b3 b3' b4 b4' b5 hq
      go_wp2_with (go_at_call 11; refine (same_any _ _ _).mono ?_; rintro e w' ⟨rfl, rfl⟩)
      go_ret
      exact ⟨rfl, quoW_below _ _ (mulW_below _ _ b5'.drew)⟩
    · have L3' := L3.2 (by omega)
      clear L3 h0 h1 h2 h3 hf1 hf3 hw0 hw1 D0 D1 n0 n1 n2 n3 s0 s1 b0 b1 b1' b2 b2' b3 b3' b4 b4' b5 hq
      go_wp2_with (go_at_call 11; refine (same_any _ _ _).mono ?_; rintro e w' ⟨rfl, rfl⟩)
      go_ret
      exact ⟨rfl, quoW_below _ _ (mulW_below _ _ b5'.drew)⟩
  · have L3' := L3.2 (by omega)
    clear L3 h0 h1 h2 h3 hf1 hf3 hw0 hw1 D0 D1 n0 n1 n2 n3 s0 s1 b0 b1 b1' b2 b2' b3 b3' b4 b4' b5 hq
    go_wp2_with (go_at_call 11; refine (same_any _ _ _).mono ?_; rintro e w' ⟨rfl, rfl⟩)
    go_ret
    exact ⟨rfl, quoW_below _ _ (mulW_below _ _ b5'.drew)⟩

end Go.Proofs.Qxb6618301a
