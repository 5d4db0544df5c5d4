/-
  THE WALKS OF 'zzWantRatio' AND OF 'FnMemoryRatioIsMeanOverMeanInAnyOrder'.
-/
import Derived.Test.Qxb6618301aScale
namespace Go.Proofs.Qxb6618301a
open Go.RowKit
open Fl (FRes IsNaN Rep fl same TWO ONE INF MAXM)
attribute [local go_sem] run_store_float

theorem want_no (n S p T : Int) (w : World) :
    Calls Try.prog 10 #[.bool false, .int .i64 n, .int .i64 S, .int .i64 p, .int .i64 T] w fun e w' => ∃ r, e = .returned (.float .f64 r) ∧ IsNaN r ∧ Below w.heap.size w w' := by
  go_enter Try.func10, Try.ntmps10
  go_wp2_with (go_at_call 14; refine (nan_any _).mono ?_; rintro e w' ⟨r, rfl, hr, rfl⟩)
  go_ret
  exact ⟨_, rfl, by assumption, (Below.refl _ _).drew⟩

set_option maxHeartbeats 1000000 in
theorem want_yes (n S p T : Nat) (w : World) :
    Calls Try.prog 10 #[.bool true, .int .i64 (n : Int), .int .i64 (S : Int), .int .i64 (p : Int), .int .i64 (T : Int)] w fun e w' => ∃ r, e = .returned (.float .f64 r) ∧ Fl.Want S n T p r ∧ Below w.heap.size w w' := by
  by_cases hn : n = 0
  · subst hn
    go_enter Try.func10, Try.ntmps10
    go_wp2_with (go_at_call 14; refine (nan_any _).mono ?_; rintro e w' ⟨r, rfl, hr, rfl⟩)
    go_ret
    exact ⟨_, rfl, ⟨fun _ => by assumption, fun h => absurd rfl h, fun h => absurd rfl h, fun h => absurd rfl h⟩, (Below.refl _ _).drew⟩
  have hn' : ((n : Int) == 0) = false := by simp; omega
  by_cases hp : p = 0
  · subst hp
    clear hn
    go_enter Try.func10, Try.ntmps10
    go_wp2_with (go_at_call 14; refine (nan_any _).mono ?_; rintro e w' ⟨r, rfl, hr, rfl⟩)
    go_ret
    exact ⟨_, rfl, ⟨fun _ => by assumption, fun _ h => absurd rfl h, fun _ h => absurd rfl h, fun _ h => absurd rfl h⟩, (Below.refl _ _).drew⟩
  have hp' : ((p : Int) == 0) = false := by simp; omega
  by_cases hT : T = 0
  · subst hT
    by_cases hS : S = 0
    · subst hS
      have HN : Hid (¬ n = 0) := hn
      have HP : Hid (¬ p = 0) := hp
      clear hn hp
      go_enter Try.func10, Try.ntmps10
      go_wp2_with (go_at_call 14; refine (nan_any _).mono ?_; rintro e w' ⟨r, rfl, hr, rfl⟩)
      go_ret
      exact ⟨_, rfl, ⟨fun _ => by assumption, fun _ _ _ _ => by assumption, fun _ _ _ h => absurd rfl h, fun _ _ h => absurd rfl h⟩, (Below.refl _ _).drew⟩
    · have hS' : ((S : Int) == 0) = false := by simp; omega
      have HN : Hid (¬ n = 0) := hn
      have HP : Hid (¬ p = 0) := hp
      have HS : Hid (¬ S = 0) := hS
      clear hn hp hS
      go_enter Try.func10, Try.ntmps10
      go_wp2_with (go_at_call 18; refine (inf_any _).mono ?_; rintro e w' ⟨rfl, rfl⟩)
      go_ret
      exact ⟨_, rfl, ⟨fun h => absurd h (by have := HN.out; have := HP.out; omega), fun _ _ _ h => absurd h HS.out, fun _ _ _ _ => rfl, fun _ _ h => absurd rfl h⟩, Below.refl _ _⟩
  · have hT' : ((T : Int) == 0) = false := by simp; omega
    have HN : Hid (¬ n = 0) := hn
    have HP : Hid (¬ p = 0) := hp
    have HT : Hid (¬ T = 0) := hT
    clear hn hp hT
    have hquo := run_quo
    go_enter Try.func10, Try.ntmps10
    go_wp2_with fail
    go_ret
    refine ⟨_, rfl, ⟨fun h => absurd h (by have := HN.out; have := HP.out; omega), fun _ _ h => absurd h HT.out, fun _ _ h => absurd h HT.out, fun _ _ _ => ⟨_, _, ?_, ?_, quoV_res _ _ _⟩⟩, quoW_below _ _ (quoW_below _ _ (quoW_below _ _ (Below.refl _ _)))⟩
    · unfold Fl.Mean; rw [← Fl.floatOfInt_nat, ← Fl.floatOfInt_nat]; exact quoV_res _ _ _
    · unfold Fl.Mean; rw [← Fl.floatOfInt_nat, ← Fl.floatOfInt_nat]; exact quoV_res _ _ _

theorem mean_out (a0 a1 a2 a3 : Option Addr) (l0 c0 l1 c1 l2 c2 l3 c3 : Nat) (m : Bool) (w : World) (h : 4096 < l0 ∨ 4096 < l1 ∨ 4096 < l2 ∨ 4096 < l3 ∨ l0 ≠ l1 ∨ l2 ≠ l3) :
    Calls Try.prog 3 #[.slice a0 l0 c0, .slice a1 l1 c1, .slice a2 l2 c2, .slice a3 l3 c3, .bool m] w fun e w' => e = .returned (.bool true) ∧ Below w.heap.size w w' := by
  by_cases g0 : 4096 < l0
  · clear h
    go_enter Try.func3, Try.ntmps3
    go_wp2_with fail
    refine (bytes5_any _ _ _ _ _ _ _ _ _ _ _ _ _ _).mono ?_
    rintro e w' ⟨⟨b, rfl⟩, rfl⟩
    cases b <;> (go_wp2; go_ret; exact ⟨rfl, Below.refl _ _⟩)
  by_cases g1 : 4096 < l1
  · clear h
    go_enter Try.func3, Try.ntmps3
    go_wp2_with fail
    refine (bytes5_any _ _ _ _ _ _ _ _ _ _ _ _ _ _).mono ?_
    rintro e w' ⟨⟨b, rfl⟩, rfl⟩
    cases b <;> (go_wp2; go_ret; exact ⟨rfl, Below.refl _ _⟩)
  by_cases g2 : 4096 < l2
  · clear h
    go_enter Try.func3, Try.ntmps3
    go_wp2_with fail
    refine (bytes5_any _ _ _ _ _ _ _ _ _ _ _ _ _ _).mono ?_
    rintro e w' ⟨⟨b, rfl⟩, rfl⟩
    cases b <;> (go_wp2; go_ret; exact ⟨rfl, Below.refl _ _⟩)
  by_cases g3 : 4096 < l3
  · clear h
    go_enter Try.func3, Try.ntmps3
    go_wp2_with fail
    refine (bytes5_any _ _ _ _ _ _ _ _ _ _ _ _ _ _).mono ?_
    rintro e w' ⟨⟨b, rfl⟩, rfl⟩
    cases b <;> (go_wp2; go_ret; exact ⟨rfl, Below.refl _ _⟩)
  by_cases g4 : l0 = l1
  · subst g4
    have g5 : ((l2 : Int) != (l3 : Int)) = true := by simp; omega
    clear h
    go_enter Try.func3, Try.ntmps3
    go_wp2_with fail
    refine (bytes5_any _ _ _ _ _ _ _ _ _ _ _ _ _ _).mono ?_
    rintro e w' ⟨⟨b, rfl⟩, rfl⟩
    cases b <;> (go_wp2; go_ret; exact ⟨rfl, Below.refl _ _⟩)
  · have g5 : ((l0 : Int) != (l1 : Int)) = true := by simp; omega
    clear h
    go_enter Try.func3, Try.ntmps3
    go_wp2_with fail
    refine (bytes5_any _ _ _ _ _ _ _ _ _ _ _ _ _ _).mono ?_
    rintro e w' ⟨⟨b, rfl⟩, rfl⟩
    cases b <;> (go_wp2; go_ret; exact ⟨rfl, Below.refl _ _⟩)

theorem sum_rev (ks : List Nat) : ks.reverse.sum = ks.sum := by
  induction ks with
  | nil => rfl
  | cons a l ih => simp only [List.reverse_cons, List.sum_append, ih, List.sum_cons, List.sum_nil]; omega
theorem reps_rev {fs ks : List Nat} (h : Reps fs ks) : Reps fs.reverse ks.reverse := by
  obtain ⟨h1, h2⟩ := h
  refine ⟨by simpa using h1, fun i hi => ?_⟩
  simp at hi
  rw [List.getD_eq_getElem?_getD, List.getD_eq_getElem?_getD, List.getElem?_reverse hi, List.getElem?_reverse (by omega), ← h1]
  have := h2 (fs.length - 1 - i) (by omega)
  rw [List.getD_eq_getElem?_getD, List.getD_eq_getElem?_getD] at this
  exact this

set_option maxHeartbeats 2000000 in
theorem mean_no (a0 a1 a2 a3 : Option Addr) (l0 c0 c1 l2 c2 c3 : Nat) (fs gs : List Nat) (w : World) (h0 : IRow w a0 l0) (h1 : FRow w a1 l0 fs) (hl0 : l0 ≤ 4096) (h2 : IRow w a2 l2) (h3 : FRow w a3 l2 gs) (hl2 : l2 ≤ 4096) :
    Calls Try.prog 3 #[.slice a0 l0 c0, .slice a1 l0 c1, .slice a2 l2 c2, .slice a3 l2 c3, .bool false] w fun e w' => e = .returned (.bool true) ∧ Below w.heap.size w w' := by
  go_enter Try.func3, Try.ntmps3
  go_wp2_with fail
  refine (bytes5_any _ _ _ _ _ _ _ _ _ _ _ _ _ _).mono ?_
  rintro e w' ⟨⟨b, rfl⟩, rfl⟩
  cases b
  · go_wp2; go_ret; exact ⟨rfl, Below.refl _ _⟩
  go_wp2_with fail
  refine (integral_any a1 l0 c1 fs _ h1 hl0).mono ?_
  rintro e w1 ⟨⟨s, rfl⟩ | ⟨ks, hw0, rfl⟩, rfl⟩
  · go_wp2; go_ret; exact ⟨rfl, Below.refl _ _⟩
  go_wp2_with fail
  refine (integral_any a3 l2 c3 gs _ h3 hl2).mono ?_
  rintro e w1 ⟨⟨s, rfl⟩ | ⟨js, hw1, rfl⟩, rfl⟩
  · go_wp2; go_ret; exact ⟨rfl, Below.refl _ _⟩
  go_wp2_with fail
  refine (ratio_no a0 a1 a2 a3 l0 c0 c1 l2 c2 c3 fs gs _ h0 h1 hl0 h2 h3 hl2).mono ?_
  rintro e u0 ⟨r0, rfl, n0, b0⟩
  go_wp2_with fail
  refine (revTimes_any a0 l0 c0 _ (irow_below h0 b0) hl0).mono ?_
  rintro e u1 ⟨rfl, hi1, b1⟩
  have b1' := below_trans b0 b1
  go_wp2_with fail
  refine (revMems_any a1 l0 c1 fs _ (frow_below h1 b1') hl0).mono ?_
  rintro e u2 ⟨rfl, hf2, b2⟩
  have b2' := below_trans b1' b2
  go_wp2_with fail
  refine (revTimes_any a2 l2 c2 _ (irow_below h2 b2') hl2).mono ?_
  rintro e u3 ⟨rfl, hi3, b3⟩
  have b3' := below_trans b2' b3
  go_wp2_with fail
  refine (revMems_any a3 l2 c3 gs _ (frow_below h3 b3') hl2).mono ?_
  rintro e u4 ⟨rfl, hf4, b4⟩
  have b4' := below_trans b3' b4
  go_wp2_with fail
  refine (ratio_no _ _ _ _ l0 _ _ l2 _ _ fs.reverse gs.reverse _ (irow_below hi1 (below_trans b2 (below_trans b3 b4))) (frow_below hf2 (below_trans b3 b4)) hl0 (irow_below hi3 b4) hf4 hl2).mono ?_
  rintro e u5 ⟨r1, rfl, n1, b5⟩
  have b5' := below_trans b4' b5
  go_wp2_with fail
  refine (want_no _ _ _ _ _).mono ?_
  rintro e u6 ⟨r2, rfl, n2, b6⟩
  have b6' := below_trans b5' b6
  have L1 := Fl.same_nan n0 n2
  have L2 := Fl.same_nan n1 n2
  clear h0 h1 h2 h3 hw0 hw1 hi1 hf2 hi3 hf4 n0 n1 n2 b0 b1 b1' b2 b2' b3 b3' b4 b4' b5 b5' b6
  go_wp2_with (go_at_call 11; refine (same_any _ _ _).mono ?_; rintro e w' ⟨rfl, rfl⟩)
  go_ret
  exact ⟨rfl, b6'⟩

set_option maxHeartbeats 2000000 in
theorem mean_yes (a0 a1 a2 a3 : Option Addr) (l0 c0 c1 l2 c2 c3 : Nat) (fs gs : List Nat) (w : World) (h0 : IRow w a0 l0) (h1 : FRow w a1 l0 fs) (hl0 : l0 ≤ 4096) (h2 : IRow w a2 l2) (h3 : FRow w a3 l2 gs) (hl2 : l2 ≤ 4096) :
    Calls Try.prog 3 #[.slice a0 l0 c0, .slice a1 l0 c1, .slice a2 l2 c2, .slice a3 l2 c3, .bool true] w fun e w' => e = .returned (.bool true) ∧ Below w.heap.size w w' := by
  go_enter Try.func3, Try.ntmps3
  go_wp2_with fail
  refine (bytes5_any _ _ _ _ _ _ _ _ _ _ _ _ _ _).mono ?_
  rintro e w' ⟨⟨b, rfl⟩, rfl⟩
  cases b
  · go_wp2; go_ret; exact ⟨rfl, Below.refl _ _⟩
  go_wp2_with fail
  refine (integral_any a1 l0 c1 fs _ h1 hl0).mono ?_
  rintro e w1 ⟨⟨s, rfl⟩ | ⟨ks, hw0, rfl⟩, rfl⟩
  · go_wp2; go_ret; exact ⟨rfl, Below.refl _ _⟩
  go_wp2_with fail
  refine (integral_any a3 l2 c3 gs _ h3 hl2).mono ?_
  rintro e w1 ⟨⟨s, rfl⟩ | ⟨js, hw1, rfl⟩, rfl⟩
  · go_wp2; go_ret; exact ⟨rfl, Below.refl _ _⟩
  have s0 := whole_sum hw0 h1.1 hl0
  have s1 := whole_sum hw1 h3.1 hl2
  have q0 : Hid (ks.reverse.sum = ks.sum) := sum_rev ks
  have q1 : Hid (js.reverse.sum = js.sum) := sum_rev js
  go_wp2_with fail
  refine (ratio_yes a0 a1 a2 a3 l0 c0 c1 l2 c2 c3 fs ks gs js _ h0 h1 hl0 (whole_reps hw0) (by omega) h2 h3 hl2 (whole_reps hw1) (by omega)).mono ?_
  rintro e u0 ⟨r0, rfl, n0, b0⟩
  go_wp2_with fail
  refine (revTimes_any a0 l0 c0 _ (irow_below h0 b0) hl0).mono ?_
  rintro e u1 ⟨rfl, hi1, b1⟩
  have b1' := below_trans b0 b1
  go_wp2_with fail
  refine (revMems_any a1 l0 c1 fs _ (frow_below h1 b1') hl0).mono ?_
  rintro e u2 ⟨rfl, hf2, b2⟩
  have b2' := below_trans b1' b2
  go_wp2_with fail
  refine (revTimes_any a2 l2 c2 _ (irow_below h2 b2') hl2).mono ?_
  rintro e u3 ⟨rfl, hi3, b3⟩
  have b3' := below_trans b2' b3
  go_wp2_with fail
  refine (revMems_any a3 l2 c3 gs _ (frow_below h3 b3') hl2).mono ?_
  rintro e u4 ⟨rfl, hf4, b4⟩
  have b4' := below_trans b3' b4
  go_wp2_with fail
  refine (ratio_yes _ _ _ _ l0 _ _ l2 _ _ fs.reverse ks.reverse gs.reverse js.reverse _ (irow_below hi1 (below_trans b2 (below_trans b3 b4))) (frow_below hf2 (below_trans b3 b4)) hl0 (reps_rev (whole_reps hw0)) (by rw [q0.out]; omega) (irow_below hi3 b4) hf4 hl2 (reps_rev (whole_reps hw1)) (by rw [q1.out]; omega)).mono ?_
  rintro e u5 ⟨r1, rfl, n1, b5⟩
  have b5' := below_trans b4' b5
  go_wp2_with fail
  refine (want_yes _ _ _ _ _).mono ?_
  rintro e u6 ⟨r2, rfl, n2, b6⟩
  have b6' := below_trans b5' b6
  rw [q0.out, q1.out] at n1
  have L1 := Fl.law_want _ _ _ _ _ _ (by omega) hl0 s0.2 (by omega) hl2 s1.2 n0 n2
  have L2 := Fl.law_want _ _ _ _ _ _ (by omega) hl0 s0.2 (by omega) hl2 s1.2 n1 n2
  clear h0 h1 h2 h3 hw0 hw1 hi1 hf2 hi3 hf4 n0 n1 n2 b0 b1 b1' b2 b2' b3 b3' b4 b4' b5 b5' b6
  go_wp2_with (go_at_call 11; refine (same_any _ _ _).mono ?_; rintro e w' ⟨rfl, rfl⟩)
  go_ret
  exact ⟨rfl, b6'⟩

end Go.Proofs.Qxb6618301a
