/-
  'Rows.FnMemoryRatioIsMeanOverMeanInAnyOrderSaid', PROVED.
-/
import Derived.Test.Qxb6618301aOpen
import Derived.Test.Qxb6618301aMean
namespace Go.Proofs.Qxb6618301a
open Go.ChangeShapes Go.WideShapes Go.ChangeAt Go.RowKit

theorem mean_walk (a0 a1 a2 a3 : Option Addr) (l0 c0 l1 c1 l2 c2 l3 c3 : Nat) (m : Bool) (fs gs : List Nat) (w : World) (h0 : IRow w a0 l0) (h1 : FRow w a1 l1 fs) (h2 : IRow w a2 l2) (h3 : FRow w a3 l3 gs) :
    Calls Try.prog 3 #[.slice a0 l0 c0, .slice a1 l1 c1, .slice a2 l2 c2, .slice a3 l3 c3, .bool m] w fun e w' => e = .returned (.bool true) ∧ Below w.heap.size w w' := by
  by_cases h : 4096 < l0 ∨ 4096 < l1 ∨ 4096 < l2 ∨ 4096 < l3 ∨ l0 ≠ l1 ∨ l2 ≠ l3
  · exact mean_out a0 a1 a2 a3 l0 c0 l1 c1 l2 c2 l3 c3 m w h
  · obtain rfl : l0 = l1 := by omega
    obtain rfl : l2 = l3 := by omega
    cases m
    · exact mean_no a0 a1 a2 a3 l0 c0 c1 l2 c2 c3 fs gs w h0 h1 (by omega) h2 h3 (by omega)
    · exact mean_yes a0 a1 a2 a3 l0 c0 c1 l2 c2 c3 fs gs w h0 h1 (by omega) h2 h3 (by omega)

set_option maxRecDepth 100000 in
theorem mean_lifted (os : Os) (started : os.Started) (H : Type) (enc : TypeId × Value → H) :
    ReturnsInHanded {} Try.checked os 3 .any (Rows.fnMemoryRatioIsMeanOverMeanInAnyOrderSpec.pre6 enc Try.prog Try.f3 Rows.fnMemoryRatioIsMeanOverMeanInAnyOrderRow.domain false) (Rows.fnMemoryRatioIsMeanOverMeanInAnyOrderSpec.post enc Try.prog Try.f3 false true false false) := by
  refine returnsInHanded_of_change (C := Try.checked) own started (by kernel_rfl) Try.func3
    (ChangeSpec.witness6 (enc := enc) (C := Try.checked) false ⟨#[], #[.slice none 0 0, .slice none 0 0, .slice none 0 0, .slice none 0 0, .bool false], []⟩ 8 (by kernel_rfl) (by kernel_rfl) (by kernel_rfl) (by kernel_rfl)) ?_
  intro W base args ds gs before hval0 hW hcnd _
  have hval : ∀ (j : Nat) t v, Try.f3.params[j]? = some t → args[j]? = some v → Value.okWide Try.prog W .any base t v := hval0
  have hW' := hW
  obtain ⟨p, q, hA0, hV, rfl, hfz, hnd⟩ := hW
  have hA : DataW.TrodAll enc Try.prog W 0 (fun _ => true) true Try.f3.params.toList args.toList ds p := hA0
  rw [Try.params3] at hA hval
  obtain ⟨v0, vs0, d0, ds0, p0, q0, hargs, rfl, rfl, h0, r0⟩ := trodAll_cons hA
  obtain ⟨v1, vs1, d1, ds1, p1, q1, rfl, rfl, rfl, h1, r1⟩ := trodAll_cons r0
  obtain ⟨v2, vs2, d2, ds2, p2, q2, rfl, rfl, rfl, h2, r2⟩ := trodAll_cons r1
  obtain ⟨v3, vs3, d3, ds3, p3, q3, rfl, rfl, rfl, h3, r3⟩ := trodAll_cons r2
  obtain ⟨v4, vs4, d4, ds4, p4, q4, rfl, rfl, rfl, h4, r4⟩ := trodAll_cons r3
  obtain ⟨rfl, rfl, rfl⟩ := trodAll_nil r4
  obtain rfl : args = #[v0, v1, v2, v3, v4] := by cases args; simp_all
  obtain ⟨rfl, rfl⟩ := trodVars_none hV
  obtain ⟨a0, len0, cap0, rfl⟩ := okWide_slice Try.underlying22 (hval 0 22 v0 rfl rfl)
  obtain ⟨a1, len1, cap1, rfl⟩ := okWide_slice Try.underlying23 (hval 1 23 v1 rfl rfl)
  obtain ⟨a2, len2, cap2, rfl⟩ := okWide_slice Try.underlying22 (hval 2 22 v2 rfl rfl)
  obtain ⟨a3, len3, cap3, rfl⟩ := okWide_slice Try.underlying23 (hval 3 23 v3 rfl rfl)
  obtain ⟨a4, rfl, rfl, rfl⟩ := open_bool Try.underlying4 (hval 4 4 v4 rfl rfl) h4
  have k0 := h0
  have k1 := h1
  have k2 := h2
  have k3 := h3
  have lt0 : ∀ x ∈ p0, x.block < W.heap.size := by obtain ⟨m, hm⟩ := k0; exact DataW.trod_lt m _ _ _ hm
  have lt1 : ∀ x ∈ p1, x.block < W.heap.size := by obtain ⟨m, hm⟩ := k1; exact DataW.trod_lt m _ _ _ hm
  have lt2 : ∀ x ∈ p2, x.block < W.heap.size := by obtain ⟨m, hm⟩ := k2; exact DataW.trod_lt m _ _ _ hm
  have lt3 : ∀ x ∈ p3, x.block < W.heap.size := by obtain ⟨m, hm⟩ := k3; exact DataW.trod_lt m _ _ _ hm
  have i0 : IRow W a0 len0 := by obtain ⟨fuel, hf⟩ := h0; exact open_irow hf
  obtain ⟨fs, i1⟩ : ∃ fs, FRow W a1 len1 fs := by obtain ⟨fuel, hf⟩ := h1; exact open_frow hf
  have i2 : IRow W a2 len2 := by obtain ⟨fuel, hf⟩ := h2; exact open_irow hf
  obtain ⟨gs', i3⟩ : ∃ fs, FRow W a3 len3 fs := by obtain ⟨fuel, hf⟩ := h3; exact open_frow hf
  clear hA0 hval0
  refine (mean_walk a0 a1 a2 a3 len0 cap0 len1 cap1 len2 cap2 len3 cap3 a4 fs gs' W i0 i1 i2 i3).mono fun e W' ⟨he, bel⟩ => ?_
  subst he
  exact ⟨_, rfl, _, _, _, [], _, [], hW', trodAll_mk1 (shut_bool Try.underlying4 _),
    (trodAll_cons_mk (Below.trod laidOut (by kernel_rfl) (of_decide_eq_true (by kernel_rfl)) k0 bel lt0) (trodAll_cons_mk (Below.trod laidOut (by kernel_rfl) (of_decide_eq_true (by kernel_rfl)) k1 bel lt1)
      (trodAll_cons_mk (Below.trod laidOut (by kernel_rfl) (of_decide_eq_true (by kernel_rfl)) k2 bel lt2) (trodAll_cons_mk (Below.trod laidOut (by kernel_rfl) (of_decide_eq_true (by kernel_rfl)) k3 bel lt3)
        (trodAll_cons_mk (shut_bool Try.underlying4 _) trodAll_mk0))))), rfl, bel.frame _, fun h => by cases h⟩

theorem mean_over : Rows.fnMemoryRatioIsMeanOverMeanInAnyOrderRow.holds Try.pinned (OpenSpec.ofChange Rows.fnMemoryRatioIsMeanOverMeanInAnyOrderSpec) :=
  OpenClaim.holds_of_wide 3 Try.f3 rfl rfl rfl rfl rfl rfl rfl ⟨rfl, rfl, rfl, rfl, rfl⟩ rfl rfl rfl rfl rfl (by kernel_rfl) Try.func3 (by kernel_rfl)
    (of_decide_eq_true (by kernel_rfl)) (by unfold Func.isWrapper; first | (rw [if_pos (by decide +kernel)]; kernel_rfl) | (rw [if_neg (by decide +kernel)]; exact ⟨rfl, rfl⟩))
    (fun os started H enc _ => mean_lifted os started H enc)

/-- THE STATEMENT. -/
theorem mean_proved : Rows.FnMemoryRatioIsMeanOverMeanInAnyOrderSaid := mean_over
end Go.Proofs.Qxb6618301a
