/-
  THE WALK OF 'FnNumberReadsLongestViablePrefix'.
-/
import Derived.Test.Qxb6618907aParts
namespace Go.Proofs.Qxb6618907a
open Go.RowKit

theorem longest_out (a : Option Addr) (len cap : Nat) (i dep : Int) (nt : ByteArray) (w : World) (hn : nt.size ≤ maxLen) (h : 1048576 < len ∨ (1048576 : Int) - len < nt.size ∨ i < 0) :
    Calls Try.prog 3 #[.slice a len cap, .int .i64 i, .int .i64 dep, .string nt] w fun e w' => e = .returned (.bool true) ∧ Below w.heap.size w w' := by
  by_cases g0 : 1048576 < len
  · clear h
    go_enter Try.func3, Try.ntmps3
    go_wp2_with fail
    refine (bytes5_any _ _ _ _ _ _ _ hn).mono ?_
    rintro e w' ⟨⟨b, rfl⟩, rfl⟩
    cases b <;> (go_wp2; go_ret; exact ⟨rfl, Below.refl _ _⟩)
  by_cases g1 : (1048576 : Int) - len < nt.size
  · clear h
    go_enter Try.func3, Try.ntmps3
    go_wp2_with fail
    refine (bytes5_any _ _ _ _ _ _ _ hn).mono ?_
    rintro e w' ⟨⟨b, rfl⟩, rfl⟩
    cases b <;> (go_wp2; go_ret; exact ⟨rfl, Below.refl _ _⟩)
  have g2 : i < 0 := by omega
  clear h
  go_enter Try.func3, Try.ntmps3
  go_wp2_with fail
  refine (bytes5_any _ _ _ _ _ _ _ hn).mono ?_
  rintro e w' ⟨⟨b, rfl⟩, rfl⟩
  cases b <;> (go_wp2; go_ret; exact ⟨rfl, Below.refl _ _⟩)

set_option maxRecDepth 100000 in
set_option maxHeartbeats 4000000 in
theorem longest_in (a : Option Addr) (len cap p : Nat) (dep : Int) (nt : ByteArray) (xs : List Int) (w : World) (h1 : BRow w a len xs) (hcap : len ≤ cap) (hnil : a = none → len = 0 ∧ cap = 0)
    (hl : len ≤ 1048576) (hn : nt.size ≤ 1048576) (hn' : (nt.size : Int) ≤ 1048576 - len) (hp : p ≤ 9223372036854775807) :
    Calls Try.prog 3 #[.slice a len cap, .int .i64 (p : Int), .int .i64 dep, .string nt] w fun e w' => e = .returned (.bool true) ∧ Below w.heap.size w w' := by
  have HL := Pl.num_law (xs.drop p)
  obtain ⟨ok, hok⟩ : ∃ ok, ok = (Pl.num (xs.drop p)).1 := ⟨_, rfl⟩
  obtain ⟨m, hm⟩ : ∃ m, m = (Pl.num (xs.drop p)).2 := ⟨_, rfl⟩
  rw [← hm, ← hok] at HL
  have HLW : Hid (m ≤ (xs.drop p).length ∧ Pl.isNum ((xs.drop p).take m) = ok ∧ Pl.viable ((xs.drop p).take m) = true ∧ (m < (xs.drop p).length → Pl.viable ((xs.drop p).take (m + 1)) = false)) := HL
  have HOK : Hid (ok = (Pl.num (xs.drop p)).1) := hok
  have HM : Hid (m = (Pl.num (xs.drop p)).2) := hm
  have HXL : Hid (xs.length = len) := h1.1
  have HNIL : Hid (a = none → len = 0 ∧ cap = 0) := hnil
  have HB : Hid (BRow w a len xs) := h1
  clear HL hok hm h1 hnil
  go_enter Try.func3, Try.ntmps3
  go_wp2_with fail
  refine (bytes5_any _ _ _ _ _ _ _ (by unfold maxLen; omega)).mono ?_
  rintro e w' ⟨⟨b, rfl⟩, rfl⟩
  cases b
  · go_wp2; go_ret; exact ⟨rfl, Below.refl _ _⟩
  go_wp2_with fail
  refine (clone_any a len cap xs _ HB.out hl HNIL.out).mono ?_
  rintro e w1 ⟨a', c', rfl, hB1, hb1⟩
  have HB1 : Hid (BRow w1 a' len xs) := hB1
  clear hB1
  go_wp2_with fail
  refine (new_any a' len c' p dep nt _).mono ?_
  rintro e w2 ⟨rfl, hs2, hb2⟩
  have HS2 : Hid (Sc w2 w1.heap.size a' len c' p dep nt) := hs2
  clear hs2
  go_wp2_with fail
  refine (znumber_any w1.heap.size len c' p a' dep nt xs _ HS2.out (drow_below (drow_of HB1.out) hb2) (by omega)).mono ?_
  rintro e w3 ⟨rfl, hs3, hb3⟩
  rw [← HOK.out]
  have HS3 : Hid (Sc w3 w1.heap.size a' len c' ((p + m : Nat) : Int) dep nt) := by rw [HM.out]; exact hs3
  have hb13 : Below w1.heap.size w1 w3 := hb2.trans hb3
  have HB3 : Hid (BRow w3 a' len xs) := brow_below HB1.out hb13
  have hbw3 := below_trans hb1 hb13
  clear hs3 hb2 hb3 HS2 HB1
  obtain ⟨j, hj⟩ : ∃ j, j = p + m := ⟨_, rfl⟩
  rw [← hj] at HS3
  have HJ : Hid (j = p + m) := hj
  clear hj
  go_wp2_with fail
  refine (state_any' w1.heap.size len c' a' j dep nt _ HS3.out).mono ?_
  rintro e w4 ⟨rfl, hb4⟩
  have HB4 : Hid (BRow w4 a' len xs) := brow_below HB3.out hb4
  have hbw4 := below_trans hbw3 hb4
  have HBW : Hid (BRow w4 a len xs) := brow_below HB.out hbw4
  clear hb4 hbw3 hb13 HB3 HS3 hb1
  go_wp2_with fail
  refine (same_any a' a len c' cap xs _ HB4.out HBW.out (by omega)).mono ?_
  rintro e w5 ⟨rfl, hb5⟩
  have hbw5 := below_trans hbw4 hb5
  have HBW5 : Hid (BRow w5 a len xs) := brow_below HB.out hbw5
  clear hb5 hbw4 HBW HB4
  by_cases hpl : len < p
  · have hdrop : xs.drop p = [] := List.drop_eq_nil_of_le (by rw [HXL.out]; omega)
    have HOF : Hid (ok = false) := by have := HOK.out; rw [hdrop, Pl.num_nil] at this; exact this
    have HMF : Hid (j = p) := by have := HM.out; rw [hdrop, Pl.num_nil] at this; have h2 := HJ.out; exact (by rw [this] at h2; exact h2)
    clear hdrop
    rw [HOF.out, HMF.out]
    go_wp2_with fail
    go_ret
    exact ⟨rfl, hbw5⟩
  · have hmj : j ≤ len := by
      have := HLW.out.1
      rw [List.length_drop, HXL.out] at this
      have := HJ.out
      omega
    have hpj : p ≤ j := by have := HJ.out; omega
    have hsl := run_cut a len cap p j hpj (by omega)
    have hjm : j - p = m := by have := HJ.out; omega
    have HV1 : Hid (BRow w5 (cutA a cap p) (j - p) ((xs.drop p).take (j - p))) := brow_cut HBW5.out hcap hpj hmj
    have HJM : Hid (j - p = m) := hjm
    clear hjm
    go_wp2_with fail
    refine (viable_any (cutA a cap p) (j - p) (cap - p) _ _ HV1.out (by omega)).mono ?_
    rintro e w6 ⟨rfl, hb6⟩
    rw [show Pl.viable ((xs.drop p).take (j - p)) = true from by rw [HJM.out]; exact HLW.out.2.2.1]
    have hbw6 := below_trans hbw5 hb6
    have HBW6 : Hid (BRow w6 a len xs) := brow_below HBW5.out hb6
    have HV6 : Hid (BRow w6 (cutA a cap p) (j - p) ((xs.drop p).take (j - p))) := brow_cut HBW6.out hcap hpj hmj
    clear hb6 hbw5 HBW5 HV1
    by_cases hjl : j < len
    · have hsl2 := run_cut a len cap p (j + 1) (by omega) (by omega)
      rw [show ((j + 1 : Nat) : Int) = (j : Int) + 1 from by omega] at hsl2
      have HV7 : Hid (BRow w6 (cutA a cap p) (j + 1 - p) ((xs.drop p).take (j + 1 - p))) := brow_cut HBW6.out hcap (by omega) (by omega)
      go_wp2_with fail
      refine (viable_any (cutA a cap p) (j + 1 - p) (cap - p) _ _ HV7.out (by omega)).mono ?_
      rintro e w7 ⟨rfl, hb7⟩
      rw [show Pl.viable ((xs.drop p).take (j + 1 - p)) = false from by
        rw [show j + 1 - p = m + 1 from by have := HJ.out; omega]
        exact HLW.out.2.2.2 (by rw [List.length_drop, HXL.out]; have := HJ.out; omega)]
      have hbw7 := below_trans hbw6 hb7
      have HV8 : Hid (BRow w7 (cutA a cap p) (j - p) ((xs.drop p).take (j - p))) := brow_below HV6.out hb7
      clear hb7 hbw6 HV6 HV7 HBW6 hsl2
      go_wp2_with fail
      refine (isNumber_any (cutA a cap p) (j - p) (cap - p) _ _ HV8.out (by omega)).mono ?_
      rintro e w8 ⟨rfl, hw8⟩
      rw [hw8, show Pl.isNum ((xs.drop p).take (j - p)) = ok from by rw [HJM.out]; exact HLW.out.2.1]
      clear hw8
      go_wp2_with fail
      go_ret
      exact ⟨by simp, hbw7⟩
    · go_wp2_with fail
      refine (isNumber_any (cutA a cap p) (j - p) (cap - p) _ _ HV6.out (by omega)).mono ?_
      rintro e w8 ⟨rfl, hw8⟩
      rw [hw8, show Pl.isNum ((xs.drop p).take (j - p)) = ok from by rw [HJM.out]; exact HLW.out.2.1]
      clear hw8
      go_wp2_with fail
      go_ret
      exact ⟨by simp, hbw6⟩

end Go.Proofs.Qxb6618907a
