/-
  THE WALK OF 'FnNumberMinusInFront'.
-/
import Derived.Test.Qxb6618907aParts
namespace Go.Proofs.Qxb6618907a
open Go.RowKit

set_option maxRecDepth 100000 in
theorem minus_out (a : Option Addr) (len cap : Nat) (i dep : Int) (nt : ByteArray) (w : World) (hn : nt.size ≤ maxLen) (h : 1048576 < len ∨ (1048576 : Int) - len < nt.size ∨ i < 0 ∨ (len : Int) < i) :
    Calls Try.prog 4 #[.slice a len cap, .int .i64 i, .int .i64 dep, .string nt] w fun e w' => e = .returned (.bool true) ∧ Below w.heap.size w w' := by
  by_cases g0 : 1048576 < len
  · clear h
    go_enter Try.func4, Try.ntmps4
    go_wp2_with fail
    refine (bytes13_any _ _ _ _ _ _ _ hn).mono ?_
    rintro e w' ⟨⟨b, rfl⟩, rfl⟩
    cases b <;> (go_wp2; go_ret; exact ⟨rfl, Below.refl _ _⟩)
  by_cases g1 : (1048576 : Int) - len < nt.size
  · clear h
    go_enter Try.func4, Try.ntmps4
    go_wp2_with fail
    refine (bytes13_any _ _ _ _ _ _ _ hn).mono ?_
    rintro e w' ⟨⟨b, rfl⟩, rfl⟩
    cases b <;> (go_wp2; go_ret; exact ⟨rfl, Below.refl _ _⟩)
  by_cases g2 : i < 0
  · clear h
    go_enter Try.func4, Try.ntmps4
    go_wp2_with fail
    refine (bytes13_any _ _ _ _ _ _ _ hn).mono ?_
    rintro e w' ⟨⟨b, rfl⟩, rfl⟩
    cases b <;> (go_wp2; go_ret; exact ⟨rfl, Below.refl _ _⟩)
  have g3 : (len : Int) < i := by omega
  clear h
  go_enter Try.func4, Try.ntmps4
  go_wp2_with fail
  refine (bytes13_any _ _ _ _ _ _ _ hn).mono ?_
  rintro e w' ⟨⟨b, rfl⟩, rfl⟩
  cases b <;> (go_wp2; go_ret; exact ⟨rfl, Below.refl _ _⟩)

/-- The data with one minus put in at p. -/
def ins (xs : List Int) (p : Nat) : List Int := xs.take p ++ 45 :: xs.drop p
theorem ins_len (xs : List Int) (p : Nat) (h : p ≤ xs.length) : (ins xs p).length = xs.length + 1 := by
  unfold ins; rw [List.length_append, List.length_take, List.length_cons, List.length_drop]; omega
theorem ins_drop (xs : List Int) (p : Nat) (h : p ≤ xs.length) : (ins xs p).drop p = 45 :: xs.drop p := by
  unfold ins
  have : (xs.take p).length = p := by rw [List.length_take]; omega
  rw [List.drop_append, this, Nat.sub_self, List.drop_eq_nil_of_le (by omega)]; rfl
theorem ins_lt (xs : List Int) (p k : Nat) (h : p ≤ xs.length) (hk : k < p) : (ins xs p).getD k 0 = xs.getD k 0 := by
  unfold ins
  rw [List.getD_eq_getElem?_getD, List.getD_eq_getElem?_getD, List.getElem?_append_left (by rw [List.length_take]; omega), List.getElem?_take_of_lt hk]
theorem ins_at (xs : List Int) (p : Nat) (h : p ≤ xs.length) : (ins xs p).getD p 0 = 45 := by
  unfold ins
  have : (xs.take p).length = p := by rw [List.length_take]; omega
  rw [List.getD_eq_getElem?_getD, List.getElem?_append_right (by omega), this, Nat.sub_self]; rfl
theorem ins_gt (xs : List Int) (p k : Nat) (h : p ≤ xs.length) (hk : p ≤ k) : (ins xs p).getD (k + 1) 0 = xs.getD k 0 := by
  unfold ins
  have : (xs.take p).length = p := by rw [List.length_take]; omega
  rw [List.getD_eq_getElem?_getD, List.getD_eq_getElem?_getD, List.getElem?_append_right (by omega), this, show k + 1 - p = (k - p) + 1 from by omega, List.getElem?_cons_succ, List.getElem?_drop, show p + (k - p) = k from by omega]

theorem cells_row {w : World} {A : Array Value} {n : Nat} {ys : List Int} (hA : Cells A n n (fun j => ys.getD j 0)) (hl : ys.length = n) : BRow (w.alloc (.cells A 5)) (some ⟨w.heap.size, 0, none⟩) n ys := by
  refine ⟨hl, .inr ⟨_, 0, rfl, fun i hi => ?_⟩⟩
  rw [World.cell?_alloc_at _ _ _ _ rfl, Nat.zero_add, hA.2 i hi]

set_option maxRecDepth 100000 in
set_option maxHeartbeats 4000000 in
theorem minus_in (a : Option Addr) (len cap p : Nat) (dep : Int) (nt : ByteArray) (xs : List Int) (w : World) (h1 : BRow w a len xs) (hcap : len ≤ cap) (hnil : a = none → len = 0 ∧ cap = 0)
    (hl : len ≤ 1048576) (hn : nt.size ≤ 1048576) (hn' : (nt.size : Int) ≤ 1048576 - len) (hp : p ≤ len) :
    Calls Try.prog 4 #[.slice a len cap, .int .i64 (p : Int), .int .i64 dep, .string nt] w fun e w' => e = .returned (.bool true) ∧ Below w.heap.size w w' := by
  have HL := Pl.num_law (xs.drop p)
  obtain ⟨ok, hok⟩ : ∃ ok, ok = (Pl.num (xs.drop p)).1 := ⟨_, rfl⟩
  obtain ⟨m, hm⟩ : ∃ m, m = (Pl.num (xs.drop p)).2 := ⟨_, rfl⟩
  rw [← hm, ← hok] at HL
  have HLW : Hid (m ≤ (xs.drop p).length ∧ Pl.isNum ((xs.drop p).take m) = ok ∧ Pl.viable ((xs.drop p).take m) = true ∧ (m < (xs.drop p).length → Pl.viable ((xs.drop p).take (m + 1)) = false)) := HL
  have HOK : Hid (ok = (Pl.num (xs.drop p)).1) := hok
  have HM : Hid (m = (Pl.num (xs.drop p)).2) := hm
  have HXL : Hid (xs.length = len) := h1.1
  have HNIL : Hid (a = none → len = 0 ∧ cap = 0) := hnil
  have HB : Hid (BRow w a len xs) := h1
  have hmk := make5' len (by omega)
  clear HL hok hm h1 hnil
  go_enter Try.func4, Try.ntmps4
  go_wp2_with fail
  refine (bytes13_any _ _ _ _ _ _ _ (by unfold maxLen; omega)).mono ?_
  rintro e w' ⟨⟨b, rfl⟩, rfl⟩
  cases b
  · go_wp2; go_ret; exact ⟨rfl, Below.refl _ _⟩
  go_wp2_with fail
  refine (clone_any a len cap xs _ HB.out hl HNIL.out).mono ?_
  rintro e w1 ⟨a', c', rfl, hB1, hb1⟩
  have HB1 : Hid (BRow w1 a' len xs) := hB1
  clear hB1
  go_wp2_with fail
  refine (new_any a' len c' p dep nt _).mono ?_
  rintro e w2 ⟨rfl, hs2, hb2⟩
  have HS2 : Hid (Sc w2 w1.heap.size a' len c' p dep nt) := hs2
  clear hs2
  go_wp2_with fail
  refine (znumber_any w1.heap.size len c' p a' dep nt xs _ HS2.out (drow_below (drow_of HB1.out) hb2) (by omega)).mono ?_
  rintro e w3 ⟨rfl, hs3, hb3⟩
  rw [← HOK.out]
  have HS3 : Hid (Sc w3 w1.heap.size a' len c' ((p + m : Nat) : Int) dep nt) := by rw [HM.out]; exact hs3
  have hb13 : Below w1.heap.size w1 w3 := hb2.trans hb3
  have hbw3 := below_trans hb1 hb13
  clear hs3 hb2 hb3 HS2 HB1
  obtain ⟨j, hj⟩ : ∃ j, j = p + m := ⟨_, rfl⟩
  rw [← hj] at HS3
  have HJ : Hid (j = p + m) := hj
  clear hj
  go_wp2_with fail
  refine (state_any' w1.heap.size len c' a' j dep nt _ HS3.out).mono ?_
  rintro e w4 ⟨rfl, hb4⟩
  have hbw4 := below_trans hbw3 hb4
  have HBW : Hid (BRow w4 a len xs) := brow_below HB.out hbw4
  clear hb4 hbw3 hb13 HS3 hb1 HNIL
  have hmj : j ≤ len := by
    have := HLW.out.1
    rw [List.length_drop, HXL.out] at this
    have := HJ.out
    omega
  have hpj : p ≤ j := by have := HJ.out; omega
  go_wp2_with fail
  go_loopw [18] (fun i wr => ∃ (k : Nat) (A : Array Value), k ≤ p ∧ i = .int .i64 k ∧ Cells A (len + 1) k (fun j => (ins xs p).getD j 0) ∧ wr = w4.alloc (.cells A 5)) (fun i _ => p - (intOf i).toNat)
  case atStart => exact ⟨0, _, Nat.zero_le _, rfl, cells_made _ _ _, rfl⟩
  case round =>
    obtain ⟨k, A, hk, rfl, hA, rfl⟩ := hrel
    have hsz := hA.1
    have HA : Hid (Cells A (len + 1) k (fun j => (ins xs p).getD j 0)) := hA
    obtain ⟨v0, hin⟩ : ∃ v, A[k]? = some v := ⟨A[k]'(by omega), Array.getElem?_eq_getElem (by omega)⟩
    clear hA
    by_cases hlt : k < p
    · rcases HBW.out.2 with h0 | ⟨b, off, rfl, hc⟩
      · omega
      obtain ⟨x, hx⟩ : ∃ x, x = xs.getD k 0 := ⟨_, rfl⟩
      have hcx : w4.cell? ⟨b, off + k, none⟩ = some (.int .u8 x) := by rw [hx]; exact hc k (by omega)
      have hb := lt_of_cell hcx
      have HX : Hid (x = (ins xs p).getD k 0) := show x = _ from by rw [ins_lt xs p k (by rw [HXL.out]; exact hp) hlt]; exact hx
      have hkl : k < len := by omega
      clear hx hc
      go_wp2_with fail
      go_roundw
      case rel => exact ⟨k + 1, _, by omega, by go_num, cells_set HA.out (by omega) HX.out, rfl⟩
      case measure => simp [intOf]; omega
    · obtain rfl : p = k := by omega
      have HA2 : Hid (Cells (A.setIfInBounds p (.int .u8 45)) (len + 1) (p + 1) (fun j => (ins xs p).getD j 0)) := cells_set HA.out (by omega) (ins_at xs p (by rw [HXL.out]; exact hp)).symm
      clear HA
      go_wp2_with fail
      go_loopw [19] (fun i wr => ∃ (k : Nat) (A : Array Value), p ≤ k ∧ k ≤ len ∧ i = .int .i64 k ∧ Cells A (len + 1) (k + 1) (fun j => (ins xs p).getD j 0) ∧ wr = w4.alloc (.cells A 5)) (fun i _ => len - (intOf i).toNat)
      case atStart => exact ⟨p, _, Nat.le_refl _, hp, rfl, HA2.out, rfl⟩
      case round =>
        clear hin hsz HA2
        obtain ⟨k, A, hk1, hk, rfl, hA, rfl⟩ := hrel
        have hsz := hA.1
        have HA : Hid (Cells A (len + 1) (k + 1) (fun j => (ins xs p).getD j 0)) := hA
        clear hA
        by_cases hlt : k < len
        · rcases HBW.out.2 with h0 | ⟨b, off, rfl, hc⟩
          · omega
          obtain ⟨x, hx⟩ : ∃ x, x = xs.getD k 0 := ⟨_, rfl⟩
          have hcx : w4.cell? ⟨b, off + k, none⟩ = some (.int .u8 x) := by rw [hx]; exact hc k (by omega)
          have hb := lt_of_cell hcx
          have HX : Hid (x = (ins xs p).getD (k + 1) 0) := show x = _ from by rw [ins_gt xs p k (by rw [HXL.out]; exact hp) hk1]; exact hx
          obtain ⟨v0, hin⟩ : ∃ v, A[k + 1]? = some v := ⟨A[k + 1]'(by omega), Array.getElem?_eq_getElem (by omega)⟩
          clear hx hc
          go_wp2_with fail
          go_roundw
          case rel => exact ⟨k + 1, _, by omega, by omega, by go_num, cells_set HA.out (by omega) HX.out, rfl⟩
          case measure => simp [intOf]; omega
        · obtain rfl : len = k := by omega
          have HM5 : Hid (BRow (w4.alloc (.cells A 5)) (some ⟨w4.heap.size, 0, none⟩) (len + 1) (ins xs p)) := cells_row HA.out (by rw [ins_len xs p (by rw [HXL.out]; exact hp), HXL.out])
          have hbw5 := below_trans hbw4 (below_alloc w4 (.cells A 5))
          have HBW5 : Hid (BRow (w4.alloc (.cells A 5)) a len xs) := brow_below HBW.out (below_alloc _ _)
          obtain ⟨W5, hW5⟩ : ∃ W5, W5 = w4.alloc (.cells A 5) := ⟨_, rfl⟩
          rw [← hW5] at HM5 hbw5 HBW5 ⊢
          clear HA hsz hW5 HBW hbw4 hmk
          go_wp2_with fail
          refine (new_any (some ⟨w4.heap.size, 0, none⟩) (len + 1) (len + 1) p dep nt _).mono ?_
          rintro e w6 ⟨rfl, hs6, hb6⟩
          have HS6 : Hid (Sc w6 W5.heap.size (some ⟨w4.heap.size, 0, none⟩) (len + 1) (len + 1) p dep nt) := hs6
          clear hs6
          go_wp2_with fail
          refine (znumber_any W5.heap.size (len + 1) (len + 1) p (some ⟨w4.heap.size, 0, none⟩) dep nt (ins xs p) _ HS6.out (drow_below (drow_of HM5.out) hb6) (by omega)).mono ?_
          rintro e w7 ⟨rfl, hs7, hb7⟩
          have HINS : Hid ((ins xs p).drop p = 45 :: xs.drop p) := ins_drop xs p (by rw [HXL.out]; exact hp)
          obtain ⟨ok2, hok2⟩ : ∃ ok2, ok2 = (Pl.num (45 :: xs.drop p)).1 := ⟨_, rfl⟩
          obtain ⟨j2, hj2⟩ : ∃ j2, j2 = p + (Pl.num (45 :: xs.drop p)).2 := ⟨_, rfl⟩
          rw [HINS.out, ← hok2]
          have HS7 : Hid (Sc w7 W5.heap.size (some ⟨w4.heap.size, 0, none⟩) (len + 1) (len + 1) (j2 : Int) dep nt) := by
            rw [HINS.out, ← hj2] at hs7
            exact hs7
          have HOK2 : Hid (ok2 = (Pl.num (45 :: xs.drop p)).1) := hok2
          have HJ2 : Hid (j2 = p + (Pl.num (45 :: xs.drop p)).2) := hj2
          have hb57 : Below W5.heap.size W5 w7 := hb6.trans hb7
          have hbw7 := below_trans hbw5 hb57
          have HBW7 : Hid (BRow w7 a len xs) := brow_below HBW5.out hb57
          clear hs7 hok2 hj2 hb6 hb7 hb57 hbw5 HBW5 HS6 HM5 HINS
          go_wp2_with fail
          refine (state_any' W5.heap.size (len + 1) (len + 1) _ j2 dep nt _ HS7.out).mono ?_
          rintro e w8 ⟨rfl, hb8⟩
          have hbw8 := below_trans hbw7 hb8
          have HBW8 : Hid (BRow w8 a len xs) := brow_below HBW7.out hb8
          have hsl := run_cut a len cap p j hpj (by omega)
          have HJM : Hid (j - p = m) := show j - p = m from by have := HJ.out; omega
          have HV8 : Hid (BRow w8 (cutA a cap p) (j - p) ((xs.drop p).take (j - p))) := brow_cut HBW8.out hcap hpj hmj
          clear hb8 hbw7 HBW7 HS7
          go_wp2_with fail
          refine (isNumber_any (cutA a cap p) (j - p) (cap - p) _ _ HV8.out (by omega)).mono ?_
          rintro e w9 ⟨rfl, hw9⟩
          rw [hw9, show Pl.isNum ((xs.drop p).take (j - p)) = ok from by rw [HJM.out]; exact HLW.out.2.1]
          clear hw9 hsl HV8
          cases ho : Pl.op (xs.drop p) 45 with
          | true =>
            have hpl : p < len := by have := op_lt ho; rw [HXL.out] at this; exact this
            have HO2 : Hid (ok2 = false) := by have := HOK2.out; rw [Pl.num_minus ho] at this; exact this
            have HJJ : Hid (j2 = p + 1) := by have := HJ2.out; rw [Pl.num_minus ho] at this; exact this
            rcases HBW8.out.2 with h0 | ⟨b, off, rfl, hc⟩
            · omega
            have hcx : w8.cell? ⟨b, off + p, none⟩ = some (.int .u8 45) := by
              rw [hc p hpl]
              have := op_at xs p 45 (by rw [HXL.out]; exact hpl)
              rw [ho] at this
              have e : xs.getD p 0 = 45 := by simpa using this.symm
              rw [e]
            clear ho hc
            rw [HO2.out, HJJ.out]
            go_wp2_with fail
            go_ret
            exact ⟨rfl, hbw8⟩
          | false =>
            have HO2 : Hid (ok2 = ok) := by have := HOK2.out; rw [Pl.num_front ho, ← HOK.out] at this; exact this
            have HJJ : Hid (j2 = j + 1) := by
              have := HJ2.out
              rw [Pl.num_front ho, ← HM.out] at this
              have h2 := HJ.out
              exact (by omega : j2 = j + 1)
            rw [HO2.out, HJJ.out]
            by_cases hpl : p < len
            · rcases HBW8.out.2 with h0 | ⟨b, off, rfl, hc⟩
              · omega
              obtain ⟨x, hx⟩ : ∃ x, x = xs.getD p 0 := ⟨_, rfl⟩
              have hcx : w8.cell? ⟨b, off + p, none⟩ = some (.int .u8 x) := by rw [hx]; exact hc p hpl
              have hx45 : (x == 45) = false := by
                have := op_at xs p 45 (by rw [HXL.out]; exact hpl)
                rw [ho, ← hx] at this
                exact this.symm
              clear ho hc hx
              go_wp2_with fail
              go_ret
              exact ⟨by simp, hbw8⟩
            · clear ho
              go_wp2_with fail
              go_ret
              exact ⟨by simp, hbw8⟩

end Go.Proofs.Qxb6618907a
