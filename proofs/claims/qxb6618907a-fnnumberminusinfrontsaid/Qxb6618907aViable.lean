/-
  THE WALK OF 'zzViable'.
-/
import Derived.Test.Qxb6618907aIs
namespace Go.Proofs.Qxb6618907a
open Go.RowKit

theorem getD_snoc (xs : List Int) (c : Int) (i : Nat) (h : i < xs.length + 1) : (xs ++ [c]).getD i 0 = if i < xs.length then xs.getD i 0 else c := by
  by_cases e : i < xs.length
  · rw [if_pos e]; simp [List.getElem?_append, e]
  · rw [if_neg e]
    obtain rfl : i = xs.length := by omega
    simp

set_option maxHeartbeats 1000000 in
theorem viable_any (a : Option Addr) (len cap : Nat) (t : List Int) (w : World) (h1 : BRow w a len t) (hl : len ≤ 1048576) :
    Calls Try.prog 11 #[.slice a len cap] w fun e w' => e = .returned (.bool (Pl.viable t)) ∧ Below w.heap.size w w' := by
  have hmk := make5' len (by omega)
  obtain ⟨r, hr⟩ : ∃ r, r = Pl.viable t := ⟨_, rfl⟩
  rw [← hr]
  have HR : Hid (r = Pl.viable t) := hr
  clear hr
  go_enter Try.func11, Try.ntmps11
  go_wp2_with fail
  refine (isNumber_any a len cap t _ h1 (by omega)).mono ?_
  rintro e w1 ⟨rfl, rfl⟩
  cases hn : Pl.isNum t with
  | true =>
    have HF : Hid (r = true) := show r = true from by rw [HR.out]; unfold Pl.viable; rw [hn]; rfl
    clear hn
    go_wp2_with fail
    go_ret
    exact ⟨by rw [HF.out]; rfl, Below.refl _ _⟩
  | false =>
    have HF : Hid (r = Pl.isNum (t ++ [48])) := show r = _ from by rw [HR.out]; unfold Pl.viable; rw [hn]; rfl
    clear hn
    go_wp2_with fail
    go_loopw [4] (fun i wr => ∃ (k : Nat) (A : Array Value), k ≤ len ∧ i = .int .i64 k ∧ Cells A (len + 1) k (fun j => (t ++ [48]).getD j 0) ∧ wr = w1.alloc (.cells A 5)) (fun i _ => len - (intOf i).toNat)
    case atStart => exact ⟨0, _, Nat.zero_le _, rfl, cells_made _ _ _, rfl⟩
    case round =>
      obtain ⟨k, A, hk, rfl, hA, rfl⟩ := hrel
      have hsz := hA.1
      have HT : Hid (t.length = len) := h1.1
      by_cases hlt : k < len
      · rcases h1.2 with h0 | ⟨b, off, rfl, hc⟩
        · omega
        obtain ⟨x, hx⟩ : ∃ x, x = t.getD k 0 := ⟨_, rfl⟩
        have hcx : w1.cell? ⟨b, off + k, none⟩ = some (.int .u8 x) := by rw [hx]; exact hc k hlt
        have hb := lt_of_cell hcx
        have HX : Hid (x = (t ++ [48]).getD k 0) := show x = _ from by rw [getD_snoc _ _ _ (by rw [HT.out]; omega), if_pos (by rw [HT.out]; exact hlt)]; exact hx
        have HA : Hid (Cells A (len + 1) k (fun j => (t ++ [48]).getD j 0)) := hA
        obtain ⟨v0, hin⟩ : ∃ v, A[k]? = some v := ⟨A[k]'(by omega), Array.getElem?_eq_getElem (by omega)⟩
        clear hx hc hA h1
        go_wp2_with fail
        go_roundw
        case rel => exact ⟨k + 1, _, by omega, by go_num, cells_set HA.out (by omega) HX.out, rfl⟩
        case measure => simp [intOf]; omega
      · obtain rfl : k = len := by omega
        obtain ⟨v0, hin⟩ : ∃ v, A[k]? = some v := ⟨A[k]'(by omega), Array.getElem?_eq_getElem (by omega)⟩
        have HA : Hid (Cells A (k + 1) k (fun j => (t ++ [48]).getD j 0)) := hA
        clear hA h1
        go_wp2_with fail
        have hb2 : BRow (w1.alloc (.cells (A.setIfInBounds k (.int .u8 48)) 5)) (some ⟨w1.heap.size, 0, none⟩) (k + 1) (t ++ [48]) := by
          have hc := cells_set (c := 48) HA.out (by omega) (by rw [getD_snoc _ _ _ (by rw [HT.out]; omega), if_neg (by rw [HT.out]; omega)])
          refine ⟨by simp [HT.out], .inr ⟨_, 0, rfl, fun i hi => ?_⟩⟩
          rw [World.cell?_alloc_at _ _ _ _ rfl, Nat.zero_add, hc.2 i hi]
        have HB2 : Hid (BRow (w1.alloc (.cells (A.setIfInBounds k (.int .u8 48)) 5)) (some ⟨w1.heap.size, 0, none⟩) (k + 1) (t ++ [48])) := hb2
        clear hb2
        refine (isNumber_any _ (k + 1) (k + 1) (t ++ [48]) _ HB2.out (by omega)).mono ?_
        rintro e w2 ⟨rfl, rfl⟩
        go_wp2_with fail
        go_ret
        exact ⟨by rw [HF.out]; rfl, below_alloc _ _⟩

end Go.Proofs.Qxb6618907a
