/-
  THE WALKS: the scanner's state; equal bytes; digits alone; 'zzIsNumber'; 'zzViable'.
-/
import Derived.Test.Qxb6618907aWalks
namespace Go.Proofs.Qxb6618907a
open Go.RowKit

set_option maxHeartbeats 1000000 in
theorem state_any (b len cap : Nat) (a : Option Addr) (i dep : Int) (nt : ByteArray) (w : World) (hs : Sc w b a len cap i dep nt) :
    Calls Try.prog 9 #[.pointer (some ⟨b, 0, none⟩)] w fun e w' => e = .returned (.tuple #[.slice a len cap, .int .i64 i, .int .i64 dep, .string nt, .int .i64 0]) ∧ ∃ n, w' = w.drewN n := by
  obtain ⟨c0, c1, c2, c3, c4, f1⟩ := hs
  go_enter Try.func9, Try.ntmps9
  go_wp2
  go_quiet (fail)
  go_wp2
  exact bodyPost_ret (v := .tuple #[.slice a len cap, .int .i64 i, .int .i64 dep, .string nt, .int .i64 0]) (by simp [results, Try.results9, go_sem]) rfl ⟨rfl, _, rfl⟩

set_option maxHeartbeats 1000000 in
/-- 'zzSameBytes' at two slices of the same bytes. -/
theorem same_any (a1 a2 : Option Addr) (len c1 c2 : Nat) (xs : List Int) (w : World) (h1 : BRow w a1 len xs) (h2 : BRow w a2 len xs) (hl : len ≤ 1048577) :
    Calls Try.prog 10 #[.slice a1 len c1, .slice a2 len c2] w fun e w' => e = .returned (.bool true) ∧ Below w.heap.size w w' := by
  go_enter Try.func10, Try.ntmps10
  go_wp2
  go_loopw [5] (fun i wr => ∃ (k n : Nat), k ≤ len ∧ i = .int .i64 k ∧ wr = w.drewN n) (fun i _ => len - (intOf i).toNat)
  case atStart => exact ⟨0, 0, Nat.zero_le _, rfl, rfl⟩
  case round =>
    obtain ⟨k, n, hk, rfl, rfl⟩ := hrel
    by_cases hlt : k < len
    · rcases h1.2 with h0 | ⟨b, off, rfl, hc⟩
      · omega
      rcases h2.2 with h0 | ⟨b', off', rfl, hc'⟩
      · omega
      obtain ⟨x, hx⟩ : ∃ x, x = xs.getD k 0 := ⟨_, rfl⟩
      have hcx : w.cell? ⟨b, off + k, none⟩ = some (.int .u8 x) := by rw [hx]; exact hc k hlt
      have hcx' : w.cell? ⟨b', off' + k, none⟩ = some (.int .u8 x) := by rw [hx]; exact hc' k hlt
      have hlt' : (k : Int) < (len : Int) := by omega
      clear hx hc hc' h1 h2
      go_wp2
      go_quiet (fail)
      go_wp2
      go_roundw
      case rel => exact ⟨k + 1, _, by omega, by go_num, rfl⟩
      case measure => simp [intOf]; omega
    · obtain rfl : k = len := by omega
      clear h1 h2
      go_wp2
      go_ret
      exact ⟨rfl, below_drewN (Below.refl _ _) n⟩

/-- The bytes of a stretch. -/
def seg (xs : List Int) (p q : Nat) : List Int := (xs.take q).drop p
theorem seg_len (xs : List Int) (p q : Nat) (h : q ≤ xs.length) : (seg xs p q).length = q - p := by
  unfold seg; rw [List.length_drop, List.length_take]; omega
theorem seg_at (xs : List Int) (p q k : Nat) (h : p + k < q) (hq : q ≤ xs.length) : (seg xs p q)[k]? = some (xs.getD (p + k) 0) := by
  unfold seg
  rw [List.getElem?_drop, List.getElem?_take_of_lt h, List.getElem?_eq_getElem (by omega), List.getD_eq_getElem?_getD, List.getElem?_eq_getElem (by omega)]
  rfl
theorem allD_seg_true {xs : List Int} {p q : Nat} (hpq : p < q) (hq : q ≤ xs.length) (h : ∀ k, p ≤ k → k < q → Pl.isDig (xs.getD k 0) = true) : Pl.allD (seg xs p q) = true := by
  rw [Pl.allD_iff]
  have hl := seg_len xs p q hq
  refine ⟨fun e => by rw [e] at hl; simp at hl; omega, fun c hc => ?_⟩
  obtain ⟨k, hk, rfl⟩ := List.getElem_of_mem hc
  have := seg_at xs p q k (by omega) hq
  rw [List.getElem?_eq_getElem hk] at this
  simp only [Option.some.injEq] at this
  rw [this]
  exact h (p + k) (by omega) (by omega)
theorem allD_seg_false {xs : List Int} {p q k : Nat} (hp : p ≤ k) (hk : k < q) (hq : q ≤ xs.length) (h : Pl.isDig (xs.getD k 0) = false) : Pl.allD (seg xs p q) = false := by
  rw [Bool.eq_false_iff]
  intro ha
  have hm : xs.getD k 0 ∈ seg xs p q := by
    have := seg_at xs p q (k - p) (by omega) hq
    rw [show p + (k - p) = k from by omega] at this
    exact List.mem_of_getElem? this
  have := (Pl.allD_iff.1 ha).2 _ hm
  rw [h] at this
  cases this
theorem allD_seg_empty {xs : List Int} {p q : Nat} (h : q ≤ p) : Pl.allD (seg xs p q) = false := by
  have : seg xs p q = [] := by unfold seg; rw [List.drop_eq_nil_of_le (by rw [List.length_take]; omega)]
  rw [this]; rfl

set_option maxHeartbeats 1000000 in
/-- 'zzAllDigits'. -/
theorem allDigits_any (a : Option Addr) (len cap p q : Nat) (xs : List Int) (w : World) (h1 : BRow w a len xs) (hl : len ≤ 1048577) (hq : q ≤ len) (hp : p ≤ len + 1) :
    Calls Try.prog 15 #[.slice a len cap, .int .i64 (p : Int), .int .i64 (q : Int)] w fun e w' => e = .returned (.bool (Pl.allD (seg xs p q))) ∧ w' = w := by
  by_cases hpq : q ≤ p
  · rw [allD_seg_empty hpq]
    go_enter Try.func15, Try.ntmps15
    go_wp2
    go_ret
    exact ⟨rfl, rfl⟩
  have hpq' : p < q := by omega
  obtain ⟨rb, hrb⟩ : ∃ rb, rb = Pl.allD (seg xs p q) := ⟨_, rfl⟩
  rw [← hrb]
  have HRB : Hid (rb = Pl.allD (seg xs p q)) := hrb
  clear hrb
  go_enter Try.func15, Try.ntmps15
  go_wp2
  go_loop [7] (fun i => ∃ k : Nat, p ≤ k ∧ k ≤ q ∧ i = .int .i64 k ∧ ∀ j, p ≤ j → j < k → Pl.isDig (xs.getD j 0) = true) (fun i => q - (intOf i).toNat)
  case atStart => exact ⟨p, Nat.le_refl _, by omega, rfl, fun j a b => absurd a (by omega)⟩
  case round =>
    obtain ⟨k, hk1, hk2, rfl, hj⟩ := hrel
    have HJ : Hid (∀ j, p ≤ j → j < k → Pl.isDig (xs.getD j 0) = true) := hj
    clear hj
    by_cases hlt : k < q
    · rcases h1.2 with h0 | ⟨b, off, rfl, hc⟩
      · omega
      obtain ⟨x, hx⟩ : ∃ x, x = xs.getD k 0 := ⟨_, rfl⟩
      have hcx : w.cell? ⟨b, off + k, none⟩ = some (.int .u8 x) := by rw [hx]; exact hc k (by omega)
      have HX : Hid (x = xs.getD k 0) := hx
      have HL : Hid (xs.length = len) := h1.1
      have hlt2 : k < len := by omega
      clear hx hc h1
      by_cases hd : 48 ≤ x ∧ x ≤ 57
      · obtain ⟨hd1, hd2⟩ := hd
        go_wp2
        go_round
        case rel =>
          refine ⟨k + 1, by omega, by omega, by go_num, fun j ha hb => ?_⟩
          by_cases e : j < k
          · exact HJ.out j ha e
          · obtain rfl : j = k := by omega
            rw [← HX.out]; unfold Pl.isDig; simp; omega
        case measure => simp [intOf]; omega
      · have hno : Pl.isDig x = false := by unfold Pl.isDig; simp; omega
        have hrf : Hid (rb = false) := by
          have := HRB.out
          rw [allD_seg_false hk1 hlt (by rw [HL.out]; omega) (by rw [← HX.out]; exact hno)] at this
          exact this
        by_cases h48 : x < 48
        · go_wp2
          go_ret
          exact ⟨by rw [hrf.out]; rfl, rfl⟩
        · have h57 : 57 < x := by omega
          clear hd
          go_wp2
          go_ret
          exact ⟨by rw [hrf.out]; rfl, rfl⟩
    · obtain rfl : q = k := by omega
      have hrt : Hid (rb = true) := by
        have := HRB.out
        rw [allD_seg_true hpq' (by rw [h1.1]; omega) (fun k ha hb => HJ.out k ha hb)] at this
        exact this
      clear h1
      go_wp2
      go_ret
      exact ⟨by rw [hrt.out]; rfl, rfl⟩

end Go.Proofs.Qxb6618907a
