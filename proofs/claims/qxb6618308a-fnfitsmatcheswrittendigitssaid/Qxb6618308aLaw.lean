/-
  THE WALK OF 'FnFitsMatchesWrittenDigits'.
-/
import Derived.Test.Qxb6618308aWritten
namespace Go.Proofs.Qxb6618308a
open Go.RowKit

/-- A well-formed number, as far as the law asks it. -/
def Good (d : ByteArray) (s : Int) : Prop := (d.size = 0 → s = 0) ∧ (∀ h : 0 < d.size, ((d[0]).toNat : Int) ≠ 48) ∧ (0 < s → ∀ h : 0 < d.size, ((d[d.size - 1]).toNat : Int) ≠ 48)

theorem written_any (d : ByteArray) (s p : Int) (w : World) (hd : d.size ≤ 1048576) (hg : Good d s) (hs : 0 ≤ s) (hs' : s ≤ 9223372036854775807) (hp : 0 ≤ p) (hp' : p ≤ 18) :
    Calls Try.prog 7 #[.string d, .int .i64 s, .int .i64 p] w fun e w' => e = .returned (.bool (fitsB d.size s p)) ∧ Below w.heap.size w w' := by
  obtain ⟨g0, g1, g2⟩ := hg
  by_cases h0 : d.size = 0
  · obtain rfl := g0 h0
    rw [show fitsB d.size 0 p = true from decide_eq_true ⟨hp, by omega⟩]
    exact written_zero d p w h0 hp hp'
  have h0' : 0 < d.size := by omega
  by_cases h : s ≤ p
  · have e : fitsB d.size s p = decide ((d.size : Int) - s + p ≤ 18) := by
      unfold fitsB; rw [decide_eq_decide]; exact ⟨fun x => x.2, fun x => ⟨h, x⟩⟩
    rw [e]
    by_cases hw : s < d.size
    · exact written_whole d s p w hd h0' (g1 h0') hs hp hp' h hw
    · exact written_frac d s p w hd h0' (g1 h0') hp hp' h (by omega)
  · rw [show fitsB d.size s p = false from decide_eq_false (fun x => h x.1)]
    exact written_cut d s p w hd h0' (g2 (by omega) h0') hs' hp hp' (by omega)

theorem ten_bounds {n n' : Nat} {s s' : Int} (h : TenIs n s n' s') (hn : n ≤ 1048576) : n' ≤ 1048577 ∧ 0 ≤ s' := by
  unfold TenIs at h; omega
theorem ten_fits {n n' : Nat} {s s' p : Int} (h : TenIs n s n' s') (hp : 1 ≤ p) (hp' : p ≤ 18) : fitsB n' s' (p - 1) = fitsB n s p := by
  unfold TenIs at h; unfold fitsB; rw [decide_eq_decide]; omega
theorem below_two {w w1 : World} {o o' : Obj} (h : Below ((w.alloc o).alloc o').heap.size ((w.alloc o).alloc o') w1) : Below w.heap.size w w1 :=
  (((Below.refl _ _).alloc (Nat.le_refl _) _).alloc (by simp) _).trans (h.mono (by simp; omega))
theorem below_two' {w w1 : World} {o o' : Obj} (h : Below w.heap.size w w1) : Below w.heap.size w ((w1.alloc o).alloc o') :=
  (h.alloc h.size _).alloc (by have := h.size; simp; omega) _

/-- WHERE THE LAW HAS NOTHING TO ASK: yes at once. -/
theorem law_out (neg : Bool) (d : ByteArray) (s p : Int) (w : World) (hd : d.size ≤ maxLen) (h : 1048576 < d.size ∨ p < 0 ∨ 18 < p ∨ s < 0) :
    Calls Try.prog 3 #[.bool neg, .string d, .int .i64 s, .int .i64 p] w fun e w' => e = .returned (.bool true) ∧ Below w.heap.size w w' := by
  by_cases g0 : 1048576 < d.size
  · go_enter Try.func3, Try.ntmps3
    go_wp2_with fail
    refine (bytes_any _ _ _ _ _ hd).mono ?_
    rintro e w' ⟨⟨b, rfl⟩, rfl⟩
    cases b <;> (go_wp2; go_ret; exact ⟨rfl, Below.refl _ _⟩)
  by_cases g1 : p < 0
  · go_enter Try.func3, Try.ntmps3
    go_wp2_with fail
    refine (bytes_any _ _ _ _ _ hd).mono ?_
    rintro e w' ⟨⟨b, rfl⟩, rfl⟩
    cases b <;> (go_wp2; go_ret; exact ⟨rfl, Below.refl _ _⟩)
  by_cases g2 : 18 < p
  · go_enter Try.func3, Try.ntmps3
    go_wp2_with fail
    refine (bytes_any _ _ _ _ _ hd).mono ?_
    rintro e w' ⟨⟨b, rfl⟩, rfl⟩
    cases b <;> (go_wp2; go_ret; exact ⟨rfl, Below.refl _ _⟩)
  have g3 : s < 0 := by omega
  clear h
  go_enter Try.func3, Try.ntmps3
  go_wp2_with fail
  refine (bytes_any _ _ _ _ _ hd).mono ?_
  rintro e w' ⟨⟨b, rfl⟩, rfl⟩
  cases b <;> (go_wp2; go_ret; exact ⟨rfl, Below.refl _ _⟩)

set_option maxHeartbeats 2000000 in
theorem law_in (neg : Bool) (d : ByteArray) (s p : Int) (w : World) (hd : d.size ≤ 1048576) (hs0 : 0 ≤ s) (hs1 : s ≤ 9223372036854775807) (hp0 : 0 ≤ p) (hp1 : p ≤ 18) :
    Calls Try.prog 3 #[.bool neg, .string d, .int .i64 s, .int .i64 p] w fun e w' => e = .returned (.bool true) ∧ Below w.heap.size w w' := by
  go_enter Try.func3, Try.ntmps3
  go_wp2_with fail
  refine (bytes_any _ _ _ _ _ (by unfold maxLen; omega)).mono ?_
  rintro e w' ⟨⟨b, rfl⟩, rfl⟩
  cases b
  · go_wp2; go_ret; exact ⟨rfl, Below.refl _ _⟩
  go_wp2
  go_loop [9] (fun j => ∃ k : Nat, k ≤ d.size ∧ j = .int .i64 k) (fun j => d.size - (intOf j).toNat)
  case atStart => exact ⟨0, Nat.zero_le _, rfl⟩
  case round =>
    obtain ⟨k, hk, rfl⟩ := hrel
    by_cases hlt : k < d.size
    · go_wp2
      all_goals first
        | (go_ret; exact ⟨rfl, Below.refl _ _⟩)
        | (go_round
           case rel => exact ⟨k + 1, by omega, by go_num⟩
           case measure => simp [intOf]; omega)
    · by_cases hn : d.size = 0
      · by_cases hsp : 0 < s
        · go_wp2
          go_ret
          exact ⟨rfl, Below.refl _ _⟩
        · obtain rfl : s = 0 := by omega
          have HG : Hid (Good d 0) := ⟨fun _ => rfl, fun h => absurd h (by omega), fun h => absurd h (by omega)⟩
          go_wp2_with fail
          refine (decimal_any _ _ _ _).mono ?_
          rintro e w1 ⟨rfl, rfl⟩
          go_wp2_with fail
          refine (fits_any _ _ _ _ _ (by omega) (by omega) hp0 hp1).mono ?_
          rintro e w1 ⟨rfl, rfl⟩
          go_wp2_with fail
          refine (written_any _ _ _ _ (by omega) HG.out hs0 hs1 hp0 hp1).mono ?_
          rintro e w1 ⟨rfl, hb1⟩
          have hb1' := below_two hb1
          by_cases hp2 : 1 ≤ p
          · go_wp2_with fail
            refine (ten_any _ _ _ (by omega) hs0 hs1).mono ?_
            rintro e w2 ⟨d', s', rfl, rfl, ht⟩
            have ht1 := ten_bounds ht (by omega)
            go_wp2_with fail
            refine (decimal_any _ _ _ _).mono ?_
            rintro e w2 ⟨rfl, rfl⟩
            go_wp2_with fail
            refine (fits_any _ _ _ _ _ ht1.1 ht1.2 (by omega) (by omega)).mono ?_
            rintro e w2 ⟨rfl, rfl⟩
            rw [ten_fits ht hp2 hp1]
            go_wp2
            go_ret
            exact ⟨rfl, below_two' hb1'⟩
          · go_wp2
            go_ret
            exact ⟨rfl, hb1'⟩
      have hn0 : 0 < d.size := by omega
      by_cases hf : ((d[0]).toNat : Int) = 48
      · go_wp2
        go_ret
        exact ⟨rfl, Below.refl _ _⟩
      have hf' : (((d[0]).toNat : Int) == 48) = false := by simpa using hf
      by_cases hsp : 0 < s
      · by_cases hl : ((d[d.size - 1]).toNat : Int) = 48
        · go_wp2
          go_ret
          exact ⟨rfl, Below.refl _ _⟩
        · have HG : Hid (Good d s) := ⟨fun h => absurd h hn, fun _ => hf, fun _ _ => hl⟩
          have hl' : (((d[d.size - 1]).toNat : Int) == 48) = false := by simpa using hl
          clear hf hl
          go_wp2_with fail
          refine (decimal_any _ _ _ _).mono ?_
          rintro e w1 ⟨rfl, rfl⟩
          go_wp2_with fail
          refine (fits_any _ _ _ _ _ (by omega) (by omega) hp0 hp1).mono ?_
          rintro e w1 ⟨rfl, rfl⟩
          go_wp2_with fail
          refine (written_any _ _ _ _ (by omega) HG.out hs0 hs1 hp0 hp1).mono ?_
          rintro e w1 ⟨rfl, hb1⟩
          have hb1' := below_two hb1
          by_cases hp2 : 1 ≤ p
          · go_wp2_with fail
            refine (ten_any _ _ _ (by omega) hs0 hs1).mono ?_
            rintro e w2 ⟨d', s', rfl, rfl, ht⟩
            have ht1 := ten_bounds ht (by omega)
            go_wp2_with fail
            refine (decimal_any _ _ _ _).mono ?_
            rintro e w2 ⟨rfl, rfl⟩
            go_wp2_with fail
            refine (fits_any _ _ _ _ _ ht1.1 ht1.2 (by omega) (by omega)).mono ?_
            rintro e w2 ⟨rfl, rfl⟩
            rw [ten_fits ht hp2 hp1]
            go_wp2
            go_ret
            exact ⟨rfl, below_two' hb1'⟩
          · go_wp2
            go_ret
            exact ⟨rfl, hb1'⟩
      · obtain rfl : s = 0 := by omega
        have HG : Hid (Good d 0) := ⟨fun _ => rfl, fun _ => hf, fun h => absurd h (by omega)⟩
        clear hf
        go_wp2_with fail
        refine (decimal_any _ _ _ _).mono ?_
        rintro e w1 ⟨rfl, rfl⟩
        go_wp2_with fail
        refine (fits_any _ _ _ _ _ (by omega) (by omega) hp0 hp1).mono ?_
        rintro e w1 ⟨rfl, rfl⟩
        go_wp2_with fail
        refine (written_any _ _ _ _ (by omega) HG.out hs0 hs1 hp0 hp1).mono ?_
        rintro e w1 ⟨rfl, hb1⟩
        have hb1' := below_two hb1
        by_cases hp2 : 1 ≤ p
        · go_wp2_with fail
          refine (ten_any _ _ _ (by omega) hs0 hs1).mono ?_
          rintro e w2 ⟨d', s', rfl, rfl, ht⟩
          have ht1 := ten_bounds ht (by omega)
          go_wp2_with fail
          refine (decimal_any _ _ _ _).mono ?_
          rintro e w2 ⟨rfl, rfl⟩
          go_wp2_with fail
          refine (fits_any _ _ _ _ _ ht1.1 ht1.2 (by omega) (by omega)).mono ?_
          rintro e w2 ⟨rfl, rfl⟩
          rw [ten_fits ht hp2 hp1]
          go_wp2
          go_ret
          exact ⟨rfl, below_two' hb1'⟩
        · go_wp2
          go_ret
          exact ⟨rfl, hb1'⟩

end Go.Proofs.Qxb6618308a
