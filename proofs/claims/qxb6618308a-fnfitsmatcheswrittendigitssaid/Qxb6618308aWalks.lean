/-
  THE WALKS, FIRST PART: the leaves.
-/
import Derived.Test.Qxb6618308aRows
import Derived.WalkKit
import Derived.WalkLawsBesides
import Derived.WalkSpells
import Derived.Below
namespace Go.Proofs.Qxb6618308a
open Go.RowKit

theorem bytes_any (neg : Bool) (d : ByteArray) (s p : Int) (w : World) (hd : d.size ≤ maxLen) :
    Calls Try.prog 4 #[.bool neg, .string d, .int .i64 s, .int .i64 p] w fun e w' => (∃ b, e = .returned (.bool b)) ∧ w' = w := by
  unfold maxLen at hd
  go_enter Try.func4, Try.ntmps4
  go_wp2
  all_goals (go_ret; exact ⟨⟨_, rfl⟩, rfl⟩)

theorem decimal_any (neg : Bool) (d : ByteArray) (s : Int) (w : World) :
    Calls Try.prog 5 #[.bool neg, .string d, .int .i64 s] w fun e w' => e = .returned (.agg #[.bool neg, .string d, .int .i64 s]) ∧ w' = w.alloc (.cells #[.bool neg, .string d, .int .i64 s] 24) := by
  go_enter Try.func5, Try.ntmps5
  go_wp2
  exact bodyPost_ret (v := .agg #[.bool neg, .string d, .int .i64 s]) (by simp [results, Try.results5, go_sem]) rfl ⟨rfl, rfl⟩

/-- What 'Fits' answers. -/
def fitsB (n : Nat) (s p : Int) : Bool := decide (s ≤ p ∧ (n : Int) - s + p ≤ 18)

theorem fits_any (neg : Bool) (d : ByteArray) (s p : Int) (w : World) (hd : d.size ≤ 1048577) (hs : 0 ≤ s) (hp : 0 ≤ p) (hp' : p ≤ 18) :
    Calls Try.prog 6 #[.agg #[.bool neg, .string d, .int .i64 s], .int .i64 p] w fun e w' => e = .returned (.bool (fitsB d.size s p)) ∧ w' = w.alloc (.cells #[.bool neg, .string d, .int .i64 s] 24) := by
  by_cases h1 : s ≤ p
  · by_cases h2 : (d.size : Int) - s + p ≤ 18
    · rw [show fitsB d.size s p = true from decide_eq_true ⟨h1, h2⟩]
      go_enter Try.func6, Try.ntmps6
      go_wp2
      go_ret
      exact ⟨rfl, rfl⟩
    · rw [show fitsB d.size s p = false from decide_eq_false (fun h => h2 h.2)]
      go_enter Try.func6, Try.ntmps6
      go_wp2
      go_ret
      exact ⟨rfl, rfl⟩
  · rw [show fitsB d.size s p = false from decide_eq_false (fun h => h1 h.1)]
    go_enter Try.func6, Try.ntmps6
    go_wp2
    go_ret
    exact ⟨rfl, rfl⟩

theorem toList_len (d : ByteArray) : d.toList.length = d.size := by
  rw [ByteArray.toList_eq]; rfl

/-- The size and the scale of ten times the number. -/
def TenIs (n : Nat) (s : Int) (n' : Nat) (s' : Int) : Prop := (0 < s ∧ n' = n ∧ s' = s - 1) ∨ (s = 0 ∧ n = 0 ∧ n' = 0 ∧ s' = 0) ∨ (s = 0 ∧ 0 < n ∧ n' = n + 1 ∧ s' = 0)

/-- 'zzTimesTen': the fields of ten times the number. -/
theorem ten_any (d : ByteArray) (s : Int) (w : World) (hd : d.size ≤ 1048576) (hs : 0 ≤ s) (hs' : s ≤ 9223372036854775807) :
    Calls Try.prog 8 #[.string d, .int .i64 s] w fun e w' => ∃ (d' : ByteArray) (s' : Int), e = .returned (.tuple #[.string d', .int .i64 s']) ∧ w' = w ∧ TenIs d.size s d'.size s' := by
  by_cases h1 : 0 < s
  · go_enter Try.func8, Try.ntmps8
    go_wp2
    go_ret2
    exact ⟨_, _, rfl, rfl, .inl ⟨h1, rfl, rfl⟩⟩
  · obtain rfl : s = 0 := by omega
    by_cases h0 : d.size = 0
    · have he : d.toList.isEmpty = true := by rw [List.isEmpty_iff_length_eq_zero, toList_len]; exact h0
      go_enter Try.func8, Try.ntmps8
      go_wp2
      go_ret2
      exact ⟨_, _, rfl, rfl, .inr (.inl ⟨rfl, rfl, rfl, rfl⟩)⟩
    · have he : d.toList.isEmpty = false := by rw [Bool.eq_false_iff]; intro h; rw [List.isEmpty_iff_length_eq_zero, toList_len] at h; exact h0 h
      go_enter Try.func8, Try.ntmps8
      go_wp2
      go_ret2
      exact ⟨_, _, rfl, rfl, .inr (.inr ⟨rfl, by omega, by rw [ByteArray.size_append]; rfl, rfl⟩)⟩

end Go.Proofs.Qxb6618308a
