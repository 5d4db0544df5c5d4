/-
  THE WALKS, FIRST PART: the leaves.
-/
import Derived.Test.Qxb6618301aRows
import Derived.Test.Qxb6618301aFloat3
import Derived.WalkKit
import Derived.WalkLawsBesides
import Derived.WalkSpells
import Derived.Below
namespace Go.Proofs.Qxb6618301a
open Go.RowKit
open Fl (FRes IsNaN Rep fl same TWO ONE INF MAXM)

theorem nan_word (b r : Nat) (_hb : b < 2) (hr : r < 4503599627370495) : IsNaN (b * 9223372036854775808 + 9218868437227405312 + 1 + r) := by
  refine ⟨(b * 9223372036854775808 + 9218868437227405312 + 1 + r) / 9223372036854775808 % 2 == 1, 1 + r, ?_⟩
  unfold Ieee.Format.read
  rw [Fl.binade_eq, Fl.inf_eq, Fl.sign_eq]
  have e1 : (b * 9223372036854775808 + 9218868437227405312 + 1 + r) % 9223372036854775808 = 9218868437227405312 + 1 + r := by omega
  simp only [e1]
  rw [if_neg (by omega), if_neg (by omega), if_neg (by omega), show 9218868437227405312 + 1 + r - 9218868437227405312 = 1 + r from by omega]

theorem cut_nan (x y t : Nat) : IsNaN (Question.cut (.nanBits .f64 x y) t) := by
  have h1 : t % 2 < 2 := Nat.mod_lt _ (by decide)
  have h2 : t / 2 % 4503599627370495 < 4503599627370495 := Nat.mod_lt _ (by decide)
  exact nan_word (t % 2) (t / 2 % 4503599627370495) h1 h2

/-- The not-a-number that the tape gives in the world w. -/
def nanAt (x y : Nat) (w : World) : Nat := Question.cut (.nanBits .f64 x y) (w.tape w.drawn (.nanBits .f64 x y))
theorem nanAt_nan (x y : Nat) (w : World) : IsNaN (nanAt x y w) := cut_nan x y _

/-- AN OPERATION ON FLOATS THAT HAS NO ANSWER: a not-a-number off the tape. -/
theorem run_float_none {P : Program} (w : World) (op : BinOp) (t : TypeId) (x y : Nat) (hop : op = .add ∨ op = .mul ∨ op = .quo) (h : floatBits op .f64 x y = none) :
    (binOp op t (.float .f64 x) (.float .f64 y)).run P w = .ok (.float .f64 (nanAt x y w)) w.drew := by
  unfold floatBits at h
  rcases hop with rfl | rfl | rfl <;> simp only at h <;> simp [binOp, Op.floatArith, h, Question.forced, nanAt]

theorem same_any (a b : Nat) (w : World) : Calls Try.prog 11 #[.float .f64 a, .float .f64 b] w fun e w' => e = .returned (.bool (same a b)) ∧ w' = w := by
  by_cases h : (FloatKind.f64.format.order a a != some .eq) = true
  · have hs : same a b = (FloatKind.f64.format.order b b != some .eq) := if_pos h
    rw [hs]; clear hs
    go_enter Try.func11, Try.ntmps11
    go_wp2
    go_ret
    exact ⟨rfl, rfl⟩
  · have hs : same a b = (FloatKind.f64.format.order a b == some .eq) := if_neg h
    rw [hs]; clear hs
    have h' : (FloatKind.f64.format.order a a != some .eq) = false := by simpa using h
    clear h
    go_enter Try.func11, Try.ntmps11
    go_wp2
    go_ret
    exact ⟨rfl, rfl⟩

theorem nan_any (w : World) : Calls Try.prog 14 #[] w fun e w' => ∃ r, e = .returned (.float .f64 r) ∧ IsNaN r ∧ w' = w.drew := by
  have hq : floatBits .quo .f64 0 0 = none := Fl.div_zero_zero
  have hr := fun w => run_float_none (P := Try.prog) w .quo 27 0 0 (by simp) hq
  clear hq
  go_enter Try.func14, Try.ntmps14
  go_wp2
  go_ret
  exact ⟨_, rfl, nanAt_nan _ _ _, rfl⟩

theorem inf_any (w : World) : Calls Try.prog 18 #[] w fun e w' => e = .returned (.float .f64 INF) ∧ w' = w := by
  have hr := fun w => run_float_arith (P := Try.prog) w .quo 27 .f64 4607182418800017408 0 INF Fl.one_div_zero
  go_enter Try.func18, Try.ntmps18
  go_wp2
  go_ret
  exact ⟨rfl, rfl⟩

theorem frombits (w : World) : (callFunc 21 #[.int .u64 9221120237041090561]).run Try.prog w = .ok (.value (.float .f64 9221120237041090561)) w := by
  rw [run_callFunc_extern (e := Extern.MathFloatBits.float64frombits) Try.func21 (by kernel_rfl) (by kernel_rfl) (by kernel_rfl) (by kernel_rfl)]
  rfl

theorem mathNaN_any (w : World) : Calls Try.prog 19 #[] w fun e w' => ∃ r, e = .returned (.float .f64 r) ∧ IsNaN r ∧ w' = w := by
  have hf := frombits
  go_enter Try.func19, Try.ntmps19
  go_wp2
  go_ret
  exact ⟨_, rfl, nan_word 0 2251799813685248 (by decide) (by decide), rfl⟩

theorem bytes5_any (a0 a1 a2 a3 : Option Addr) (l0 c0 l1 c1 l2 c2 l3 c3 : Nat) (m : Bool) (w : World) :
    Calls Try.prog 5 #[.slice a0 l0 c0, .slice a1 l1 c1, .slice a2 l2 c2, .slice a3 l3 c3, .bool m] w fun e w' => (∃ b, e = .returned (.bool b)) ∧ w' = w := by
  go_enter Try.func5, Try.ntmps5
  go_wp2
  all_goals (go_ret; exact ⟨⟨_, rfl⟩, rfl⟩)

theorem bytes12_any (a0 a1 a2 a3 : Option Addr) (l0 c0 l1 c1 l2 c2 l3 c3 : Nat) (m : Bool) (w : World) :
    Calls Try.prog 12 #[.slice a0 l0 c0, .slice a1 l1 c1, .slice a2 l2 c2, .slice a3 l3 c3, .bool m] w fun e w' => (∃ b, e = .returned (.bool b)) ∧ w' = w := by
  go_enter Try.func12, Try.ntmps12
  go_wp2
  all_goals (go_ret; exact ⟨⟨_, rfl⟩, rfl⟩)

/-- A slice of float64s: its elements' words. -/
def FRow (w : World) (a : Option Addr) (len : Nat) (fs : List Nat) : Prop :=
  fs.length = len ∧ (len = 0 ∨ ∃ b off, a = some ⟨b, off, none⟩ ∧ ∀ i, i < len → w.cell? ⟨b, off + i, none⟩ = some (.float .f64 (fs.getD i 0)))

/-- The words read as these whole numbers, each at most 2^40. -/
def Whole (fs ks : List Nat) : Prop := fs.length = ks.length ∧ ∀ i, i < fs.length → ks.getD i 0 ≤ 1099511627776 ∧ Rep (fs.getD i 0) (ks.getD i 0)

/-- As far as the first k words. -/
def WholeTo (fs ks : List Nat) (k : Nat) : Prop := ks.length = k ∧ ∀ i, i < k → ks.getD i 0 ≤ 1099511627776 ∧ Rep (fs.getD i 0) (ks.getD i 0)

theorem wholeTo_zero (fs : List Nat) : WholeTo fs [] 0 := ⟨rfl, fun i h => absurd h (by omega)⟩
theorem getD_snoc (ks : List Nat) (n i : Nat) : (ks ++ [n]).getD i 0 = if i < ks.length then ks.getD i 0 else if i = ks.length then n else 0 := by
  by_cases h : i < ks.length
  · rw [if_pos h]; simp [List.getElem?_append, h]
  · rw [if_neg h]
    by_cases h2 : i = ks.length
    · rw [if_pos h2]; subst h2; simp
    · rw [if_neg h2]; simp [List.getElem?_append, h]; rw [List.getElem?_eq_none (by simp; omega)]; rfl
theorem wholeTo_succ {fs ks : List Nat} {k x n : Nat} (h : WholeTo fs ks k) (hx : x = fs.getD k 0) (hn : n ≤ 1099511627776) (hr : Rep x n) : WholeTo fs (ks ++ [n]) (k + 1) := by
  obtain ⟨h1, h2⟩ := h
  refine ⟨by simp [h1], fun i hi => ?_⟩
  rw [getD_snoc, h1]
  by_cases hik : i < k
  · rw [if_pos hik]; exact h2 i hik
  · obtain rfl : i = k := by omega
    rw [if_neg hik, if_pos rfl]
    subst hx
    exact ⟨hn, hr⟩
theorem sum_snoc (ks : List Nat) (n : Nat) : (ks ++ [n]).sum = ks.sum + n := by simp
theorem sum_le {ks : List Nat} (h : ∀ i, i < ks.length → ks.getD i 0 ≤ 1099511627776) : ks.sum ≤ ks.length * 1099511627776 := by
  induction ks with
  | nil => simp
  | cons a l ih =>
    have h0 := h 0 (by simp)
    have := ih (fun i hi => by have := h (i + 1) (by simp; omega); simpa using this)
    simp at h0 ⊢
    omega
theorem wholeTo_sum {fs ks : List Nat} {k : Nat} (h : WholeTo fs ks k) : ks.sum ≤ k * 1099511627776 := by
  have := sum_le (fun i hi => (h.2 i (by rw [← h.1]; exact hi)).1)
  rw [h.1] at this
  exact this

set_option maxHeartbeats 400000 in
/-- 'zzIntegralSum': it says no; or every word is a whole number and it hands back their sum. -/
theorem integral_any (a : Option Addr) (len cap : Nat) (fs : List Nat) (w : World) (h : FRow w a len fs) (hl : len ≤ 4096) :
    Calls Try.prog 6 #[.slice a len cap] w fun e w' => ((∃ s, e = .returned (.tuple #[.int .i64 s, .bool false])) ∨ (∃ ks, Whole fs ks ∧ e = .returned (.tuple #[.int .i64 (ks.sum : Nat), .bool true]))) ∧ w' = w := by
  obtain ⟨hlen, hc⟩ := h
  go_enter Try.func6, Try.ntmps6
  go_wp2
  go_loop [4, 5] (fun s i => ∃ (k : Nat) (ks : List Nat), k ≤ len ∧ i = .int .i64 k ∧ WholeTo fs ks k ∧ s = .int .i64 (ks.sum : Nat)) (fun _ i => len - (intOf i).toNat)
  case atStart => exact ⟨0, [], Nat.zero_le _, rfl, wholeTo_zero fs, rfl⟩
  case round =>
    obtain ⟨k, ks, hk, rfl, hw, rfl⟩ := hrel
    have hs := wholeTo_sum hw
    by_cases hlt : k < len
    · rcases hc with h0 | ⟨b, off, rfl, hc⟩
      · omega
      obtain ⟨x, hx⟩ : ∃ x, x = fs.getD k 0 := ⟨_, rfl⟩
      have hcx : w.cell? ⟨b, off + k, none⟩ = some (.float .f64 x) := by rw [hx]; exact hc k hlt
      have HX : Hid (x = fs.getD k 0) := hx
      clear hx hc
      by_cases h1 : (FloatKind.f64.format.order x 0 == some .gt || FloatKind.f64.format.order x 0 == some .eq) = true
      · by_cases h2 : (FloatKind.f64.format.order x 4787326403894837248 == some .lt || FloatKind.f64.format.order x 4787326403894837248 == some .eq) = true
        · obtain ⟨n, hn, hv, hrep⟩ := Fl.tests_whole h1 h2
          have hcv := fun w => run_convert_float_int (P := Try.prog) w 27 2 .f64 .i64 x n (by kernel_rfl) Try.underlying2 hv
          clear hv
          by_cases h3 : (FloatKind.f64.format.order (floatOfInt .f64 (n : Int)) x != some .eq) = true
          · clear hrep hw
            go_wp2
            go_ret2
            exact ⟨.inl ⟨_, rfl⟩, rfl⟩
          · have h3' : (FloatKind.f64.format.order (floatOfInt .f64 (n : Int)) x != some .eq) = false := by simpa using h3
            have hr : Rep x n := hrep (by rw [← Fl.floatOfInt_nat]; exact (by simpa using h3' : FloatKind.f64.format.order (floatOfInt .f64 (n : Int)) x = some .eq))
            have HR : Hid (Rep x n) := hr
            have HW : Hid (WholeTo fs ks k) := hw
            clear hrep h3 hr hw
            go_wp2
            go_round
            case rel => exact ⟨k + 1, ks ++ [n], by omega, by go_num, wholeTo_succ HW.out HX.out hn HR.out, by rw [sum_snoc]; go_num⟩
            case measure => simp [intOf]; omega
        · have h2' : (FloatKind.f64.format.order x 4787326403894837248 == some .lt || FloatKind.f64.format.order x 4787326403894837248 == some .eq) = false := by simpa using h2
          clear h2 hw
          go_wp2
          go_ret2
          exact ⟨.inl ⟨_, rfl⟩, rfl⟩
      · have h1' : (FloatKind.f64.format.order x 0 == some .gt || FloatKind.f64.format.order x 0 == some .eq) = false := by simpa using h1
        clear h1 hw
        go_wp2
        go_ret2
        exact ⟨.inl ⟨_, rfl⟩, rfl⟩
    · obtain rfl : k = len := by omega
      have HW : Hid (WholeTo fs ks k) := hw
      clear hw
      go_wp2
      go_ret2
      exact ⟨.inr ⟨ks, ⟨by rw [HW.out.1]; exact hlen, fun i hi => HW.out.2 i (by omega)⟩, rfl⟩, rfl⟩

end Go.Proofs.Qxb6618301a
