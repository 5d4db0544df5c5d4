/-
  THE PLAIN LAWS OF FLOAT64, THIRD PART: what 'zzIntegralSum''s tests say of a word; the ratio that is wanted.
-/
import Derived.Test.Qxb6618301aFloat2
import Derived.Laws.FloatArith
namespace Go.Proofs.Qxb6618301a.Fl
open Ieee

/-- The word of 2^40. -/
def MAXM : Nat := 4787326403894837248
theorem read_max : double.read MAXM = .number false 4503599627370496 (-12) := by decide

theorem read_place {x m : Nat} {s : Bool} {i : Int} (h : double.read x = .number s m i) : ∃ a : Nat, i = -1074 + a := by
  unfold Format.read at h
  rw [least_eq] at h
  dsimp only at h
  split at h
  · injection h with _ _ h3; exact ⟨0, by omega⟩
  · split at h
    · injection h with _ _ h3; exact ⟨_, h3.symm⟩
    · split at h <;> cases h

theorem signed_val (s : Bool) (m u : Nat) : signed s m u = if s then -((m * 2 ^ u : Nat) : Int) else ((m * 2 ^ u : Nat) : Int) := by
  unfold signed; rw [Nat.shiftLeft_eq]

theorem compare_gt_eq {a b : Int} (h : (some (compare a b) == some Ordering.gt || some (compare a b) == some Ordering.eq) = true) : b ≤ a := by
  simp only [compare, compareOfLessAndEq] at h
  split at h
  · simp at h
  · omega

theorem compare_lt_eq {a b : Int} (h : (some (compare a b) == some Ordering.lt || some (compare a b) == some Ordering.eq) = true) : a ≤ b := by
  simp only [compare, compareOfLessAndEq] at h
  split at h
  · omega
  · split at h
    · omega
    · simp at h

theorem compare_eq {a b : Int} (h : some (compare a b) = some Ordering.eq) : a = b := by
  simp only [compare, compareOfLessAndEq] at h
  split at h
  · simp at h
  · split at h
    · assumption
    · simp at h

theorem cut_zero_le (s : Bool) (n d : Nat) : Toward.zero.cut s n d * 2 ^ d ≤ n := by
  unfold Toward.cut
  dsimp only
  rw [Nat.shiftLeft_eq, Nat.one_mul]
  simp only [Bool.toNat_false, Nat.add_zero]
  by_cases h : d ≤ n.log2 + 2
  · rw [Nat.min_eq_left h]
    exact Nat.div_mul_le_self n (2 ^ d)
  · rw [Nat.min_eq_right (by omega)]
    have : n / 2 ^ (n.log2 + 2) = 0 := by
      apply Nat.div_eq_of_lt
      have := lt_log2 n
      rw [show n.log2 + 2 = n.log2 + 1 + 1 from rfl, Nat.pow_succ]
      omega
    rw [this]
    omega

theorem pow_split (a c : Nat) (h : c ≤ a) : 2 ^ (a - c) * 2 ^ c = 2 ^ a := by
  rw [← Nat.pow_add]; congr 1; omega

theorem le_of_le_mul_pow {x y c : Nat} (h : x ≤ y) : x * 2 ^ c ≤ y * 2 ^ c := Nat.mul_le_mul_right _ h

/-- A FINITE WORD THAT PASSES THE TWO TESTS: not below zero, at most 2^40 units. -/
theorem tests_number {x : Nat} (h1 : (double.order x 0 == some .gt || double.order x 0 == some .eq) = true) (h2 : (double.order x MAXM == some .lt || double.order x MAXM == some .eq) = true) :
    ∃ (t : Bool) (n a : Nat), double.read x = .number t n (-1074 + a) ∧ n * 2 ^ a ≤ 1099511627776 * U ∧ (t = true → n = 0) := by
  unfold Format.order at h1 h2
  rw [read_zero] at h1
  rw [read_max] at h2
  cases hr : double.read x with
  | nan s t => rw [hr] at h1; simp [Datum.order] at h1
  | infinity s =>
    rw [hr] at h1 h2
    cases s <;> simp [Datum.order] at h1 h2
  | number s m i =>
    obtain ⟨a, rfl⟩ := read_place hr
    rw [hr] at h1 h2
    unfold Datum.order at h1 h2
    dsimp only at h1 h2
    have e1 : min (-1074 + (a : Int)) (-1074) = -1074 := by omega
    rw [e1] at h1
    have g1 := compare_gt_eq h1
    rw [signed_val, signed_val] at g1
    have e2 : min (-1074 + (a : Int)) (-12) = -1074 + ((min a 1062 : Nat) : Int) := by omega
    rw [e2] at h2
    have g2 := compare_lt_eq h2
    rw [signed_val, signed_val] at g2
    rw [show (-1074 + (a : Int) - (-1074 + ((min a 1062 : Nat) : Int))).toNat = a - min a 1062 from by omega,
      show (-12 - (-1074 + ((min a 1062 : Nat) : Int))).toNat = 1062 - min a 1062 from by omega] at g2
    have ht : s = true → m = 0 := by
      rintro rfl
      simp only [Nat.zero_mul, if_true] at g1
      have : m * 2 ^ (-1074 + (a : Int) - -1074).toNat = 0 := by
        generalize m * 2 ^ (-1074 + (a : Int) - -1074).toNat = q at g1 ⊢
        simp only [Bool.false_eq_true, if_false] at g1
        omega
      rcases Nat.mul_eq_zero.1 this with h | h
      · exact h
      · have := Nat.two_pow_pos (-1074 + (a : Int) - -1074).toNat; omega
    refine ⟨s, m, a, rfl, ?_, ht⟩
    have g3 : m * 2 ^ (a - min a 1062) ≤ 4503599627370496 * 2 ^ (1062 - min a 1062) := by
      cases s with
      | true => rw [ht rfl, Nat.zero_mul]; exact Nat.zero_le _
      | false => simp only [Bool.false_eq_true, if_false] at g2; omega
    have g4 := le_of_le_mul_pow (c := min a 1062) g3
    rw [Nat.mul_assoc, Nat.mul_assoc, pow_split a _ (by omega), pow_split 1062 _ (by omega)] at g4
    have e3 : 4503599627370496 * 2 ^ 1062 = 1099511627776 * U := by
      unfold U
      have hd := dep_eq
      have he : dep = 12 + 1062 := hd
      generalize dep = D at he
      generalize 1062 = c at he ⊢
      subst he
      rw [Nat.pow_add, ← Nat.mul_assoc]
    rw [e3] at g4
    exact g4

theorem floatOfInt_nat (k : Nat) : floatOfInt .f64 (k : Int) = fl k := by
  show double.nearest (decide ((k : Int) < 0)) (k : Int).natAbs 0 = fl k
  rw [decide_eq_false (by omega), Int.natAbs_natCast]
  rfl

/-- WHAT THE THREE TESTS SAY: the conversion is exact in range; if it comes back equal, the word is that whole number. -/
theorem tests_whole {x : Nat} (h1 : (double.order x 0 == some .gt || double.order x 0 == some .eq) = true) (h2 : (double.order x MAXM == some .lt || double.order x MAXM == some .eq) = true) :
    ∃ k : Nat, k ≤ 1099511627776 ∧ floatToIntVal .f64 x .i64 = some (k : Int) ∧ (double.order (fl k) x = some .eq → Rep x k) := by
  obtain ⟨t, n, a, hr, hv, ht⟩ := tests_number h1 h2
  have hd := dep_eq
  have hK : Toward.zero.cut t (n <<< (-1074 + (a : Int)).toNat) (-(-1074 + (a : Int))).toNat * U ≤ n * 2 ^ a := by
    have hc := cut_zero_le t (n <<< (-1074 + (a : Int)).toNat) (-(-1074 + (a : Int))).toNat
    generalize Toward.zero.cut t (n <<< (-1074 + (a : Int)).toNat) (-(-1074 + (a : Int))).toNat = K at *
    rw [Nat.shiftLeft_eq] at hc
    unfold U
    by_cases hge : dep ≤ a
    · rw [show (-1074 + (a : Int)).toNat = a - dep from by omega, show (-(-1074 + (a : Int))).toNat = 0 from by omega, Nat.pow_zero, Nat.mul_one] at hc
      have := le_of_le_mul_pow (c := dep) hc
      rw [Nat.mul_assoc, pow_split a dep hge] at this
      exact this
    · rw [show (-1074 + (a : Int)).toNat = 0 from by omega, show (-(-1074 + (a : Int))).toNat = dep - a from by omega, Nat.pow_zero, Nat.mul_one] at hc
      have := le_of_le_mul_pow (c := a) hc
      rw [Nat.mul_assoc, pow_split dep a (by omega)] at this
      exact this
  have hs : signed t (Toward.zero.cut t (n <<< (-1074 + (a : Int)).toNat) (-(-1074 + (a : Int))).toNat) 0 = ((Toward.zero.cut t (n <<< (-1074 + (a : Int)).toNat) (-(-1074 + (a : Int))).toNat : Nat) : Int) := by
    have := signed_rep t (Toward.zero.cut t (n <<< (-1074 + (a : Int)).toNat) (-(-1074 + (a : Int))).toNat) 0 (fun h => by
      rw [ht h] at hK ⊢
      rw [Nat.zero_mul] at hK
      rcases Nat.mul_eq_zero.1 (Nat.le_zero.1 hK) with h | h
      · exact h
      · have := U_pos; omega)
    rw [this, Nat.pow_zero, Nat.mul_one]
  have hi : (FloatKind.f64.decode x).toInt .zero = some ((Toward.zero.cut t (n <<< (-1074 + (a : Int)).toNat) (-(-1074 + (a : Int))).toNat : Nat) : Int) := by
    unfold FloatKind.decode Datum.toInt
    show (match (double.read x).integral .zero with | .number s m _ => some (signed s m 0) | _ => none) = _
    rw [hr]
    unfold Datum.integral
    dsimp only
    rw [hs]
  generalize Toward.zero.cut t (n <<< (-1074 + (a : Int)).toNat) (-(-1074 + (a : Int))).toNat = K at *
  have hKle : K ≤ 1099511627776 := Nat.le_of_mul_le_mul_right (Nat.le_trans hK hv) U_pos
  refine ⟨K, hKle, ?_, ?_⟩
  · unfold floatToIntVal
    rw [hi]
    dsimp only
    rw [if_pos]
    constructor
    · have : IntKind.i64.min = -9223372036854775808 := by decide
      omega
    · have : IntKind.i64.max = 9223372036854775807 := by decide
      omega
  · intro ho
    obtain ⟨m', b, hr', hv'⟩ := read_fl K (by omega)
    unfold Format.order at ho
    rw [hr, hr'] at ho
    unfold Datum.order at ho
    dsimp only at ho
    have e2 : min (-1074 + (b : Int)) (-1074 + (a : Int)) = -1074 + ((min b a : Nat) : Int) := by omega
    rw [e2] at ho
    have g := compare_eq ho
    rw [signed_rep false m' _ (fun h => by cases h), signed_rep t n _ ht,
      show (-1074 + (b : Int) - (-1074 + ((min b a : Nat) : Int))).toNat = b - min b a from by omega,
      show (-1074 + (a : Int) - (-1074 + ((min b a : Nat) : Int))).toNat = a - min b a from by omega] at g
    have g' : m' * 2 ^ (b - min b a) = n * 2 ^ (a - min b a) := by omega
    have g2 : m' * 2 ^ (b - min b a) * 2 ^ min b a = n * 2 ^ (a - min b a) * 2 ^ min b a := by rw [g']
    rw [Nat.mul_assoc, Nat.mul_assoc, pow_split b _ (by omega), pow_split a _ (by omega), hv'] at g2
    exact ⟨t, n, a, hr, g2.symm, ht⟩

/-! ### The ratio that is wanted -/
theorem same_ratio (S n T p r r' : Nat) (hS : S ≤ 9007199254740992) (hn : n ≤ 4096) (h0 : n = 0 → S = 0) (hT : T ≤ 9007199254740992) (hp : p ≤ 4096) (h0' : p = 0 → T = 0)
    (g : Ratio S n T p r) (g' : Ratio S n T p r') : same r r' = true := by
  rcases ratio_cases S n T p r hS hn h0 hT hp h0' g with ⟨c, nr⟩ | ⟨n0, p0, e, T0, er⟩ | ⟨n0, p0, S0, e, er⟩ | ⟨n0, p0, S0, T0, nm, lo, hi⟩ <;>
  rcases ratio_cases S n T p r' hS hn h0 hT hp h0' g' with ⟨c', nr'⟩ | ⟨n0', p0', e', T0', er'⟩ | ⟨n0', p0', S0', e', er'⟩ | ⟨n0', p0', S0', T0', nm', lo', hi'⟩ <;>
  first
  | (exfalso; omega)
  | skip
  · exact same_nan nr nr'
  · subst er er'; exact same_of order_zero
  · subst er er'; exact same_of order_inf
  · exact same_nm nm nm'

/-- What 'zzWantRatio' hands back where memory was measured. -/
def Want (S n T p r : Nat) : Prop := (n = 0 ∨ p = 0 → IsNaN r) ∧ (n ≠ 0 → p ≠ 0 → T = 0 → S = 0 → IsNaN r) ∧ (n ≠ 0 → p ≠ 0 → T = 0 → S ≠ 0 → r = INF) ∧ (n ≠ 0 → p ≠ 0 → T ≠ 0 → Ratio S n T p r)

theorem law_want (S n T p r r' : Nat) (hS : S ≤ 9007199254740992) (hn : n ≤ 4096) (h0 : n = 0 → S = 0) (hT : T ≤ 9007199254740992) (hp : p ≤ 4096) (h0' : p = 0 → T = 0)
    (g : Ratio S n T p r) (g' : Want S n T p r') : same r r' = true := by
  obtain ⟨w1, w2, w3, w4⟩ := g'
  by_cases hT0 : T = 0
  · rcases ratio_cases S n T p r hS hn h0 hT hp h0' g with ⟨c, nr⟩ | ⟨n0, p0, e, T0, er⟩ | ⟨n0, p0, S0, e, er⟩ | ⟨n0, p0, S0, T0, nm, lo, hi⟩
    · by_cases hc : n = 0 ∨ p = 0
      · exact same_nan nr (w1 hc)
      · exact same_nan nr (w2 (by omega) (by omega) hT0 (by omega))
    · omega
    · subst er
      rw [w3 n0 p0 e S0]
      exact same_of order_inf
    · omega
  · by_cases hc : n = 0 ∨ p = 0
    · rcases ratio_cases S n T p r hS hn h0 hT hp h0' g with ⟨c, nr⟩ | ⟨n0, p0, e, T0, er⟩ | ⟨n0, p0, S0, e, er⟩ | ⟨n0, p0, S0, T0, nm, lo, hi⟩
      · exact same_nan nr (w1 hc)
      all_goals omega
    · exact same_ratio S n T p r r' hS hn h0 hT hp h0' g (w4 (by omega) (by omega) hT0)

theorem one_div_zero : double.div ONE 0 = some INF := by decide

end Go.Proofs.Qxb6618301a.Fl
