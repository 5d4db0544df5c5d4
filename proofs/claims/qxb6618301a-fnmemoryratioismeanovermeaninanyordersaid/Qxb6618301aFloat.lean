/-
  THE PLAIN LAWS OF FLOAT64 THAT THE TWO STATEMENTS LEAN ON: no Go in sight. Words of the format 'double', exact sums of whole numbers, a quotient and its double.
-/
import Ieee.Arith
import Derived.Laws.FloatBits
namespace Go.Proofs.Qxb6618301a.Fl
open Ieee

/-! ### The format's numbers -/
theorem frac_eq : double.fractionBits = 52 := rfl
theorem least_eq : double.leastPlace = -1074 := by decide
theorem binade_eq : double.binade = 4503599627370496 := by decide
theorem inf_eq : double.infRung = 9218868437227405312 := by decide
theorem sign_eq : double.signWeight = 9223372036854775808 := by decide

/-! ### Rounding to nearest, ties to even, in plain words -/
/-- 'n / 2 ^ d' to the nearest whole number, ties to even. -/
def rn (n d : Nat) : Nat := n / 2 ^ d + (2 ^ d < 2 * (n % 2 ^ d) || (2 ^ d == 2 * (n % 2 ^ d) && n / 2 ^ d % 2 == 1) : Bool).toNat

theorem cut_even (neg : Bool) (n d : Nat) (h : d ≤ n.log2 + 2) : Toward.even.cut neg n d = rn n d := by
  unfold Toward.cut rn
  rw [Nat.min_eq_left h, Nat.shiftLeft_eq, Nat.one_mul]

theorem rn_zero (n : Nat) : rn n 0 = n := by
  unfold rn
  simp [Nat.mod_one]

theorem rn_two (n d : Nat) : rn (2 * n) (d + 1) = rn n d := by
  unfold rn
  have h1 : 2 * n / 2 ^ (d + 1) = n / 2 ^ d := by
    rw [Nat.pow_succ, Nat.mul_comm (2 ^ d) 2, Nat.mul_div_mul_left _ _ (by decide)]
  have h2 : 2 * n % 2 ^ (d + 1) = 2 * (n % 2 ^ d) := by
    rw [Nat.pow_succ, Nat.mul_comm (2 ^ d) 2, Nat.mul_mod_mul_left]
  rw [h1, h2, Nat.pow_succ]
  generalize 2 ^ d = p
  generalize n % p = r
  congr 2
  have e1 : decide (p * 2 < 2 * (2 * r)) = decide (p < 2 * r) := by
    rw [decide_eq_decide]; omega
  have e2 : (p * 2 == 2 * (2 * r)) = (p == 2 * r) := by
    rw [Bool.eq_iff_iff]; simp; omega
  rw [e1, e2]

/-- The significand that is kept: 53 binary digits of 'mag', rounded. -/
def sig (mag : Nat) : Nat := if 52 ≤ mag.log2 then rn mag (mag.log2 - 52) else mag * 2 ^ (52 - mag.log2)

theorem log2_two (n : Nat) (h : n ≠ 0) : (2 * n).log2 = n.log2 + 1 := by
  exact Nat.log2_two_mul h

theorem sig_two (n : Nat) (h : n ≠ 0) : sig (2 * n) = sig n := by
  unfold sig
  rw [log2_two n h]
  by_cases h1 : 52 ≤ n.log2
  · rw [if_pos (by omega), if_pos h1, show n.log2 + 1 - 52 = (n.log2 - 52) + 1 from by omega, rn_two]
  · by_cases h2 : 52 ≤ n.log2 + 1
    · rw [if_pos h2, if_neg h1, show n.log2 + 1 - 52 = 0 from by omega, show 52 - n.log2 = 1 from by omega, rn_zero, Nat.pow_one, Nat.mul_comm]
    · rw [if_neg h2, if_neg h1, show 52 - n.log2 = (52 - (n.log2 + 1)) + 1 from by omega, Nat.pow_succ]
      rw [Nat.mul_comm 2 n, Nat.mul_assoc, Nat.mul_comm 2]

theorem log2_le (n : Nat) (h : n ≠ 0) : 2 ^ n.log2 ≤ n := Nat.log2_self_le h
theorem lt_log2 (n : Nat) : n < 2 ^ (n.log2 + 1) := Nat.lt_log2_self

theorem sig_bounds (n : Nat) (h : n ≠ 0) : 4503599627370496 ≤ sig n ∧ sig n ≤ 9007199254740992 := by
  have a := log2_le n h
  have b := lt_log2 n
  unfold sig
  by_cases h1 : 52 ≤ n.log2
  · rw [if_pos h1]
    unfold rn
    have e1 : n.log2 = (n.log2 - 52) + 52 := by omega
    generalize n.log2 - 52 = d at *
    have hp : 0 < 2 ^ d := Nat.two_pow_pos d
    have lo : 4503599627370496 ≤ n / 2 ^ d := by
      rw [Nat.le_div_iff_mul_le hp]
      rw [e1, Nat.pow_add] at a
      rw [Nat.mul_comm]; exact a
    have hi : n / 2 ^ d < 9007199254740992 := by
      rw [Nat.div_lt_iff_lt_mul hp]
      rw [e1, show d + 52 + 1 = d + 53 from rfl, Nat.pow_add] at b
      rw [Nat.mul_comm]; exact b
    generalize (decide (2 ^ d < 2 * (n % 2 ^ d)) || (2 ^ d == 2 * (n % 2 ^ d) && n / 2 ^ d % 2 == 1)) = c
    cases c <;> simp <;> omega
  · rw [if_neg h1]
    have e1 : 52 = n.log2 + (52 - n.log2) := by omega
    generalize hd : 52 - n.log2 = d at *
    have hp : 0 < 2 ^ d := Nat.two_pow_pos d
    have e2 : 2 ^ n.log2 * 2 ^ d = 4503599627370496 := by rw [← Nat.pow_add, ← e1]
    have lo := Nat.mul_le_mul_right (2 ^ d) a
    have hi := Nat.mul_lt_mul_of_pos_right b hp
    rw [Nat.pow_succ, Nat.mul_right_comm, e2] at hi
    omega

/-- THE WORD NEAREST TO 'mag * 2 ^ p', where that is a normal number. -/
theorem nearest_normal (mag : Nat) (p : Int) (h : mag ≠ 0) (lo : -1022 ≤ p + mag.log2) (hi : p + mag.log2 ≤ 1022) :
    double.nearest false mag p = (p + mag.log2 + 1022).toNat * 4503599627370496 + sig mag := by
  have sb := sig_bounds mag h
  unfold Format.nearest
  rw [if_neg h, frac_eq, least_eq, binade_eq, inf_eq]
  have hm : max (p + (mag.log2 : Int) - (52 : Nat)) (-1074) = p + mag.log2 - 52 := by omega
  rw [hm]
  dsimp only
  have hk : Toward.even.cut false (mag <<< (p - (p + mag.log2 - 52)).toNat) ((p + (mag.log2 : Int) - 52) - p).toNat = sig mag := by
    unfold sig
    by_cases h1 : 52 ≤ mag.log2
    · rw [if_pos h1, show (p - (p + (mag.log2 : Int) - 52)).toNat = 0 from by omega, Nat.shiftLeft_zero,
        show ((p + (mag.log2 : Int) - 52) - p).toNat = mag.log2 - 52 from by omega]
      exact cut_even _ _ _ (by omega)
    · rw [if_neg h1, show (p - (p + (mag.log2 : Int) - 52)).toNat = 52 - mag.log2 from by omega,
        show ((p + (mag.log2 : Int) - 52) - p).toNat = 0 from by omega, cut_even _ _ _ (Nat.zero_le _), rn_zero, Nat.shiftLeft_eq]
  rw [hk, show (p + (mag.log2 : Int) - 52 - -1074).toNat = (p + mag.log2 + 1022).toNat from by omega]
  have hE : (p + (mag.log2 : Int) + 1022).toNat ≤ 2044 := by omega
  generalize (p + (mag.log2 : Int) + 1022).toNat = E at *
  unfold Format.word
  simp only [Bool.false_eq_true, if_false]
  omega

theorem nearest_zero (p : Int) : double.nearest false 0 p = 0 := by
  unfold Format.nearest Format.word; simp

/-- 'mag * 2' at place p is 'mag' at place p + 1. -/
theorem nearest_two (mag : Nat) (p : Int) (lo : -1022 ≤ p + 1 + mag.log2) (hi : p + 1 + mag.log2 ≤ 1022) :
    double.nearest false (2 * mag) p = double.nearest false mag (p + 1) := by
  by_cases h : mag = 0
  · subst h; rw [Nat.mul_zero, nearest_zero, nearest_zero]
  · have hl := log2_two mag h
    rw [nearest_normal (2 * mag) p (by omega) (by omega) (by omega), nearest_normal mag (p + 1) h lo hi, sig_two mag h, hl]
    congr 2; omega

theorem nearest_shift (mag a : Nat) (p : Int) (lo : -1022 ≤ p + a + mag.log2) (hi : p + a + mag.log2 ≤ 1022) :
    double.nearest false (mag * 2 ^ a) p = double.nearest false mag (p + a) := by
  by_cases h : mag = 0
  · subst h; rw [Nat.zero_mul, nearest_zero, nearest_zero]
  induction a generalizing p with
  | zero => simp
  | succ a ih =>
    have hm : mag * 2 ^ a ≠ 0 := Nat.mul_ne_zero h (by have := Nat.two_pow_pos a; omega)
    have hl : (mag * 2 ^ a).log2 = mag.log2 + a := by
      clear lo hi ih hm
      induction a with
      | zero => simp
      | succ a ih => 
        have hm : mag * 2 ^ a ≠ 0 := Nat.mul_ne_zero h (by have := Nat.two_pow_pos a; omega)
        rw [Nat.pow_succ, ← Nat.mul_assoc, Nat.mul_comm _ 2, log2_two _ hm, ih]; omega
    rw [Nat.pow_succ, ← Nat.mul_assoc, Nat.mul_comm (mag * 2 ^ a) 2, nearest_two _ _ (by omega) (by omega), ih _ (by omega) (by omega)]
    congr 1; omega

/-! ### Reading a word -/
theorem read_normal (E K : Nat) (hE : E ≤ 2044) (lo : 4503599627370496 ≤ K) (hi : K < 9007199254740992) :
    double.read (E * 4503599627370496 + K) = .number false K (E - 1074 : Int) := by
  unfold Format.read
  rw [binade_eq, inf_eq, sign_eq, least_eq]
  have e0 : (E * 4503599627370496 + K) / 9223372036854775808 = 0 := by omega
  have e1 : (E * 4503599627370496 + K) % 9223372036854775808 = E * 4503599627370496 + K := by omega
  have e2 : (E * 4503599627370496 + K) % 4503599627370496 = K - 4503599627370496 := by omega
  have e3 : (E * 4503599627370496 + K) / 4503599627370496 = E + 1 := by omega
  simp only [e0, e1, e2, e3]
  rw [if_neg (by omega), if_pos (by omega)]
  have f1 : 4503599627370496 + (K - 4503599627370496) = K := by omega
  have f2 : (-1074 : Int) + ((E + 1 - 1 : Nat) : Int) = (E : Int) - 1074 := by omega
  rw [f1, f2]
  rfl


/-- 'x' is the normal number 'm * 2 ^ i', its significand full. -/
def Nm (x m : Nat) (i : Int) : Prop := double.read x = .number false m i ∧ 4503599627370496 ≤ m ∧ m < 9007199254740992

/-- The significand and the carry of 'mag' rounded. -/
def mOf (mag : Nat) : Nat := if sig mag < 9007199254740992 then sig mag else 4503599627370496
def up (mag : Nat) : Int := if sig mag < 9007199254740992 then 0 else 1

theorem up_bounds (mag : Nat) : 0 ≤ up mag ∧ up mag ≤ 1 := by unfold up; split <;> omega
theorem mOf_two (n : Nat) (h : n ≠ 0) : mOf (2 * n) = mOf n := by unfold mOf; rw [sig_two n h]
theorem up_two (n : Nat) (h : n ≠ 0) : up (2 * n) = up n := by unfold up; rw [sig_two n h]

theorem nm_nearest (mag : Nat) (p : Int) (h : mag ≠ 0) (lo : -1022 ≤ p + mag.log2) (hi : p + mag.log2 ≤ 1021) :
    Nm (double.nearest false mag p) (mOf mag) (p + mag.log2 - 52 + up mag) := by
  have sb := sig_bounds mag h
  rw [nearest_normal mag p h lo (by omega)]
  have hE : (p + (mag.log2 : Int) + 1022).toNat ≤ 2043 := by omega
  have hE' : ((p + (mag.log2 : Int) + 1022).toNat : Int) = p + mag.log2 + 1022 := by omega
  generalize (p + (mag.log2 : Int) + 1022).toNat = E at *
  unfold Nm mOf up
  by_cases h1 : sig mag < 9007199254740992
  · rw [if_pos h1, if_pos h1, read_normal E _ (by omega) sb.1 h1]
    refine ⟨?_, sb.1, h1⟩
    rw [show (E : Int) - 1074 = p + mag.log2 - 52 + 0 from by omega]
  · rw [if_neg h1, if_neg h1, show E * 4503599627370496 + sig mag = (E + 1) * 4503599627370496 + 4503599627370496 from by omega,
      read_normal (E + 1) _ (by omega) (by omega) (by omega)]
    refine ⟨?_, by omega, by omega⟩
    rw [show ((E + 1 : Nat) : Int) - 1074 = p + mag.log2 - 52 + 1 from by omega]

theorem log2_shift (m a : Nat) (h : m ≠ 0) : (m * 2 ^ a).log2 = m.log2 + a := by
  induction a with
  | zero => simp
  | succ a ih =>
    have hm : m * 2 ^ a ≠ 0 := Nat.mul_ne_zero h (by have := Nat.two_pow_pos a; omega)
    rw [Nat.pow_succ, ← Nat.mul_assoc, Nat.mul_comm _ 2, log2_two _ hm, ih]; omega

theorem log2_sig (m : Nat) (lo : 4503599627370496 ≤ m) (hi : m < 9007199254740992) : m.log2 = 52 :=
  (Nat.log2_eq_iff (by omega)).2 ⟨lo, hi⟩

theorem sig_full (m : Nat) (lo : 4503599627370496 ≤ m) (hi : m < 9007199254740992) : sig m = m := by
  unfold sig
  rw [log2_sig m lo hi, if_pos (Nat.le_refl _), Nat.sub_self, rn_zero]

/-- A full significand is written as it stands. -/
theorem nm_full (m : Nat) (p : Int) (lo : 4503599627370496 ≤ m) (hi : m < 9007199254740992) (pl : -1000 ≤ p) (ph : p ≤ 900) : Nm (double.nearest false m p) m p := by
  have h := nm_nearest m p (by omega) (by rw [log2_sig m lo hi]; omega) (by rw [log2_sig m lo hi]; omega)
  unfold mOf up at h
  rw [log2_sig m lo hi, sig_full m lo hi, if_pos hi, if_pos hi] at h
  rw [show p + ((52 : Nat) : Int) - 52 + 0 = p from by omega] at h
  exact h

/-! ### Whole numbers -/
/-- The unit in which every finite word is a whole number, turned over. -/
def dep : Nat := 1074
theorem dep_eq : dep = 1074 := rfl
def U : Nat := 2 ^ dep

/-- The word of a whole number. -/
def fl (n : Nat) : Nat := double.nearest false n 0

/-- 'x' reads as the whole number k (a zero of either sign as 0). -/
def Rep (x k : Nat) : Prop := ∃ (t : Bool) (n a : Nat), double.read x = .number t n (-1074 + a) ∧ n * 2 ^ a = k * U ∧ (t = true → n = 0)

theorem fl_zero : fl 0 = 0 := nearest_zero 0
theorem read_zero : double.read 0 = .number false 0 (-1074) := by decide

theorem nm_fl (n : Nat) (h : n ≠ 0) (hi : n.log2 ≤ 900) : Nm (fl n) (mOf n) (n.log2 - 52 + up n) := by
  have := nm_nearest n 0 h (by omega) (by omega)
  rw [Int.zero_add] at this
  exact this

/-- A whole number up to 2^53 is written exactly. -/
theorem read_fl (n : Nat) (h : n ≤ 9007199254740992) : ∃ m a : Nat, double.read (fl n) = .number false m (-1074 + a) ∧ m * 2 ^ a = n * U := by
  by_cases h0 : n = 0
  · subst h0
    rw [fl_zero]
    exact ⟨0, 0, read_zero, by simp⟩
  by_cases h1 : n = 9007199254740992
  · subst h1
    have e : fl 9007199254740992 = double.nearest false 4503599627370496 1 := nearest_two 4503599627370496 0 (by decide) (by decide)
    rw [e]
    obtain ⟨hr, _⟩ := nm_full 4503599627370496 1 (by decide) (by decide) (by decide) (by decide)
    have hd := dep_eq
    refine ⟨4503599627370496, 1 + dep, by rw [hr]; congr 1, ?_⟩
    unfold U
    rw [Nat.pow_add, ← Nat.mul_assoc]
  · have hl : n.log2 < 53 := (Nat.log2_lt h0).2 (by omega)
    obtain ⟨hr, _⟩ := nm_fl n h0 (by omega)
    have hs : sig n = n * 2 ^ (52 - n.log2) := by
      unfold sig
      by_cases h2 : 52 ≤ n.log2
      · rw [if_pos h2, show n.log2 - 52 = 0 from by omega, show 52 - n.log2 = 0 from by omega, rn_zero]; simp
      · rw [if_neg h2]
    have hlt : sig n < 9007199254740992 := by
      have b := lt_log2 n
      have e2 : 2 ^ (n.log2 + 1) * 2 ^ (52 - n.log2) = 9007199254740992 := by
        rw [← Nat.pow_add, show n.log2 + 1 + (52 - n.log2) = 53 from by omega]
      have := Nat.mul_lt_mul_of_pos_right b (Nat.two_pow_pos (52 - n.log2))
      omega
    refine ⟨mOf n, n.log2 + 1022, ?_, ?_⟩
    · rw [hr]
      unfold up
      rw [if_pos hlt, show ((n.log2 : Nat) : Int) - 52 + 0 = -1074 + ((n.log2 + 1022 : Nat) : Int) from by omega]
    · have hd := dep_eq
      unfold mOf U
      rw [if_pos hlt, hs, Nat.mul_assoc, ← Nat.pow_add, show 52 - n.log2 + (n.log2 + 1022) = dep from by omega]

theorem rep_fl (n : Nat) (h : n ≤ 9007199254740992) : Rep (fl n) n := by
  obtain ⟨m, a, hr, hv⟩ := read_fl n h
  exact ⟨false, m, a, hr, hv, fun h => by cases h⟩

theorem U_pos : 0 < U := Nat.two_pow_pos dep

/-- The word nearest to a whole number, however it is spelt. -/
theorem nearest_whole (T c V : Nat) (e : T * 2 ^ c = V * U) (h : V.log2 ≤ 900) : double.nearest false T (-1074 + c) = fl V := by
  by_cases h0 : V = 0
  · subst h0
    have : T = 0 := by
      rw [Nat.zero_mul] at e
      rcases Nat.mul_eq_zero.1 e with h | h
      · exact h
      · have := Nat.two_pow_pos c; omega
    subst this
    rw [nearest_zero, fl_zero]
  · have hT : T ≠ 0 := by
      rintro rfl
      rw [Nat.zero_mul] at e
      have := Nat.mul_ne_zero h0 (show U ≠ 0 from by have := U_pos; omega)
      exact this e.symm
    have hd := dep_eq
    have hl : T.log2 + c = V.log2 + dep := by
      have := congrArg Nat.log2 e
      rw [log2_shift _ _ hT] at this
      unfold U at this
      rw [log2_shift _ _ h0] at this
      exact this
    rw [← nearest_shift T c (-1074) (by omega) (by omega), e]
    unfold U
    rw [nearest_shift V dep (-1074) (by omega) (by omega), show -1074 + (dep : Int) = 0 from by omega]
    rfl

theorem signed_rep (t : Bool) (n u : Nat) (h : t = true → n = 0) : signed t n u = ((n * 2 ^ u : Nat) : Int) := by
  unfold signed
  rw [Nat.shiftLeft_eq]
  cases t with
  | false => rfl
  | true => rw [h rfl]; simp

/-- A SUM OF WHOLE NUMBERS IS EXACT. -/
theorem add_exact (S k x : Nat) (hx : Rep x k) (h : S + k ≤ 9007199254740992) : double.add (fl S) x = some (fl (S + k)) := by
  obtain ⟨t, n, a, hr, hv, ht⟩ := hx
  obtain ⟨m, b, hr', hv'⟩ := read_fl S (by omega)
  unfold Format.add
  rw [hr, hr']
  unfold Datum.sum
  dsimp only
  have hm : min (-1074 + (b : Int)) (-1074 + (a : Int)) = -1074 + ((min b a : Nat) : Int) := by omega
  rw [hm, signed_rep false m _ (fun h => by cases h), signed_rep t n _ ht]
  rw [show (-1074 + (b : Int) - (-1074 + ((min b a : Nat) : Int))).toNat = b - min b a from by omega,
    show (-1074 + (a : Int) - (-1074 + ((min b a : Nat) : Int))).toNat = a - min b a from by omega]
  have hs : (m * 2 ^ (b - min b a) + n * 2 ^ (a - min b a)) * 2 ^ min b a = (S + k) * U := by
    rw [Nat.add_mul, Nat.mul_assoc, Nat.mul_assoc, ← Nat.pow_add, ← Nat.pow_add, show b - min b a + min b a = b from by omega,
      show a - min b a + min b a = a from by omega, hv, hv', Nat.add_mul]
  generalize hT : m * 2 ^ (b - min b a) + n * 2 ^ (a - min b a) = T at *
  rw [← Int.natCast_add, hT, Int.natAbs_natCast]
  have hneg : (if (T : Int) = 0 then false && t else decide ((T : Int) < 0)) = false := by
    split
    · rfl
    · exact decide_eq_false (by omega)
  rw [hneg]
  show some (double.nearest false T _) = _
  rw [nearest_whole T _ _ hs]
  by_cases h0 : S + k = 0
  · rw [h0]; decide
  · have := (Nat.log2_lt h0 (k := 54)).2 (by omega)
    omega

/-! ### Two -/
def TWO : Nat := 4611686018427387904
def ONE : Nat := 4607182418800017408
def INF : Nat := 9218868437227405312
theorem read_two : double.read TWO = .number false 4503599627370496 (-51) := by decide
theorem read_one : double.read ONE = .number false 4503599627370496 (-52) := by decide
theorem read_inf : double.read INF = .infinity false := by decide
theorem nm_two : Nm TWO 4503599627370496 (-51) := ⟨read_two, by decide, by decide⟩

theorem nearest_sign_zero (t : Bool) (p : Int) : Rep (double.nearest t 0 p) 0 := by
  unfold Format.nearest
  rw [if_pos rfl]
  cases t
  · exact ⟨false, 0, 0, read_zero, by simp, fun h => rfl⟩
  · exact ⟨true, 0, 0, by decide, by simp, fun h => rfl⟩

/-- TWICE A WHOLE NUMBER. -/
theorem two_mul_rep (x k : Nat) (hx : Rep x k) (hk : k ≤ 1099511627776) : ∃ y, double.mul TWO x = some y ∧ Rep y (2 * k) := by
  obtain ⟨t, n, a, hr, hv, ht⟩ := hx
  unfold Format.mul
  rw [hr, read_two]
  unfold Datum.product
  dsimp only
  refine ⟨_, rfl, ?_⟩
  show Rep (double.nearest (false ^^ t) (4503599627370496 * n) (-51 + (-1074 + (a : Int)))) _
  by_cases h0 : n = 0
  · subst h0
    have : k = 0 := by
      rw [Nat.zero_mul] at hv
      rcases Nat.mul_eq_zero.1 hv.symm with h | h
      · exact h
      · have := U_pos; omega
    subst this
    rw [Nat.mul_zero]
    exact nearest_sign_zero _ _
  · have htf : t = false := by cases t with | false => rfl | true => exact absurd (ht rfl) h0
    subst htf
    have hk0 : k ≠ 0 := by
      rintro rfl
      rw [Nat.zero_mul] at hv
      have := Nat.mul_ne_zero h0 (show 2 ^ a ≠ 0 from by have := Nat.two_pow_pos a; omega)
      exact this hv
    have hd := dep_eq
    have hl : n.log2 + a = k.log2 + dep := by
      have := congrArg Nat.log2 hv
      rw [log2_shift _ _ h0] at this
      unfold U at this
      rw [log2_shift _ _ hk0] at this
      exact this
    have hkl := (Nat.log2_lt hk0 (k := 41)).2 (by omega)
    have e : double.nearest (false ^^ false) (4503599627370496 * n) (-51 + (-1074 + (a : Int))) = fl (2 * k) := by
      rw [Nat.mul_comm, Bool.false_xor]
      rw [show 4503599627370496 = 2 ^ 52 from by decide]
      rw [nearest_shift n 52 _ (by omega) (by omega)]
      have h1 : double.nearest false (n * 2 ^ a) (-1073) = double.nearest false n (-1073 + a) := nearest_shift n a (-1073) (by omega) (by omega)
      have h2 : double.nearest false (k * 2 ^ dep) (-1073) = double.nearest false k (-1073 + (dep : Nat)) := nearest_shift k dep (-1073) (by omega) (by omega)
      rw [hv] at h1
      unfold U at h1
      rw [h2] at h1
      rw [show -51 + (-1074 + (a : Int)) + (52 : Nat) = -1073 + a from by omega, ← h1]
      unfold fl
      rw [nearest_two k 0 (by omega) (by omega), show -1073 + (dep : Int) = 0 + 1 from by omega]
    rw [e]
    exact rep_fl _ (by omega)

end Go.Proofs.Qxb6618301a.Fl
