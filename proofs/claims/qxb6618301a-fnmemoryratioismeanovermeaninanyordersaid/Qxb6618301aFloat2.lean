/-
  THE PLAIN LAWS OF FLOAT64, SECOND PART: the quotient; not-a-number; the ratio of two means, doubled on each side.
-/
import Derived.Test.Qxb6618301aFloat
namespace Go.Proofs.Qxb6618301a.Fl
open Ieee

/-! ### The quotient of two full significands -/
def quo (m n : Nat) : Nat := 2 * (m * 18014398509481984 / n) + (m * 18014398509481984 % n != 0).toNat

theorem quo_aux (q c : Nat) (lo : 9007199254740992 ≤ q) (hi : q < 36028797018963968) (ht : c ≤ 1) : 18014398509481984 ≤ 2 * q + c ∧ 2 * q + c < 72057594037927936 := by
  omega

theorem quo_bounds (m n : Nat) (ml : 4503599627370496 ≤ m) (mh : m < 9007199254740992) (nl : 4503599627370496 ≤ n) (nh : n < 9007199254740992) :
    18014398509481984 ≤ quo m n ∧ quo m n < 72057594037927936 := by
  have lo : 9007199254740992 ≤ m * 18014398509481984 / n := by
    rw [Nat.le_div_iff_mul_le (by omega)]; omega
  have hi : m * 18014398509481984 / n < 36028797018963968 := by
    rw [Nat.div_lt_iff_lt_mul (by omega)]; omega
  have ht : (m * 18014398509481984 % n != 0).toNat ≤ 1 := Bool.toNat_le _
  unfold quo
  exact quo_aux _ _ lo hi ht

theorem quo_log2 (m n : Nat) (ml : 4503599627370496 ≤ m) (mh : m < 9007199254740992) (nl : 4503599627370496 ≤ n) (nh : n < 9007199254740992) :
    54 ≤ (quo m n).log2 ∧ (quo m n).log2 ≤ 55 := by
  have hb := quo_bounds m n ml mh nl nh
  have h0 : quo m n ≠ 0 := by omega
  have h1 := (Nat.le_log2 h0 (k := 54)).2 (by omega)
  have h2 := (Nat.log2_lt h0 (k := 56)).2 (by omega)
  omega

theorem div_nm {x y m n : Nat} {i j : Int} (hx : Nm x m i) (hy : Nm y n j) : double.div x y = some (double.nearest false (quo m n) (i - j - 55)) := by
  obtain ⟨hr, ml, mh⟩ := hx
  obtain ⟨hr', nl, nh⟩ := hy
  unfold Format.div
  rw [hr, hr']
  unfold Datum.quotient
  dsimp only
  rw [if_neg (by omega), log2_sig m ml mh, log2_sig n nl nh, frac_eq]
  show some (double.nearest (false ^^ false) (2 * (m <<< 54 / n) + (m <<< 54 % n != 0).toNat) (i - j - ((54 : Nat) : Int) - 1)) = _
  rw [Nat.shiftLeft_eq, Bool.false_xor]
  unfold quo
  rw [show i - j - ((54 : Nat) : Int) - 1 = i - j - 55 from by omega]

def qm (m n : Nat) : Nat := mOf (quo m n)
def qi (m n : Nat) : Int := (quo m n).log2 - 107 + up (quo m n)

theorem qi_bounds (m n : Nat) (ml : 4503599627370496 ≤ m) (mh : m < 9007199254740992) (nl : 4503599627370496 ≤ n) (nh : n < 9007199254740992) :
    -53 ≤ qi m n ∧ qi m n ≤ -51 := by
  have h1 := quo_log2 m n ml mh nl nh
  have h2 := up_bounds (quo m n)
  unfold qi
  omega

theorem div_is {x y m n : Nat} {i j : Int} (hx : Nm x m i) (hy : Nm y n j) (lo : -900 ≤ i - j) (hi : i - j ≤ 900) :
    ∃ r, double.div x y = some r ∧ Nm r (qm m n) (i - j + qi m n) := by
  have hl := quo_log2 m n hx.2.1 hx.2.2 hy.2.1 hy.2.2
  have hb := quo_bounds m n hx.2.1 hx.2.2 hy.2.1 hy.2.2
  refine ⟨_, div_nm hx hy, ?_⟩
  have := nm_nearest (quo m n) (i - j - 55) (by omega) (by omega) (by omega)
  unfold qm qi
  rw [show i - j + (((quo m n).log2 : Int) - 107 + up (quo m n)) = i - j - 55 + (quo m n).log2 - 52 + up (quo m n) from by omega]
  exact this

/-- A number by itself is one. -/
theorem div_self {x m : Nat} {i : Int} (hx : Nm x m i) : double.div x x = some ONE := by
  rw [div_nm hx hx]
  have e : quo m m = 36028797018963968 := by
    have := hx.2.1
    unfold quo
    rw [Nat.mul_div_cancel_left _ (by omega), Nat.mul_mod_right]
    rfl
  rw [e, show i - i - 55 = -55 from by omega]
  decide

theorem quo_two (m : Nat) : quo m 4503599627370496 = m * 2 ^ 3 := by
  unfold quo
  rw [show m * 18014398509481984 = (m * 4) * 4503599627370496 from by omega, Nat.mul_div_cancel _ (by decide), Nat.mul_mod_left]
  simp
  omega

/-- Half of a number. -/
theorem div_two {x m : Nat} {i : Int} (hx : Nm x m i) (lo : -800 ≤ i) (hi : i ≤ 800) : ∃ r, double.div x TWO = some r ∧ Nm r m (i - 1) := by
  refine ⟨_, div_nm hx nm_two, ?_⟩
  obtain ⟨_, ml, mh⟩ := hx
  rw [quo_two, nearest_shift m 3 _ (by rw [log2_sig m ml mh]; omega) (by rw [log2_sig m ml mh]; omega),
    show i - -51 - 55 + ((3 : Nat) : Int) = i - 1 from by omega]
  exact nm_full m (i - 1) ml mh (by omega) (by omega)

/-- Twice a number. -/
theorem mul_two {x m : Nat} {i : Int} (hx : Nm x m i) (lo : -800 ≤ i) (hi : i ≤ 800) : ∃ r, double.mul TWO x = some r ∧ Nm r m (i + 1) := by
  obtain ⟨hr, ml, mh⟩ := hx
  unfold Format.mul
  rw [hr, read_two]
  refine ⟨_, rfl, ?_⟩
  show Nm (double.nearest (false ^^ false) (4503599627370496 * m) (-51 + i)) m (i + 1)
  rw [Nat.mul_comm, Bool.false_xor, show 4503599627370496 = 2 ^ 52 from by decide,
    nearest_shift m 52 _ (by rw [log2_sig m ml mh]; omega) (by rw [log2_sig m ml mh]; omega),
    show -51 + i + ((52 : Nat) : Int) = i + 1 from by omega]
  exact nm_full m (i + 1) ml mh (by omega) (by omega)

/-! ### Zero, infinity, not-a-number -/
def IsNaN (r : Nat) : Prop := ∃ s t, double.read r = .nan s t

/-- What an operation hands back: its word, or some not-a-number. -/
def FRes (o : Option Nat) (r : Nat) : Prop := match o with
  | some v => r = v
  | none => IsNaN r

theorem div_zero_zero : double.div 0 0 = none := by decide
theorem inf_two : double.mul TWO INF = some INF := by decide
theorem inf_half : double.div INF TWO = some INF := by decide
theorem zero_two : double.mul TWO 0 = some 0 := by decide
theorem zero_half : double.div 0 TWO = some 0 := by decide

theorem zero_div {y n : Nat} {j : Int} (hy : Nm y n j) : double.div 0 y = some 0 := by
  obtain ⟨hr', nl, nh⟩ := hy
  unfold Format.div
  rw [hr', read_zero]
  unfold Datum.quotient
  dsimp only
  rw [if_neg (by omega), Nat.zero_shiftLeft]
  simp only [Nat.zero_div, Nat.zero_mod]
  show some (double.nearest (false ^^ false) 0 _) = _
  rw [Bool.false_xor, nearest_zero]

theorem div_zero {x m : Nat} {i : Int} (hx : Nm x m i) : double.div x 0 = some INF := by
  obtain ⟨hr, ml, mh⟩ := hx
  unfold Format.div
  rw [hr, read_zero]
  unfold Datum.quotient
  dsimp only
  rw [if_pos rfl, if_neg (by omega)]
  decide

theorem nan_div {x y : Nat} (hx : IsNaN x) : double.div x y = none := by
  obtain ⟨s, t, hr⟩ := hx
  unfold Format.div
  rw [hr]
  rfl

theorem div_nan {x y : Nat} (hy : IsNaN y) : double.div x y = none := by
  obtain ⟨s, t, hr⟩ := hy
  unfold Format.div
  rw [hr]
  cases double.read x <;> rfl

theorem mul_nan {x y : Nat} (hy : IsNaN y) : double.mul x y = none := by
  obtain ⟨s, t, hr⟩ := hy
  unfold Format.mul
  rw [hr]
  cases double.read x <;> rfl

/-! ### 'the same': both not-a-number, or equal -/
def same (a b : Nat) : Bool := if double.order a a != some .eq then double.order b b != some .eq else double.order a b == some .eq

theorem order_nan {r : Nat} (h : IsNaN r) (x : Nat) : double.order r x = none := by
  obtain ⟨s, t, hr⟩ := h
  unfold Format.order
  rw [hr]
  rfl

theorem compare_self (z : Int) : compare z z = .eq := by
  simp [compare, compareOfLessAndEq]

theorem order_same {x y : Nat} {m : Nat} {i : Int} {s : Bool} (hx : double.read x = .number s m i) (hy : double.read y = .number s m i) : double.order x y = some .eq := by
  unfold Format.order
  rw [hx, hy]
  unfold Datum.order
  dsimp only
  rw [compare_self]

theorem order_inf : double.order INF INF = some .eq := by decide
theorem order_zero : double.order 0 0 = some .eq := by decide
theorem order_one : double.order ONE ONE = some .eq := by decide

theorem same_nan {a b : Nat} (ha : IsNaN a) (hb : IsNaN b) : same a b = true := by
  unfold same
  rw [order_nan ha, order_nan hb]
  rfl

theorem same_nm {a b m : Nat} {i : Int} (ha : Nm a m i) (hb : Nm b m i) : same a b = true := by
  unfold same
  rw [order_same ha.1 ha.1, order_same ha.1 hb.1]
  rfl

theorem same_of {a : Nat} (h : double.order a a = some .eq) : same a a = true := by
  unfold same
  rw [h]
  rfl

/-! ### The mean, and the ratio of two means -/
/-- The mean of n whole numbers with the sum S. -/
def Mean (S n r : Nat) : Prop := FRes (double.div (fl S) (fl n)) r
def Ratio (S n T p r : Nat) : Prop := ∃ a b, Mean S n a ∧ Mean T p b ∧ FRes (double.div a b) r

def mM (S n : Nat) : Nat := qm (mOf S) (mOf n)
def mI (S n : Nat) : Int := (S.log2 - 52 + up S) - (n.log2 - 52 + up n) + qi (mOf S) (mOf n)

theorem mM_two (S n : Nat) (h : S ≠ 0) : mM (2 * S) n = mM S n := by unfold mM; rw [mOf_two S h]
theorem mI_two (S n : Nat) (h : S ≠ 0) : mI (2 * S) n = mI S n + 1 := by
  unfold mI
  rw [mOf_two S h, up_two S h, log2_two S h]
  omega

theorem mean_cases (S n a : Nat) (hS : S ≤ 9007199254740992) (hn : n ≤ 4096) (h0 : n = 0 → S = 0) (h : Mean S n a) :
    (n = 0 ∧ IsNaN a) ∨ (n ≠ 0 ∧ S = 0 ∧ a = 0) ∨ (n ≠ 0 ∧ S ≠ 0 ∧ Nm a (mM S n) (mI S n) ∧ -70 ≤ mI S n ∧ mI S n ≤ 70) := by
  unfold Mean at h
  by_cases hn0 : n = 0
  · left
    refine ⟨hn0, ?_⟩
    rw [h0 hn0, hn0, fl_zero, div_zero_zero] at h
    exact h
  · right
    have hnl := (Nat.log2_lt hn0 (k := 13)).2 (by omega)
    have nmn := nm_fl n hn0 (by omega)
    by_cases hS0 : S = 0
    · left
      refine ⟨hn0, hS0, ?_⟩
      rw [hS0, fl_zero, zero_div nmn] at h
      exact h
    · right
      have hSl := (Nat.log2_lt hS0 (k := 54)).2 (by omega)
      have nmS := nm_fl S hS0 (by omega)
      have u1 := up_bounds n
      have u2 := up_bounds S
      have q := qi_bounds (mOf S) (mOf n) nmS.2.1 nmS.2.2 nmn.2.1 nmn.2.2
      obtain ⟨r, hr, hnm⟩ := div_is nmS nmn (by omega) (by omega)
      rw [hr] at h
      have h' : a = r := h
      subst h'
      refine ⟨hn0, hS0, hnm, ?_, ?_⟩ <;> (unfold mI; omega)

/-- THE RATIO, BY CASES. -/
theorem ratio_cases (S n T p r : Nat) (hS : S ≤ 9007199254740992) (hn : n ≤ 4096) (h0 : n = 0 → S = 0) (hT : T ≤ 9007199254740992) (hp : p ≤ 4096) (h0' : p = 0 → T = 0) (h : Ratio S n T p r) :
    ((n = 0 ∨ p = 0 ∨ (S = 0 ∧ T = 0)) ∧ IsNaN r) ∨ (n ≠ 0 ∧ p ≠ 0 ∧ S = 0 ∧ T ≠ 0 ∧ r = 0) ∨ (n ≠ 0 ∧ p ≠ 0 ∧ S ≠ 0 ∧ T = 0 ∧ r = INF) ∨
      (n ≠ 0 ∧ p ≠ 0 ∧ S ≠ 0 ∧ T ≠ 0 ∧ Nm r (qm (mM S n) (mM T p)) (mI S n - mI T p + qi (mM S n) (mM T p)) ∧ -200 ≤ mI S n - mI T p + qi (mM S n) (mM T p) ∧ mI S n - mI T p + qi (mM S n) (mM T p) ≤ 200) := by
  obtain ⟨a, b, ha, hb, hr⟩ := h
  rcases mean_cases S n a hS hn h0 ha with ⟨e, na⟩ | ⟨n0, e, ea⟩ | ⟨n0, S0, nma, la, ua⟩
  · rw [nan_div na] at hr
    exact .inl ⟨.inl e, hr⟩
  · rcases mean_cases T p b hT hp h0' hb with ⟨e', nb⟩ | ⟨p0, e', eb⟩ | ⟨p0, T0, nmb, lb, ub⟩
    · rw [div_nan nb] at hr
      exact .inl ⟨.inr (.inl e'), hr⟩
    · rw [ea, eb, div_zero_zero] at hr
      exact .inl ⟨.inr (.inr ⟨e, e'⟩), hr⟩
    · rw [ea, zero_div nmb] at hr
      exact .inr (.inl ⟨n0, p0, e, T0, hr⟩)
  · rcases mean_cases T p b hT hp h0' hb with ⟨e', nb⟩ | ⟨p0, e', eb⟩ | ⟨p0, T0, nmb, lb, ub⟩
    · rw [div_nan nb] at hr
      exact .inl ⟨.inr (.inl e'), hr⟩
    · rw [eb, div_zero nma] at hr
      exact .inr (.inr (.inl ⟨n0, p0, S0, e', hr⟩))
    · obtain ⟨r', hr', hnm⟩ := div_is nma nmb (by omega) (by omega)
      have q := qi_bounds (mM S n) (mM T p) nma.2.1 nma.2.2 nmb.2.1 nmb.2.2
      rw [hr'] at hr
      have h' : r = r' := hr
      subst h'
      exact .inr (.inr (.inr ⟨n0, p0, S0, T0, hnm, by omega, by omega⟩))

/-- THE FIRST LAW: the library's memories doubled double the ratio. -/
theorem law_double (S n T p r0 r1 d : Nat) (hS : S ≤ 4503599627370496) (hn : n ≤ 4096) (h0 : n = 0 → S = 0) (hT : T ≤ 4503599627370496) (hp : p ≤ 4096) (h0' : p = 0 → T = 0)
    (g0 : Ratio S n T p r0) (g1 : Ratio (2 * S) n T p r1) (gd : FRes (double.mul TWO r0) d) : same r1 d = true := by
  rcases ratio_cases S n T p r0 (by omega) hn h0 (by omega) hp h0' g0 with ⟨c, nr⟩ | ⟨n0, p0, e, T0, er⟩ | ⟨n0, p0, S0, e, er⟩ | ⟨n0, p0, S0, T0, nm, lo, hi⟩ <;>
  rcases ratio_cases (2 * S) n T p r1 (by omega) hn (by omega) (by omega) hp h0' g1 with ⟨c', nr'⟩ | ⟨n0', p0', e', T0', er'⟩ | ⟨n0', p0', S0', e', er'⟩ | ⟨n0', p0', S0', T0', nm', lo', hi'⟩ <;>
  first
  | (exfalso; omega)
  | skip
  · rw [mul_nan nr] at gd
    exact same_nan nr' gd
  · subst er er'
    rw [zero_two] at gd
    have : d = 0 := gd
    subst this
    exact same_of order_zero
  · subst er er'
    rw [inf_two] at gd
    have : d = INF := gd
    subst this
    exact same_of order_inf
  · obtain ⟨y, hy, hny⟩ := mul_two nm (by omega) (by omega)
    rw [hy] at gd
    have : d = y := gd
    subst this
    rw [mM_two S n S0, mI_two S n S0] at nm'
    rw [show mI S n + 1 - mI T p + qi (mM S n) (mM T p) = mI S n - mI T p + qi (mM S n) (mM T p) + 1 from by omega] at nm'
    exact same_nm nm' hny

/-- THE SECOND: the plain memories doubled halve it. -/
theorem law_half (S n T p r0 r2 d : Nat) (hS : S ≤ 4503599627370496) (hn : n ≤ 4096) (h0 : n = 0 → S = 0) (hT : T ≤ 4503599627370496) (hp : p ≤ 4096) (h0' : p = 0 → T = 0)
    (g0 : Ratio S n T p r0) (g2 : Ratio S n (2 * T) p r2) (gd : FRes (double.div r0 TWO) d) : same r2 d = true := by
  rcases ratio_cases S n T p r0 (by omega) hn h0 (by omega) hp h0' g0 with ⟨c, nr⟩ | ⟨n0, p0, e, T0, er⟩ | ⟨n0, p0, S0, e, er⟩ | ⟨n0, p0, S0, T0, nm, lo, hi⟩ <;>
  rcases ratio_cases S n (2 * T) p r2 (by omega) hn h0 (by omega) hp (by omega) g2 with ⟨c', nr'⟩ | ⟨n0', p0', e', T0', er'⟩ | ⟨n0', p0', S0', e', er'⟩ | ⟨n0', p0', S0', T0', nm', lo', hi'⟩ <;>
  first
  | (exfalso; omega)
  | skip
  · rw [nan_div nr] at gd
    exact same_nan nr' gd
  · subst er er'
    rw [zero_half] at gd
    have : d = 0 := gd
    subst this
    exact same_of order_zero
  · subst er er'
    rw [inf_half] at gd
    have : d = INF := gd
    subst this
    exact same_of order_inf
  · obtain ⟨y, hy, hny⟩ := div_two nm (by omega) (by omega)
    rw [hy] at gd
    have : d = y := gd
    subst this
    rw [mM_two T p T0, mI_two T p T0] at nm'
    rw [show mI S n - (mI T p + 1) + qi (mM S n) (mM T p) = mI S n - mI T p + qi (mM S n) (mM T p) - 1 from by omega] at nm'
    exact same_nm nm' hny

/-- THE THIRD: the library against itself. -/
theorem law_self (S n r : Nat) (hS : S ≤ 4503599627370496) (hn : n ≤ 4096) (h0 : n = 0 → S = 0) (g : Ratio S n S n r) :
    (0 < n ∧ 0 < S → same r ONE = true) ∧ (¬ (0 < n ∧ 0 < S) → ∀ d, IsNaN d → same r d = true) := by
  refine ⟨fun hc => ?_, fun hc d hd => ?_⟩
  · obtain ⟨a, b, ha, hb, hr⟩ := g
    rcases mean_cases S n a (by omega) hn h0 ha with ⟨e, na⟩ | ⟨n0, e, ea⟩ | ⟨n0, S0, nma, la, ua⟩
    · omega
    · omega
    · have hab : a = b := by
        unfold Mean at ha hb
        cases hq : double.div (fl S) (fl n) with
        | none =>
          rw [hq] at ha
          obtain ⟨s, t, hx⟩ := ha
          rw [nma.1] at hx
          cases hx
        | some v =>
          rw [hq] at ha hb
          exact (show a = v from ha).trans (show b = v from hb).symm
      subst hab
      rw [div_self nma] at hr
      have : r = ONE := hr
      subst this
      exact same_of order_one
  · rcases ratio_cases S n S n r (by omega) hn h0 (by omega) hn h0 g with ⟨c, nr⟩ | ⟨n0, p0, e, T0, er⟩ | ⟨n0, p0, S0, e, er⟩ | ⟨n0, p0, S0, T0, nm, lo, hi⟩
    · exact same_nan nr hd
    · omega
    · omega
    · omega

end Go.Proofs.Qxb6618301a.Fl
