/-
  'zzIsNumber' BY PLACES: the plain test spelt by the places of the first exponent mark and of the first point.
-/
import Derived.Test.Qxb6618907aChecks
namespace Go.Proofs.Qxb6618907a

/-- The first exponent mark at or behind j; the length if there is none. -/
def eFrom (t : List Int) (j : Nat) : Nat := j + ((t.drop j).takeWhile Pl.notE).length
/-- The first point at or behind j, ahead of e; e if there is none. -/
def dFrom (t : List Int) (e j : Nat) : Nat := j + ((seg t j e).takeWhile Pl.notP).length

theorem takeWhile_len_le {p : Int → Bool} (l : List Int) : (l.takeWhile p).length ≤ l.length := List.Sublist.length_le (List.takeWhile_sublist p)

theorem eFrom_le (t : List Int) (j : Nat) (h : j ≤ t.length) : j ≤ eFrom t j ∧ eFrom t j ≤ t.length := by
  unfold eFrom
  have := takeWhile_len_le (p := Pl.notE) (t.drop j)
  rw [List.length_drop] at this
  omega
theorem eFrom_end (t : List Int) : eFrom t t.length = t.length := by
  unfold eFrom; rw [List.drop_length]; rfl
theorem drop_cons (t : List Int) (j : Nat) (h : j < t.length) : t.drop j = t.getD j 0 :: t.drop (j + 1) := by
  rw [List.drop_eq_getElem_cons h, List.getD_eq_getElem?_getD, List.getElem?_eq_getElem h]; rfl
theorem eFrom_hit (t : List Int) (j : Nat) (h : j < t.length) (hx : Pl.notE (t.getD j 0) = false) : eFrom t j = j := by
  unfold eFrom; rw [drop_cons t j h, Pl.takeWhile_stop hx]; rfl
theorem eFrom_miss (t : List Int) (j : Nat) (h : j < t.length) (hx : Pl.notE (t.getD j 0) = true) : eFrom t j = eFrom t (j + 1) := by
  unfold eFrom; rw [drop_cons t j h, List.takeWhile_cons, if_pos hx]; simp; omega

theorem seg_cons (t : List Int) (j e : Nat) (h : j < e) (he : e ≤ t.length) : seg t j e = t.getD j 0 :: seg t (j + 1) e := by
  unfold seg
  rw [List.drop_eq_getElem_cons (by rw [List.length_take]; omega), List.getElem_take, List.getD_eq_getElem?_getD, List.getElem?_eq_getElem (by omega)]
  rfl
theorem seg_nil (t : List Int) (j e : Nat) (h : e ≤ j) : seg t j e = [] := by
  unfold seg; rw [List.drop_eq_nil_of_le (by rw [List.length_take]; omega)]
theorem dFrom_le (t : List Int) (e j : Nat) (h : j ≤ e) (he : e ≤ t.length) : j ≤ dFrom t e j ∧ dFrom t e j ≤ e := by
  unfold dFrom
  have := takeWhile_len_le (p := Pl.notP) (seg t j e)
  rw [seg_len t j e he] at this
  omega
theorem dFrom_end (t : List Int) (e : Nat) : dFrom t e e = e := by
  unfold dFrom; rw [seg_nil t e e (Nat.le_refl _)]; rfl
theorem dFrom_hit (t : List Int) (e j : Nat) (h : j < e) (he : e ≤ t.length) (hx : t.getD j 0 = 46) : dFrom t e j = j := by
  unfold dFrom; rw [seg_cons t j e h he, hx, Pl.takeWhile_stop (by decide)]; rfl
theorem dFrom_miss (t : List Int) (e j : Nat) (h : j < e) (he : e ≤ t.length) (hx : t.getD j 0 ≠ 46) : dFrom t e j = dFrom t e (j + 1) := by
  have hp : Pl.notP (t.getD j 0) = true := by unfold Pl.notP; simpa using hx
  unfold dFrom; rw [seg_cons t j e h he, List.takeWhile_cons, if_pos hp]; simp; omega

theorem sgn_le (t : List Int) : Pl.sgn t ≤ t.length := by
  unfold Pl.sgn
  split
  · rename_i h; obtain ⟨r, rfl⟩ := Pl.op_iff.1 h; simp
  · omega

theorem seg_take (t : List Int) (k n : Nat) : seg t k (k + n) = (t.drop k).take n := by
  unfold seg; rw [List.drop_take]; congr 1; omega
theorem takeWhile_take {p : Int → Bool} (l : List Int) : l.takeWhile p = l.take (l.takeWhile p).length := by
  induction l with
  | nil => rfl
  | cons a l ih =>
    rw [List.takeWhile_cons]
    split
    · simp only [List.length_cons, List.take_succ_cons]; rw [← ih]
    · rfl

/-- The test by places. -/
def isNumI (t : List Int) (k E D g : Nat) : Bool :=
  Pl.allD (seg t k D) && !(decide (1 < D - k) && (t.getD k 0 == 48)) && (decide (D = E) || Pl.allD (seg t (D + 1) E)) && (decide (E = t.length) || Pl.allD (seg t (E + 1 + g) t.length))

theorem isNum_places (t : List Int) : Pl.isNum t = isNumI t (Pl.sgn t) (eFrom t (Pl.sgn t)) (dFrom t (eFrom t (Pl.sgn t)) (Pl.sgn t)) (Pl.sg2 (t.drop (eFrom t (Pl.sgn t) + 1))) := by
  have hk := sgn_le t
  obtain ⟨k, hkk⟩ : ∃ k, k = Pl.sgn t := ⟨_, rfl⟩
  unfold Pl.isNum
  rw [← hkk] at hk ⊢
  clear hkk
  have he := eFrom_le t k hk
  obtain ⟨E, hE⟩ : ∃ E, E = eFrom t k := ⟨_, rfl⟩
  have hd := dFrom_le t E k (by omega) (by omega)
  obtain ⟨D, hD⟩ : ∃ D, D = dFrom t E k := ⟨_, rfl⟩
  rw [← hE, ← hD]
  rw [← hE] at he
  rw [← hD] at hd
  have e1 : (t.drop k).takeWhile Pl.notE = seg t k E := by
    rw [takeWhile_take, hE]
    unfold eFrom
    rw [seg_take]
  have e2 : (seg t k E).takeWhile Pl.notP = seg t k D := by
    have hl : ((seg t k E).takeWhile Pl.notP).length = D - k := by rw [hD]; unfold dFrom; omega
    rw [takeWhile_take, hl]
    unfold seg
    rw [List.take_drop, List.take_take]
    congr 2; omega
  have l1 := seg_len t k E he.2
  have l2 := seg_len t k D (by omega)
  have e3 : (t.drop k).drop (seg t k E).length = t.drop E := by rw [l1, List.drop_drop]; congr 1; omega
  have e4 : (seg t k E).drop (seg t k D).length = seg t D E := by rw [l2]; unfold seg; rw [List.drop_drop]; congr 1; omega
  have e5 : (seg t D E).drop 1 = seg t (D + 1) E := by unfold seg; rw [List.drop_drop]
  have e6 : (seg t D E).isEmpty = decide (D = E) := by
    rw [Bool.eq_iff_iff, List.isEmpty_iff_length_eq_zero, seg_len t D E he.2]; simp; omega
  have e7 : (t.drop E).isEmpty = decide (E = t.length) := by
    rw [Bool.eq_iff_iff, List.isEmpty_iff_length_eq_zero, List.length_drop]; simp; omega
  have e8 : (t.drop E).drop 1 = t.drop (E + 1) := by rw [List.drop_drop]
  have e9 : ∀ g, (t.drop (E + 1)).drop g = seg t (E + 1 + g) t.length := fun g => by
    unfold seg; rw [List.take_length, List.drop_drop]
  have e10 : (decide (1 < (seg t k D).length) && Pl.op (seg t k D) 48) = (decide (1 < D - k) && (t.getD k 0 == 48)) := by
    rw [l2]
    by_cases hlt : 1 < D - k
    · have : Pl.op (seg t k D) 48 = (t.getD k 0 == 48) := by
        rw [seg_cons t k D (by omega) (by omega)]; unfold Pl.op; simp
      rw [this]
    · rw [decide_eq_false hlt]; rfl
  unfold Pl.isBody Pl.mant Pl.expo isNumI
  rw [e1, e2, e3, e4, e5, e6, e7, e8, e9, e10]

end Go.Proofs.Qxb6618907a
