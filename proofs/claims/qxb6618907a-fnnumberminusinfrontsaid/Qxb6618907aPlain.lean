/-
  THE PLAIN LAW: reading a JSON number off a list of bytes; being one; no Go in sight.
-/
namespace Go.Proofs.Qxb6618907a.Pl

def isDig (c : Int) : Bool := decide (48 ≤ c) && decide (c ≤ 57)
def notE (c : Int) : Bool := !(c == 101 || c == 69)
def notP (c : Int) : Bool := !(c == 46)

/-- How many digits a list opens with. -/
def dl (l : List Int) : Nat := (l.takeWhile isDig).length
/-- Not empty, and digits alone. -/
def allD (l : List Int) : Bool := !l.isEmpty && l.all isDig
/-- Opens it with c? -/
def op (l : List Int) (c : Int) : Bool := l.head? == some c
def sgn (l : List Int) : Nat := if op l 45 then 1 else 0
def sg2 (l : List Int) : Nat := if op l 43 || op l 45 then 1 else 0

/-! ### Reading -/
def tailN (l : List Int) (n : Nat) : Bool × Nat :=
  if op l 101 || op l 69 then (decide (0 < dl ((l.drop 1).drop (sg2 (l.drop 1)))), n + 1 + sg2 (l.drop 1) + dl ((l.drop 1).drop (sg2 (l.drop 1)))) else (true, n)
def fracN (l : List Int) (n : Nat) : Bool × Nat :=
  if op l 46 then (if dl (l.drop 1) = 0 then (false, n + 1) else tailN ((l.drop 1).drop (dl (l.drop 1))) (n + 1 + dl (l.drop 1))) else tailN l n
def bodyN (l : List Int) (n : Nat) : Bool × Nat :=
  if op l 48 then fracN (l.drop 1) (n + 1) else if dl l = 0 then (false, n) else fracN (l.drop (dl l)) (n + dl l)
/-- What 'number' answers, and how many bytes it takes. -/
def num (l : List Int) : Bool × Nat := bodyN (l.drop (sgn l)) (sgn l)

/-! ### Being a number -/
def expo (x : List Int) : Bool := x.isEmpty || allD ((x.drop 1).drop (sg2 (x.drop 1)))
def mant (m : List Int) : Bool :=
  allD (m.takeWhile notP) && !(decide (1 < (m.takeWhile notP).length) && op (m.takeWhile notP) 48) && ((m.drop (m.takeWhile notP).length).isEmpty || allD ((m.drop (m.takeWhile notP).length).drop 1))
def isBody (b : List Int) : Bool := mant (b.takeWhile notE) && expo (b.drop (b.takeWhile notE).length)
def isNum (t : List Int) : Bool := isBody (t.drop (sgn t))
def viable (t : List Int) : Bool := isNum t || isNum (t ++ [48])

/-! ### Small laws -/
theorem allD_iff {l : List Int} : allD l = true ↔ l ≠ [] ∧ ∀ c ∈ l, isDig c = true := by
  unfold allD
  cases l <;> simp
theorem dig_notE {c : Int} (h : isDig c = true) : notE c = true := by
  unfold isDig at h; unfold notE; simp at h ⊢; omega
theorem dig_notP {c : Int} (h : isDig c = true) : notP c = true := by
  unfold isDig at h; unfold notP; simp at h ⊢; omega
theorem dig48 : isDig 48 = true := by decide

theorem takeWhile_all {p : Int → Bool} : ∀ {l r : List Int}, (∀ c ∈ l, p c = true) → (l ++ r).takeWhile p = l ++ r.takeWhile p
  | [], _, _ => rfl
  | a :: l, r, h => by
    simp only [List.cons_append, List.takeWhile_cons, h a (by simp), if_true]
    rw [takeWhile_all (fun c hc => h c (by simp [hc]))]
theorem takeWhile_all' {p : Int → Bool} {l : List Int} (h : ∀ c ∈ l, p c = true) : l.takeWhile p = l := by
  have := takeWhile_all (r := []) h
  simpa using this
theorem takeWhile_stop {p : Int → Bool} {c : Int} {r : List Int} (h : p c = false) : (c :: r).takeWhile p = [] := by
  simp [h]

theorem dl_split (l : List Int) : ∃ D r, l = D ++ r ∧ D.length = dl l ∧ (∀ c ∈ D, isDig c = true) ∧ (∀ c, r.head? = some c → isDig c = false) := by
  induction l with
  | nil => exact ⟨[], [], rfl, rfl, by simp, by simp⟩
  | cons a l ih =>
    by_cases ha : isDig a = true
    · obtain ⟨D, r, e, hl, hD, hr⟩ := ih
      refine ⟨a :: D, r, by rw [e]; rfl, ?_, ?_, hr⟩
      · unfold dl at hl ⊢; rw [List.takeWhile_cons, if_pos ha]; simp [hl]
      · intro c hc; rcases List.mem_cons.1 hc with rfl | h
        · exact ha
        · exact hD c h
    · refine ⟨[], a :: l, rfl, ?_, by simp, ?_⟩
      · unfold dl; rw [List.takeWhile_cons, if_neg ha, List.length_nil]
      · intro c hc; simp at hc; subst hc; simpa using ha


theorem notE_stop {c : Int} : notE c = false ↔ c = 101 ∨ c = 69 := by
  unfold notE; simp
  by_cases h : c = 101 <;> simp [h]
theorem op_iff {l : List Int} {c : Int} : op l c = true ↔ ∃ r, l = c :: r := by
  unfold op
  cases l with
  | nil => simp
  | cons a l => simp

/-- A well-formed whole part. -/
def Wf (W : List Int) : Prop := W ≠ [] ∧ (∀ c ∈ W, isDig c = true) ∧ (1 < W.length → op W 48 = false)

theorem body_split {M X : List Int} (hM : ∀ c ∈ M, notE c = true) (hX : ∀ c, X.head? = some c → notE c = false) : isBody (M ++ X) = (mant M && expo X) := by
  have h1 : (M ++ X).takeWhile notE = M := by
    rw [takeWhile_all hM]
    cases X with
    | nil => simp
    | cons a r => rw [takeWhile_stop (hX a rfl)]; simp
  unfold isBody
  rw [h1, List.drop_left]
theorem body_mant {M : List Int} (hM : ∀ c ∈ M, notE c = true) : isBody M = mant M := by
  have := body_split (X := []) hM (by simp)
  simpa [expo] using this

theorem mant_W {W : List Int} (h : Wf W) : mant W = true := by
  obtain ⟨h1, h2, h3⟩ := h
  have e : W.takeWhile notP = W := takeWhile_all' (fun c hc => dig_notP (h2 c hc))
  unfold mant
  rw [e, List.drop_length]
  have : allD W = true := allD_iff.2 ⟨h1, h2⟩
  rw [this]
  by_cases hl : 1 < W.length
  · rw [h3 hl]; simp
  · simp [hl]
theorem mant_WF {W D : List Int} (h : Wf W) : mant (W ++ 46 :: D) = allD D := by
  obtain ⟨h1, h2, h3⟩ := h
  have e : (W ++ 46 :: D).takeWhile notP = W := by
    rw [takeWhile_all (fun c hc => dig_notP (h2 c hc)), takeWhile_stop (by decide)]; simp
  unfold mant
  rw [e, List.drop_left]
  have : allD W = true := allD_iff.2 ⟨h1, h2⟩
  rw [this]
  by_cases hl : 1 < W.length
  · rw [h3 hl]; simp
  · simp [hl]
theorem mant_nil : mant [] = false := by decide
/-- A byte that is no digit and no point spoils the whole part. -/
theorem mant_bad {W r : List Int} {c : Int} (h2 : ∀ c ∈ W, isDig c = true) (hc : isDig c = false) (hp : notP c = true) : mant (W ++ c :: r) = false := by
  have e : (W ++ c :: r).takeWhile notP = W ++ c :: r.takeWhile notP := by
    rw [takeWhile_all (fun c hc => dig_notP (h2 c hc)), List.takeWhile_cons, if_pos hp]
  have : allD (W ++ c :: r.takeWhile notP) = false := by
    rw [Bool.eq_false_iff]
    intro h
    have := (allD_iff.1 h).2 c (by simp)
    rw [hc] at this
    cases this
  unfold mant
  rw [e, this]
  rfl
theorem mant_zero {c : Int} {r : List Int} (hc : isDig c = true) : mant (48 :: c :: r) = false := by
  have e : (48 :: c :: r).takeWhile notP = 48 :: c :: r.takeWhile notP := by
    rw [List.takeWhile_cons, if_pos (by decide), List.takeWhile_cons, if_pos (dig_notP hc)]
  unfold mant
  rw [e]
  simp [op]
theorem allD_bad {D r : List Int} {c : Int} (hc : isDig c = false) : allD (D ++ c :: r) = false := by
  rw [Bool.eq_false_iff]
  intro h
  have := (allD_iff.1 h).2 c (by simp)
  rw [hc] at this
  cases this
theorem allD_ok {D : List Int} (h : ∀ c ∈ D, isDig c = true) (h0 : D ≠ []) : allD D = true := allD_iff.2 ⟨h0, h⟩

/-! ### The law -/
def Good (M l : List Int) (n : Nat) (r : Bool × Nat) : Prop :=
  ∃ k, r.2 = n + k ∧ k ≤ l.length ∧ isBody (M ++ l.take k) = r.1 ∧ (r.1 = true ∨ isBody (M ++ l.take k ++ [48]) = true) ∧
    (k < l.length → isBody (M ++ l.take (k + 1)) = false ∧ isBody (M ++ l.take (k + 1) ++ [48]) = false)

theorem good_step {M A l' : List Int} {n : Nat} {r : Bool × Nat} (h : Good (M ++ A) l' (n + A.length) r) : Good M (A ++ l') n r := by
  obtain ⟨k, h1, h2, h3, h4, h5⟩ := h
  have e : ∀ j, (A ++ l').take (A.length + j) = A ++ l'.take j := fun j => by
    rw [List.take_append, List.take_of_length_le (by omega)]
    congr 2; omega
  refine ⟨A.length + k, by omega, by simp; omega, ?_, ?_, ?_⟩
  · rw [e, ← List.append_assoc]; exact h3
  · rw [e, ← List.append_assoc]; exact h4
  · intro hk
    rw [Nat.add_assoc, e, ← List.append_assoc]
    exact h5 (by simp at hk; omega)

/-- Nothing more is taken. -/
theorem good_end {M l : List Int} {n : Nat} {b : Bool} (h1 : isBody M = b) (h2 : b = true ∨ isBody (M ++ [48]) = true) (h3 : ∀ c, l.head? = some c → isBody (M ++ [c]) = false ∧ isBody (M ++ [c, 48]) = false) : Good M l n (b, n) := by
  refine ⟨0, rfl, Nat.zero_le _, by simpa using h1, by simpa using h2, ?_⟩
  intro hk
  cases l with
  | nil => simp at hk
  | cons c r => simpa using h3 c rfl

theorem expo_end (x : List Int) (e : Int) (D : List Int) (hx : x = e :: D) : expo x = allD (D.drop (sg2 D)) := by
  subst hx; simp [expo]

theorem sg2_dig {c : Int} {r : List Int} (h : isDig c = true) : sg2 (c :: r) = 0 := by
  unfold sg2 op isDig at *; simp at h ⊢; omega

theorem isBody_exp {M : List Int} {e : Int} {r : List Int} (hM : ∀ c ∈ M, notE c = true) (hm : mant M = true) (he : notE e = false) : isBody (M ++ e :: r) = allD (r.drop (sg2 r)) := by
  rw [body_split hM (by intro c hc; simp at hc; subst hc; exact he), hm]
  simp [expo]

theorem sg2_non {c : Int} {r : List Int} (h1 : c ≠ 43) (h2 : c ≠ 45) : sg2 (c :: r) = 0 := by
  unfold sg2 op; simp [h1, h2]
theorem sg2_yes {c : Int} {r : List Int} (h : c = 43 ∨ c = 45) : sg2 (c :: r) = 1 := by
  unfold sg2 op; rcases h with rfl | rfl <;> simp
theorem sg2_nil : sg2 [] = 0 := by decide

/-- The exponent: behind its mark. -/
theorem exp_good {M l : List Int} {e : Int} {n : Nat} (hM : ∀ c ∈ M, notE c = true) (hm : mant M = true) (he : notE e = false) :
    Good (M ++ [e]) l n (decide (0 < dl (l.drop (sg2 l))), n + sg2 l + dl (l.drop (sg2 l))) := by
  have key : ∀ r, isBody (M ++ [e] ++ r) = allD (r.drop (sg2 r)) := fun r => by
    rw [List.append_assoc]; exact isBody_exp hM hm he
  by_cases hg : sg2 l = 1
  · -- a sign
    obtain ⟨s, l', rfl, hs⟩ : ∃ s l', l = s :: l' ∧ (s = 43 ∨ s = 45) := by
      cases l with
      | nil => simp [sg2_nil] at hg
      | cons c r =>
        refine ⟨c, r, rfl, ?_⟩
        by_cases h1 : c = 43
        · exact .inl h1
        · by_cases h2 : c = 45
          · exact .inr h2
          · rw [sg2_non h1 h2] at hg; cases hg
    rw [hg]
    show Good (M ++ [e]) (s :: l') n (decide (0 < dl l'), n + 1 + dl l')
    obtain ⟨D, r, hl, hD, hdig, hr⟩ := dl_split l'
    rw [← hD]
    subst hl
    have e2 : ∀ r, sg2 (s :: r) = 1 := fun r => sg2_yes hs
    have g : Good (M ++ [e] ++ (s :: D)) r (n + (s :: D).length) (decide (0 < D.length), n + (s :: D).length) := by
      apply good_end
      · rw [key, e2]
        by_cases h0 : D = []
        · subst h0; rfl
        · have := allD_ok hdig h0
          show allD D = _
          rw [this]
          exact (decide_eq_true (List.length_pos_iff.2 h0)).symm
      · by_cases h0 : D = []
        · subst h0
          right
          rw [List.append_assoc, key]
          show allD (([s] ++ [48]).drop (sg2 (s :: [48]))) = true
          rw [e2]; exact allD_ok (by intro c hc; simp at hc; subst hc; decide) (by simp)
        · left; exact decide_eq_true (List.length_pos_iff.2 h0)
      · intro c hc
        have hcd := hr c hc
        constructor
        · rw [List.append_assoc, key]
          show allD ((s :: (D ++ [c])).drop (sg2 (s :: (D ++ [c])))) = false
          rw [e2]; exact allD_bad (r := []) hcd
        · rw [List.append_assoc, key]
          show allD ((s :: (D ++ [c, 48])).drop (sg2 (s :: (D ++ [c, 48])))) = false
          rw [e2]; exact allD_bad (r := [48]) hcd
    have := good_step g
    rw [show n + 1 + D.length = n + (s :: D).length from by simp; omega]
    exact this
  · -- no sign
    have hg0 : sg2 l = 0 := by unfold sg2 at hg ⊢; split at hg <;> simp_all
    rw [hg0]
    show Good (M ++ [e]) l n (decide (0 < dl l), n + 0 + dl l)
    obtain ⟨D, r, hl, hD, hdig, hr⟩ := dl_split l
    rw [← hD]
    subst hl
    have g : Good (M ++ [e] ++ D) r (n + D.length) (decide (0 < D.length), n + D.length) := by
      by_cases h0 : D = []
      · subst h0
        apply good_end
        · rw [key]; decide
        · right; rw [List.append_assoc, key]; decide
        · intro c hc
          have hcd := hr c hc
          have hne : sg2 (c :: []) = 0 ∧ sg2 [c, 48] = 0 := by
            cases r with
            | nil => simp at hc
            | cons c' r' =>
              simp at hc
              subst hc
              have h43 : c' ≠ 43 := by rintro rfl; simp [sg2, op] at hg0
              have h45 : c' ≠ 45 := by rintro rfl; simp [sg2, op] at hg0
              exact ⟨sg2_non h43 h45, sg2_non h43 h45⟩
          constructor
          · rw [List.append_assoc, key]
            show allD ([c].drop (sg2 [c])) = false
            rw [hne.1]; exact allD_bad (D := []) (r := []) hcd
          · rw [List.append_assoc, key]
            show allD ([c, 48].drop (sg2 [c, 48])) = false
            rw [hne.2]; exact allD_bad (D := []) (r := [48]) hcd
      · have hsd : ∀ r, sg2 (D ++ r) = 0 := fun r => by
          cases D with
          | nil => exact absurd rfl h0
          | cons a D' => exact sg2_dig (hdig a (by simp))
        have hpos := decide_eq_true (List.length_pos_iff.2 h0)
        rw [hpos]
        apply good_end
        · rw [key]
          have := hsd []
          rw [List.append_nil] at this
          rw [this]; exact allD_ok hdig h0
        · exact .inl rfl
        · intro c hc
          have hcd := hr c hc
          constructor
          · rw [List.append_assoc, key, hsd]; exact allD_bad (r := []) hcd
          · rw [List.append_assoc, key, hsd]; exact allD_bad (r := [48]) hcd
    have := good_step g
    rw [Nat.add_zero]
    exact this

/-- The exponent, if there is one. -/
theorem tail_good {M l : List Int} {n : Nat} (hM : ∀ c ∈ M, notE c = true) (hm : mant M = true)
    (hstop : ∀ c, l.head? = some c → notE c = true → isBody (M ++ [c]) = false ∧ isBody (M ++ [c, 48]) = false) : Good M l n (tailN l n) := by
  unfold tailN
  by_cases h : (op l 101 || op l 69) = true
  · rw [if_pos h]
    obtain ⟨e, l', rfl, he⟩ : ∃ e l', l = e :: l' ∧ notE e = false := by
      rcases Bool.or_eq_true .. |>.mp h with h | h
      · obtain ⟨r, rfl⟩ := op_iff.1 h; exact ⟨101, r, rfl, by decide⟩
      · obtain ⟨r, rfl⟩ := op_iff.1 h; exact ⟨69, r, rfl, by decide⟩
    have g := exp_good (l := l') (n := n + 1) hM hm he
    have := good_step (A := [e]) (l' := l') (n := n) g
    exact this
  · rw [if_neg h]
    refine good_end ?_ (.inl rfl) ?_
    · rw [body_mant hM]; exact hm
    · intro c hc
      refine hstop c hc ?_
      cases l with
      | nil => simp at hc
      | cons a r =>
        simp at hc
        subst hc
        cases hn : notE a with
        | true => rfl
        | false => rcases notE_stop.1 hn with rfl | rfl <;> simp [op] at h

theorem wf_notE {W : List Int} (h : Wf W) : ∀ c ∈ W, notE c = true := fun c hc => dig_notE (h.2.1 c hc)

/-- The fraction, if there is one. -/
theorem frac_good {W l : List Int} {n : Nat} (hW : Wf W) (hl : ∀ c, l.head? = some c → isDig c = false ∨ W = [48]) : Good W l n (fracN l n) := by
  unfold fracN
  by_cases h : op l 46 = true
  · rw [if_pos h]
    obtain ⟨l', rfl⟩ := op_iff.1 h
    show Good W (46 :: l') n (if dl l' = 0 then (false, n + 1) else tailN (l'.drop (dl l')) (n + 1 + dl l'))
    obtain ⟨D, r, hs, hD, hdig, hr⟩ := dl_split l'
    rw [← hD]
    subst hs
    have hWF : ∀ X : List Int, (∀ c ∈ X, notE c = true) → isBody (W ++ 46 :: X) = allD X := fun X hX => by
      rw [body_mant, mant_WF hW]
      intro c hc
      rcases List.mem_append.1 hc with h | h
      · exact wf_notE hW c h
      · rcases List.mem_cons.1 h with rfl | h
        · decide
        · exact hX c h
    by_cases h0 : D = []
    · subst h0
      rw [if_pos List.length_nil]
      have g : Good (W ++ [46]) ([] ++ r) (n + 1) (false, n + 1) := by
        apply good_end
        · exact hWF [] (by simp)
        · right
          rw [List.append_assoc]
          exact (hWF [48] (by intro c hc; simp at hc; subst hc; decide)).trans (by decide)
        · intro c hc
          have hcd := hr c hc
          by_cases hce : notE c = true
          · constructor
            · rw [List.append_assoc]
              exact (hWF [c] (by intro x hx; simp at hx; subst hx; exact hce)).trans (allD_bad (D := []) (r := []) hcd)
            · rw [List.append_assoc]
              exact (hWF [c, 48] (by intro x hx; simp at hx; rcases hx with rfl | rfl; exact hce; decide)).trans (allD_bad (D := []) (r := [48]) hcd)
          · have hce' : notE c = false := by simpa using hce
            have hb : ∀ r, isBody (W ++ [46] ++ (c :: r)) = false := fun r => by
              rw [body_split (M := W ++ [46]) (X := c :: r)]
              · rw [show W ++ [46] = W ++ 46 :: [] from rfl, mant_WF hW]; rfl
              · intro x hx
                rcases List.mem_append.1 hx with h | h
                · exact wf_notE hW x h
                · simp at h; subst h; decide
              · intro x hx; simp at hx; subst hx; exact hce'
            exact ⟨hb [], hb [48]⟩
      exact good_step (A := [46]) (l' := [] ++ r) (n := n) g
    · have hDl : ¬ D.length = 0 := by simpa using h0
      rw [if_neg hDl, List.drop_left]
      have hM : ∀ c ∈ W ++ 46 :: D, notE c = true := by
        intro c hc
        rcases List.mem_append.1 hc with h | h
        · exact wf_notE hW c h
        · rcases List.mem_cons.1 h with rfl | h
          · decide
          · exact dig_notE (hdig c h)
      have g : Good (W ++ 46 :: D) r (n + 1 + D.length) (tailN r (n + 1 + D.length)) := by
        apply tail_good hM
        · rw [mant_WF hW]; exact allD_ok hdig h0
        · intro c hc hce
          have hcd := hr c hc
          constructor
          · rw [List.append_assoc]
            exact (hWF (D ++ [c]) (by intro x hx; rcases List.mem_append.1 hx with h | h; exact dig_notE (hdig x h); simp at h; subst h; exact hce)).trans (allD_bad (r := []) hcd)
          · rw [List.append_assoc]
            exact (hWF (D ++ [c, 48]) (by intro x hx; rcases List.mem_append.1 hx with h | h; exact dig_notE (hdig x h); simp at h; rcases h with rfl | rfl; exact hce; decide)).trans (allD_bad (r := [48]) hcd)
      have := good_step (M := W) (A := 46 :: D) (l' := r) (n := n) (by rw [show n + (46 :: D).length = n + 1 + D.length from by simp; omega]; exact g)
      exact this
  · rw [if_neg h]
    apply tail_good (wf_notE hW) (mant_W hW)
    intro c hc hce
    have hcp : notP c = true := by
      cases l with
      | nil => simp at hc
      | cons a r =>
        simp at hc
        subst hc
        unfold notP
        have : a ≠ 46 := by rintro rfl; simp [op] at h
        simpa using this
    have hb : ∀ r, (∀ x ∈ r, notE x = true) → isBody (W ++ c :: r) = false := fun r hr => by
      rw [body_mant]
      · rcases hl c hc with hd | rfl
        · exact mant_bad hW.2.1 hd hcp
        · by_cases hd : isDig c = true
          · exact mant_zero hd
          · exact mant_bad hW.2.1 (by simpa using hd) hcp
      · intro x hx
        rcases List.mem_append.1 hx with h | h
        · exact wf_notE hW x h
        · rcases List.mem_cons.1 h with rfl | h
          · exact hce
          · exact hr x h
    exact ⟨hb [] (by simp), hb [48] (by intro x hx; simp at hx; subst hx; decide)⟩

/-- The whole part, the fraction, the exponent. -/
theorem body_good (l : List Int) (n : Nat) : Good [] l n (bodyN l n) := by
  unfold bodyN
  by_cases h : op l 48 = true
  · rw [if_pos h]
    obtain ⟨l', rfl⟩ := op_iff.1 h
    have g : Good ([] ++ [48]) l' (n + 1) (fracN l' (n + 1)) := frac_good (W := [48]) ⟨by simp, by intro c hc; simp at hc; subst hc; decide, by simp⟩ (fun _ _ => .inr rfl)
    exact good_step (A := [48]) g
  · rw [if_neg h]
    obtain ⟨D, r, hs, hD, hdig, hr⟩ := dl_split l
    rw [← hD]
    by_cases h0 : D = []
    · subst h0
      rw [if_pos List.length_nil]
      apply good_end
      · decide
      · right; decide
      · intro c hc
        subst hs
        have hcd := hr c hc
        have hb : ∀ r, (∀ x ∈ r, notE x = true) → isBody (c :: r) = false := fun r hr => by
          by_cases hce : notE c = true
          · rw [body_mant (by intro x hx; rcases List.mem_cons.1 hx with rfl | h; exact hce; exact hr x h)]
            by_cases hp : notP c = true
            · exact mant_bad (W := []) (by simp) hcd hp
            · have : c = 46 := by unfold notP at hp; simpa using hp
              subst this
              unfold mant
              rw [takeWhile_stop (by decide)]
              rfl
          · have := body_split (M := []) (X := c :: r) (by simp) (by intro x hx; simp at hx; subst hx; simpa using hce)
            rw [List.nil_append] at this
            rw [this, mant_nil]; rfl
        exact ⟨hb [] (by simp), hb [48] (by intro x hx; simp at hx; subst hx; decide)⟩
    · have hDl : ¬ D.length = 0 := by simpa using h0
      rw [if_neg hDl]
      subst hs
      rw [List.drop_left]
      have hW : Wf D := ⟨h0, hdig, fun _ => by
        cases D with
        | nil => exact absurd rfl h0
        | cons a D' => simpa [op] using h⟩
      have g : Good ([] ++ D) r (n + D.length) (fracN r (n + D.length)) := frac_good hW (fun c hc => .inl (hr c hc))
      exact good_step g

theorem sgn_nil : sgn [] = 0 := by decide
/-- THE LAW OF 'number': what it takes is the longest stretch with which a number begins; it answers whether that is a number. -/
theorem num_law (l : List Int) : (num l).2 ≤ l.length ∧ isNum (l.take (num l).2) = (num l).1 ∧ viable (l.take (num l).2) = true ∧ ((num l).2 < l.length → viable (l.take ((num l).2 + 1)) = false) := by
  by_cases h : op l 45 = true
  · obtain ⟨l', rfl⟩ := op_iff.1 h
    have hs : sgn (45 :: l') = 1 := by unfold sgn; rw [h]; rfl
    have e : num (45 :: l') = bodyN l' 1 := by unfold num; rw [hs]; rfl
    have hi : ∀ t, isNum (45 :: t) = isBody t := fun t => by unfold isNum; rw [show sgn (45 :: t) = 1 from by simp [sgn, op]]; rfl
    obtain ⟨k, h1, h2, h3, h4, h5⟩ := body_good l' 1
    rw [e]
    generalize bodyN l' 1 = r at *
    rw [h1, show 1 + k = k + 1 from by omega]
    refine ⟨by simp; omega, ?_, ?_, ?_⟩
    · rw [List.take_succ_cons, hi]; simpa using h3
    · unfold viable
      rw [List.take_succ_cons, hi, List.cons_append, hi]
      simp only [List.nil_append] at h3 h4
      rw [h3]
      rcases h4 with h4 | h4 <;> simp [h4]
    · intro hk
      obtain ⟨g1, g2⟩ := h5 (by simp at hk; omega)
      simp only [List.nil_append] at g1 g2
      unfold viable
      rw [List.take_succ_cons, hi, List.cons_append, hi, g1, g2]
      rfl
  · have h' : op l 45 = false := by simpa using h
    have hs : sgn l = 0 := by unfold sgn; rw [h']; rfl
    have e : num l = bodyN l 0 := by unfold num; rw [hs]; rfl
    have hi : ∀ k, isNum (l.take k) = isBody (l.take k) ∧ isNum (l.take k ++ [48]) = isBody (l.take k ++ [48]) := fun k => by
      have s1 : sgn (l.take k) = 0 ∧ sgn (l.take k ++ [48]) = 0 := by
        cases l with
        | nil => simp; decide
        | cons a r =>
          have ha : a ≠ 45 := by rintro rfl; simp [op] at h'
          cases k with
          | zero => simp; decide
          | succ k => simp [sgn, op, ha]
      unfold isNum
      rw [s1.1, s1.2]
      exact ⟨rfl, rfl⟩
    obtain ⟨k, h1, h2, h3, h4, h5⟩ := body_good l 0
    rw [e]
    generalize bodyN l 0 = r at *
    rw [h1, Nat.zero_add]
    simp only [List.nil_append] at h3 h4 h5
    refine ⟨h2, ?_, ?_, ?_⟩
    · rw [(hi k).1]; exact h3
    · unfold viable
      rw [(hi k).1, (hi k).2, h3]
      rcases h4 with h4 | h4 <;> simp [h4]
    · intro hk
      obtain ⟨g1, g2⟩ := h5 hk
      unfold viable
      rw [(hi (k + 1)).1, (hi (k + 1)).2, g1, g2]
      rfl

theorem num_nil : num [] = (false, 0) := by decide
/-- A minus in front. -/
theorem num_minus {l : List Int} (h : op l 45 = true) : num (45 :: l) = (false, 1) := by
  obtain ⟨l', rfl⟩ := op_iff.1 h
  have hs : sgn (45 :: 45 :: l') = 1 := by simp [sgn, op]
  unfold num
  rw [hs]
  show bodyN (45 :: l') 1 = _
  unfold bodyN
  have : dl (45 :: l') = 0 := by unfold dl; rw [takeWhile_stop (by decide)]; rfl
  rw [if_neg (by simp [op]), if_pos this]

theorem tailN_add (l : List Int) (n : Nat) : tailN l n = ((tailN l 0).1, n + (tailN l 0).2) := by
  unfold tailN
  split <;> simp <;> omega
theorem fracN_add (l : List Int) (n : Nat) : fracN l n = ((fracN l 0).1, n + (fracN l 0).2) := by
  unfold fracN
  split
  · split
    · simp
    · rw [tailN_add _ (n + 1 + _), tailN_add _ (0 + 1 + _)]; simp; omega
  · rw [tailN_add]
theorem bodyN_add (l : List Int) (n : Nat) : bodyN l n = ((bodyN l 0).1, n + (bodyN l 0).2) := by
  unfold bodyN
  split
  · rw [fracN_add _ (n + 1), fracN_add _ (0 + 1)]; simp; omega
  · split
    · simp
    · rw [fracN_add _ (n + dl l), fracN_add _ (0 + dl l)]; simp; omega
theorem num_front {l : List Int} (h : op l 45 = false) : num (45 :: l) = ((num l).1, 1 + (num l).2) := by
  have hs : sgn (45 :: l) = 1 := by simp [sgn, op]
  have hs' : sgn l = 0 := by unfold sgn; rw [h]; rfl
  unfold num
  rw [hs, hs']
  exact bodyN_add l 1

end Go.Proofs.Qxb6618907a.Pl
