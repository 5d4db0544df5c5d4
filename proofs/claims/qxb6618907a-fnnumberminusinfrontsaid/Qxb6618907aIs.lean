/-
  THE WALK OF 'zzIsNumber'.
-/
import Derived.Test.Qxb6618907aIsPlain
import Derived.Deep.CutRange
namespace Go.Proofs.Qxb6618907a
open Go.RowKit

theorem isNumber_nil (a : Option Addr) (cap : Nat) (w : World) (h1 : BRow w a 0 []) :
    Calls Try.prog 12 #[.slice a 0 cap] w fun e w' => e = .returned (.bool false) ∧ w' = w := by
  go_enter Try.func12, Try.ntmps12
  go_wp2
  go_loop [4, 5] (fun e i => e = .int .i64 0 ∧ i = .int .i64 (-1)) (fun _ _ => 0)
  case atStart => exact ⟨rfl, rfl⟩
  case round =>
    obtain ⟨rfl, rfl⟩ := hrel
    go_wp2
    go_loop [6, 7] (fun e i => e = .int .i64 0 ∧ i = .int .i64 (-1)) (fun _ _ => 0)
    case atStart => exact ⟨rfl, rfl⟩
    case round =>
      obtain ⟨rfl, rfl⟩ := hrel
      go_wp2_with (go_at_call 15; refine (allDigits_any a 0 cap 0 0 [] w h1 (by omega) (by omega) (by omega)).mono ?_; rintro e w' ⟨rfl, rfl⟩)
      go_ret
      exact ⟨rfl, rfl⟩

def KRel (k : Nat) (w : World) (v : Value) (wc : World) : Prop := v = .int .i64 (k : Int) ∧ w = wc

def BRel (x : Bool) (w : World) (v : Value) (wc : World) : Prop := v = .bool x ∧ w = wc

set_option maxRecDepth 100000 in
set_option maxHeartbeats 4000000 in
theorem isNumber_some (b off len cap : Nat) (t : List Int) (w : World) (h1 : BRow w (some ⟨b, off, none⟩) len t) (hl : len ≤ 1048577) (hpos : 0 < len) :
    Calls Try.prog 12 #[.slice (some ⟨b, off, none⟩) len cap] w fun e w' => e = .returned (.bool (Pl.isNum t)) ∧ w' = w := by
  have HB : Hid (BRow w (some ⟨b, off, none⟩) len t) := h1
  have hc : ∀ i, i < len → w.cell? ⟨b, off + i, none⟩ = some (.int .u8 (t.getD i 0)) := by
    rcases h1.2 with h0 | ⟨b', off', e, hc⟩
    · omega
    · simp at e; obtain ⟨rfl, rfl⟩ := e; exact hc
  have HC : Hid (∀ i, i < len → w.cell? ⟨b, off + i, none⟩ = some (.int .u8 (t.getD i 0))) := hc
  have HT : Hid (t.length = len) := h1.1
  obtain ⟨k, hk⟩ : ∃ k, k = Pl.sgn t := ⟨_, rfl⟩
  have HK : Hid (k = Pl.sgn t) := hk
  have hkl : k ≤ 1 := by rw [hk]; unfold Pl.sgn; split <;> omega
  have hkn : k ≤ len := by omega
  obtain ⟨r, hr⟩ : ∃ r, r = Pl.isNum t := ⟨_, rfl⟩
  rw [← hr]
  have HR : Hid (r = isNumI t k (eFrom t k) (dFrom t (eFrom t k) k) (Pl.sg2 (t.drop (eFrom t k + 1)))) := by rw [hk]; exact hr.trans (isNum_places t)
  obtain ⟨x0, hx0⟩ : ∃ x, x = t.getD 0 0 := ⟨_, rfl⟩
  have hc0 : w.cell? ⟨b, off, none⟩ = some (.int .u8 x0) := by rw [hx0]; simpa using hc 0 hpos
  have HX0 : Hid (Pl.op t 45 = (x0 == 45)) := by
    rw [hx0]
    cases t with
    | nil => have := h1.1; simp at this; omega
    | cons y ys => unfold Pl.op; exact (by simp : ((y :: ys).head? == some 45) = ((y :: ys).getD 0 0 == 45))
  clear h1 hc hk hr hx0
  go_enter Try.func12, Try.ntmps12
  go_upto_if 17 with fail
  go_cut [3] from 9 (fun v wc => KRel k w v wc)
  case first =>
    cases ho : (x0 == 45) with
    | true =>
      have HS : Hid (k = 1) := by have := HK.out; unfold Pl.sgn at this; rw [HX0.out, ho] at this; exact this
      clear ho hc0
      go_wp2_with fail
      go_meet
      case rel => exact ⟨by rw [HS.out]; rfl, rfl⟩
    | false =>
      have HS : Hid (k = 0) := by have := HK.out; unfold Pl.sgn at this; rw [HX0.out, ho] at this; exact this
      clear ho hc0
      go_wp2_with fail
      go_meet
      case rel => exact ⟨by rw [HS.out]; rfl, rfl⟩
  case rest =>
    obtain ⟨rfl, rfl⟩ := hcut
    clear hc0 HX0
    go_wp2_with fail
    go_loop [4, 5] (fun e i => ∃ j : Nat, k ≤ j ∧ j ≤ len ∧ i = .int .i64 ((j : Int) - 1) ∧ e = .int .i64 (eFrom t j)) (fun _ i => ((intOf i) + 1).toNat)
    case atStart => exact ⟨len, hkn, Nat.le_refl _, rfl, by have := eFrom_end t; rw [HT.out] at this; rw [this]⟩
    case round =>
      obtain ⟨j, hj1, hj2, rfl, rfl⟩ := hrel
      have hej := eFrom_le t j (by rw [HT.out]; exact hj2)
      have HTe : Hid (eFrom t j ≤ len) := by have := hej.2; rw [HT.out] at this; exact this
      clear hej
      by_cases hlt : k < j
      · obtain ⟨q, hq⟩ : ∃ q, j = q + 1 := ⟨j - 1, by omega⟩
        subst hq
        obtain ⟨x, hx⟩ : ∃ x, x = t.getD q 0 := ⟨_, rfl⟩
        have hcx : w.cell? ⟨b, off + q, none⟩ = some (.int .u8 x) := by rw [hx]; exact HC.out q (by omega)
        have HX : Hid (x = t.getD q 0) := hx
        have hi : ((q + 1 : Nat) : Int) - 1 = (q : Int) := by omega
        have hql : q < len := by omega
        have hkq : k ≤ q := by omega
        clear hx
        rw [hi]
        clear hi
        by_cases hE : x = 101 ∨ x = 69
        · have HE : Hid (eFrom t q = q) := eFrom_hit t q (by rw [HT.out]; exact hql) (by rw [← HX.out]; exact Pl.notE_stop.2 hE)
          rcases hE with hE | hE
          · have h101 : (x == 101) = true := by simpa using hE
            clear hE
            go_wp2_with fail
            go_round
            case rel => exact ⟨q, hkq, by omega, by go_num, by rw [HE.out]⟩
            case measure => simp [intOf]
          · have h101 : (x == 101) = false := by rw [hE]; rfl
            have h69 : (x == 69) = true := by simpa using hE
            clear hE
            go_wp2_with fail
            go_round
            case rel => exact ⟨q, hkq, by omega, by go_num, by rw [HE.out]⟩
            case measure => simp [intOf]
        · have hn : Pl.notE x = true := by
            cases hh : Pl.notE x with
            | true => rfl
            | false => exact absurd (Pl.notE_stop.1 hh) hE
          have HE : Hid (eFrom t q = eFrom t (q + 1)) := eFrom_miss t q (by rw [HT.out]; exact hql) (by rw [← HX.out]; exact hn)
          have h101 : (x == 101) = false := by simp; omega
          have h69 : (x == 69) = false := by simp; omega
          clear hE hn
          go_wp2_with fail
          go_round
          case rel => exact ⟨q, hkq, by omega, by go_num, by rw [HE.out]⟩
          case measure => simp [intOf]
      · obtain rfl : k = j := by omega
        obtain ⟨E, hE⟩ : ∃ E, E = eFrom t k := ⟨_, rfl⟩
        have hEk := eFrom_le t k (by rw [HT.out]; exact hkn)
        rw [← hE] at HR hEk HTe ⊢
        have hEk1 := hEk.1
        have hEl : E ≤ len := HTe.out
        clear HTe hEk hE
        go_wp2_with fail
        go_loop [6, 7] (fun d i => ∃ j : Nat, k ≤ j ∧ j ≤ E ∧ i = .int .i64 ((j : Int) - 1) ∧ d = .int .i64 (dFrom t E j)) (fun _ i => ((intOf i) + 1).toNat)
        case atStart => exact ⟨E, hEk1, Nat.le_refl _, rfl, by rw [dFrom_end]⟩
        case round =>
          obtain ⟨j, hj1, hj2, rfl, rfl⟩ := hrel
          by_cases hlt : k < j
          · obtain ⟨q, hq⟩ : ∃ q, j = q + 1 := ⟨j - 1, by omega⟩
            subst hq
            obtain ⟨x, hx⟩ : ∃ x, x = t.getD q 0 := ⟨_, rfl⟩
            have hcx : w.cell? ⟨b, off + q, none⟩ = some (.int .u8 x) := by rw [hx]; exact HC.out q (by omega)
            have HX : Hid (x = t.getD q 0) := hx
            have hi : ((q + 1 : Nat) : Int) - 1 = (q : Int) := by omega
            have hql : q < len := by omega
            have hkq : k ≤ q := by omega
            clear hx
            rw [hi]
            clear hi
            by_cases hP : x = 46
            · have HE : Hid (dFrom t E q = q) := dFrom_hit t E q (by omega) (by rw [HT.out]; exact hEl) (by rw [← HX.out]; exact hP)
              have h46 : (x == 46) = true := by simpa using hP
              clear hP
              go_wp2_with fail
              go_round
              case rel => exact ⟨q, hkq, by omega, by go_num, by rw [HE.out]⟩
              case measure => simp [intOf]
            · have HE : Hid (dFrom t E q = dFrom t E (q + 1)) := dFrom_miss t E q (by omega) (by rw [HT.out]; exact hEl) (by rw [← HX.out]; exact hP)
              have h46 : (x == 46) = false := by simpa using hP
              clear hP
              go_wp2_with fail
              go_round
              case rel => exact ⟨q, hkq, by omega, by go_num, by rw [HE.out]⟩
              case measure => simp [intOf]
          · obtain rfl : k = j := by omega
            obtain ⟨D, hD⟩ : ∃ D, D = dFrom t E k := ⟨_, rfl⟩
            have hDk := dFrom_le t E k hEk1 (by rw [HT.out]; exact hEl)
            rw [← hD] at HR hDk ⊢
            have hDk1 := hDk.1
            have hDE := hDk.2
            clear hDk hD
            go_wp2_with fail
            refine (allDigits_any (some ⟨b, off, none⟩) len cap k D t w HB.out hl (by omega) (by omega)).mono ?_
            rintro e w1 ⟨rfl, rfl⟩
            cases hA1 : Pl.allD (seg t k D) with
            | false =>
              have HF : Hid (r = false) := show r = false from by rw [HR.out]; unfold isNumI; rw [hA1]; rfl
              clear hA1
              go_wp2_with fail
              go_ret
              exact ⟨by rw [HF.out]; rfl, rfl⟩
            | true =>
              have hkD : k < D := by
                by_cases h : k < D
                · exact h
                · rw [allD_seg_empty (by omega)] at hA1; cases hA1
              have HA1 : Hid (Pl.allD (seg t k D) = true) := hA1
              clear hA1
              obtain ⟨x, hx⟩ : ∃ x, x = t.getD k 0 := ⟨_, rfl⟩
              have hcx : w1.cell? ⟨b, off + k, none⟩ = some (.int .u8 x) := by rw [hx]; exact HC.out k (by omega)
              have HX : Hid (x = t.getD k 0) := hx
              have hklen : k < len := by omega
              clear hx
              go_upto_region 18 with fail
              go_cut [70] from 9 (fun v wc => BRel (decide (1 < D - k) && (x == 48)) w1 v wc)
              case first =>
                by_cases hD1 : 1 < D - k
                · have hD1' : (1 : Int) < (D : Int) - (k : Int) := by omega
                  go_wp2_with fail
                  go_meet
                  case rel => exact ⟨by rw [decide_eq_true hD1]; rfl, rfl⟩
                · have hD1' : ¬ (1 : Int) < (D : Int) - (k : Int) := by omega
                  go_wp2_with fail
                  go_meet
                  case rel => exact ⟨by rw [decide_eq_false hD1]; rfl, rfl⟩
              case rest =>
                obtain ⟨rfl, rfl⟩ := hcut
                clear hcx
                cases hA2 : (decide (1 < D - k) && (x == 48)) with
                | true =>
                  have HF : Hid (r = false) := show r = false from by rw [HR.out]; unfold isNumI; rw [← HX.out, hA2, HA1.out]; rfl
                  clear hA2
                  go_wp2_with fail
                  go_ret
                  exact ⟨by rw [HF.out]; rfl, rfl⟩
                | false =>
                  have HA2 : Hid ((decide (1 < D - k) && (t.getD k 0 == 48)) = false) := by rw [← HX.out]; exact hA2
                  clear hA2 HX
                  go_upto_region 20 with fail
                  go_cut [81] from 9 (fun v wc => BRel (!(decide (D = E) || Pl.allD (seg t (D + 1) E))) w1 v wc)
                  case first =>
                    by_cases hDE' : D < E
                    · go_wp2_with fail
                      refine (allDigits_any (some ⟨b, off, none⟩) len cap (D + 1) E t w1 HB.out hl (by omega) (by omega)).mono ?_
                      rintro e w2 ⟨rfl, rfl⟩
                      go_wp2_with fail
                      go_meet
                      case rel => exact ⟨by rw [decide_eq_false (by omega : ¬ D = E)]; rfl, rfl⟩
                    · go_wp2_with fail
                      go_meet
                      case rel => exact ⟨by rw [decide_eq_true (by omega : D = E)]; rfl, rfl⟩
                  case rest =>
                    obtain ⟨rfl, rfl⟩ := hcut
                    cases hA3 : (decide (D = E) || Pl.allD (seg t (D + 1) E)) with
                    | false =>
                      have HF : Hid (r = false) := show r = false from by rw [HR.out]; unfold isNumI; rw [hA3, HA2.out, HA1.out]; rfl
                      clear hA3
                      go_wp2_with fail
                      go_ret
                      exact ⟨by rw [HF.out]; rfl, rfl⟩
                    | true =>
                      have HRR : Hid (r = (decide (E = len) || Pl.allD (seg t (E + 1 + Pl.sg2 (t.drop (E + 1))) len))) := show r = _ from by
                        rw [HR.out]; unfold isNumI; rw [hA3, HA2.out, HA1.out, HT.out]; rfl
                      clear hA3 HA2 HA1 HR
                      by_cases hEn : E = len
                      · have HF : Hid (r = true) := show r = true from by rw [HRR.out, decide_eq_true hEn]; rfl
                        have hEn' : ¬ E < len := by omega
                        clear hEn
                        go_wp2_with fail
                        go_ret
                        exact ⟨by rw [HF.out]; rfl, rfl⟩
                      · have hEn' : E < len := by omega
                        have HRR' : Hid (r = Pl.allD (seg t (E + 1 + Pl.sg2 (t.drop (E + 1))) len)) := show r = _ from by rw [HRR.out, decide_eq_false hEn]; rfl
                        clear hEn HRR
                        go_upto_region 24 with fail
                        go_cut [105] from 9 (fun v wc => BRel (Pl.op (t.drop (E + 1)) 43 || Pl.op (t.drop (E + 1)) 45) w1 v wc)
                        case first =>
                          by_cases hp : E + 1 < len
                          · obtain ⟨y, hy⟩ : ∃ y, y = t.getD (E + 1) 0 := ⟨_, rfl⟩
                            have hcy : w1.cell? ⟨b, off + (E + 1), none⟩ = some (.int .u8 y) := by rw [hy]; exact HC.out (E + 1) hp
                            have HO : Hid (∀ c, Pl.op (t.drop (E + 1)) c = (y == c)) := by intro c; rw [hy]; exact (by rw [drop_cons t (E + 1) (by rw [HT.out]; exact hp)]; simp [Pl.op])
                            clear hy
                            cases h43 : (y == 43) with
                            | true =>
                              go_wp2_with fail
                              go_meet
                              case rel => exact ⟨by rw [HO.out, h43]; rfl, rfl⟩
                            | false =>
                              go_wp2_with fail
                              go_meet
                              case rel => exact ⟨by rw [HO.out, HO.out, h43]; rfl, rfl⟩
                          · have HO : Hid (∀ c, Pl.op (t.drop (E + 1)) c = false) := by intro c; exact (by rw [List.drop_eq_nil_of_le (by rw [HT.out]; omega)]; rfl)
                            go_wp2_with fail
                            go_meet
                            case rel => exact ⟨by rw [HO.out, HO.out]; rfl, rfl⟩
                        case rest =>
                          obtain ⟨rfl, rfl⟩ := hcut
                          cases hA4 : (Pl.op (t.drop (E + 1)) 43 || Pl.op (t.drop (E + 1)) 45) with
                          | true =>
                            have HF : Hid (r = Pl.allD (seg t (E + 1 + 1) len)) := show r = _ from by rw [HRR'.out]; unfold Pl.sg2; rw [hA4]; rfl
                            clear hA4 HRR'
                            go_wp2_with fail
                            rw [show ((E : Int) + 1 + 1) = ((E + 1 + 1 : Nat) : Int) from by omega]
                            refine (allDigits_any (some ⟨b, off, none⟩) len cap (E + 1 + 1) len t w1 HB.out hl (by omega) (by omega)).mono ?_
                            rintro e w2 ⟨rfl, rfl⟩
                            cases hA5 : Pl.allD (seg t (E + 1 + 1) len) with
                            | true =>
                              go_wp2_with fail
                              go_ret
                              exact ⟨by rw [HF.out, hA5]; rfl, rfl⟩
                            | false =>
                              go_wp2_with fail
                              go_ret
                              exact ⟨by rw [HF.out, hA5]; rfl, rfl⟩
                          | false =>
                            have HF : Hid (r = Pl.allD (seg t (E + 1) len)) := show r = _ from by rw [HRR'.out]; unfold Pl.sg2; rw [hA4]; rfl
                            clear hA4 HRR'
                            go_wp2_with fail
                            rw [show ((E : Int) + 1) = ((E + 1 : Nat) : Int) from by omega]
                            refine (allDigits_any (some ⟨b, off, none⟩) len cap (E + 1) len t w1 HB.out hl (by omega) (by omega)).mono ?_
                            rintro e w2 ⟨rfl, rfl⟩
                            cases hA5 : Pl.allD (seg t (E + 1) len) with
                            | true =>
                              go_wp2_with fail
                              go_ret
                              exact ⟨by rw [HF.out, hA5]; rfl, rfl⟩
                            | false =>
                              go_wp2_with fail
                              go_ret
                              exact ⟨by rw [HF.out, hA5]; rfl, rfl⟩

/-- 'zzIsNumber': is it a number? -/
theorem isNumber_any (a : Option Addr) (len cap : Nat) (t : List Int) (w : World) (h1 : BRow w a len t) (hl : len ≤ 1048577) :
    Calls Try.prog 12 #[.slice a len cap] w fun e w' => e = .returned (.bool (Pl.isNum t)) ∧ w' = w := by
  by_cases h0 : len = 0
  · subst h0
    obtain rfl : t = [] := List.length_eq_zero_iff.1 h1.1
    rw [show Pl.isNum [] = false from by decide]
    exact isNumber_nil a cap w h1
  · rcases h1.2 with h | ⟨b, off, rfl, _⟩
    · exact absurd h h0
    · exact isNumber_some b off len cap t w h1 hl (by omega)

end Go.Proofs.Qxb6618907a
