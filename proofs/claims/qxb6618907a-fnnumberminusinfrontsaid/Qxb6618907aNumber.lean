/-
  THE WALK OF 'number'.
-/
import Derived.Test.Qxb6618907aScan
import Derived.Deep.CutRange
namespace Go.Proofs.Qxb6618907a
open Go.RowKit

/-- The scanner stands at q; nothing below it has turned. -/
def At (w0 w : World) (b : Nat) (a : Option Addr) (len cap : Nat) (dep : Int) (nt : ByteArray) (xs : List Int) (q : Nat) : Prop := Sc w b a len cap q dep nt ∧ Below b w0 w ∧ DRow w b a len xs
theorem at_drew {w0 w : World} {b : Nat} {a : Option Addr} {len cap q : Nat} {dep : Int} {nt : ByteArray} {xs : List Int} (h : At w0 w b a len cap dep nt xs q) (n : Nat) : At w0 (w.drewN n) b a len cap dep nt xs q :=
  ⟨h.1, below_drewN h.2.1 n, h.2.2⟩
theorem at_step {w0 w : World} {b : Nat} {a : Option Addr} {len cap q : Nat} {dep : Int} {nt : ByteArray} {xs : List Int} (h : At w0 w b a len cap dep nt xs q) : At w0 (w.setCell ⟨b, 1, none⟩ (.int .i64 ((q : Int) + 1))) b a len cap dep nt xs (q + 1) := by
  refine ⟨?_, h.2.1.setCell (Nat.le_refl _) _, drow_below h.2.2 ((Below.refl b w).setCell (p := ⟨b, 1, none⟩) (Nat.le_refl _) _)⟩
  rw [show ((q + 1 : Nat) : Int) = (q : Int) + 1 from by omega]
  exact sc_set h.1 _
theorem at_below {w0 w w' : World} {b : Nat} {a : Option Addr} {len cap q q' : Nat} {dep : Int} {nt : ByteArray} {xs : List Int} (h : At w0 w b a len cap dep nt xs q) (hs : Sc w' b a len cap q' dep nt) (hb : Below b w w') : At w0 w' b a len cap dep nt xs q' :=
  ⟨hs, h.2.1.trans hb, drow_below h.2.2 hb⟩
theorem op_lt {xs : List Int} {q : Nat} {c : Int} (h : Pl.op (xs.drop q) c = true) : q < xs.length := by
  by_cases e : q < xs.length
  · exact e
  · rw [op_past xs q c (by omega)] at h; cases h

theorem body_zero {l : List Int} {n : Nat} (h : Pl.op l 48 = true) : Pl.bodyN l n = Pl.fracN (l.drop 1) (n + 1) := by unfold Pl.bodyN; rw [if_pos h]
theorem body_fail {l : List Int} {n : Nat} (h : Pl.op l 48 = false) (h0 : Pl.dl l = 0) : Pl.bodyN l n = (false, n) := by unfold Pl.bodyN; rw [if_neg (by rw [h]; simp), if_pos h0]
theorem body_digits {l : List Int} {n : Nat} (h : Pl.op l 48 = false) (h0 : ¬ Pl.dl l = 0) : Pl.bodyN l n = Pl.fracN (l.drop (Pl.dl l)) (n + Pl.dl l) := by unfold Pl.bodyN; rw [if_neg (by rw [h]; simp), if_neg h0]
theorem frac_none {l : List Int} {n : Nat} (h : Pl.op l 46 = false) : Pl.fracN l n = Pl.tailN l n := by unfold Pl.fracN; rw [if_neg (by rw [h]; simp)]
theorem frac_fail {l : List Int} {n : Nat} (h : Pl.op l 46 = true) (h0 : Pl.dl (l.drop 1) = 0) : Pl.fracN l n = (false, n + 1) := by unfold Pl.fracN; rw [if_pos h, if_pos h0]
theorem frac_some {l : List Int} {n : Nat} (h : Pl.op l 46 = true) (h0 : ¬ Pl.dl (l.drop 1) = 0) : Pl.fracN l n = Pl.tailN ((l.drop 1).drop (Pl.dl (l.drop 1))) (n + 1 + Pl.dl (l.drop 1)) := by unfold Pl.fracN; rw [if_pos h, if_neg h0]
theorem tail_none {l : List Int} {n : Nat} (h : Pl.op l 101 = false) (h' : Pl.op l 69 = false) : Pl.tailN l n = (true, n) := by unfold Pl.tailN; rw [if_neg (by rw [h, h']; simp)]
theorem tail_some {l : List Int} {n g : Nat} (h : (Pl.op l 101 || Pl.op l 69) = true) (hg : Pl.sg2 (l.drop 1) = g) : Pl.tailN l n = (decide (0 < Pl.dl ((l.drop 1).drop g)), n + 1 + g + Pl.dl ((l.drop 1).drop g)) := by unfold Pl.tailN; rw [if_pos h, hg]

/-- The scanner stands behind m bytes, and what is to be answered is this. -/
def St (w0 w : World) (b : Nat) (a : Option Addr) (len cap : Nat) (dep : Int) (nt : ByteArray) (xs : List Int) (p : Nat) (r : Bool × Nat) (f : List Int → Nat → Bool × Nat) : Prop :=
  ∃ m, At w0 w b a len cap dep nt xs (p + m) ∧ r = f (xs.drop (p + m)) m

set_option maxHeartbeats 2000000 in
/-- 'number': it answers and takes what the plain reading says. -/
theorem number_any (b len cap p : Nat) (a : Option Addr) (dep : Int) (nt : ByteArray) (xs : List Int) (w : World) (hs : Sc w b a len cap p dep nt) (hr : DRow w b a len xs) (hl : len ≤ 1048577) :
    Calls Try.prog 14 #[.pointer (some ⟨b, 0, none⟩)] w fun e w' => e = .returned (.bool (Pl.num (xs.drop p)).1) ∧ Sc w' b a len cap ((p + (Pl.num (xs.drop p)).2 : Nat) : Int) dep nt ∧ Below b w w' := by
  have HA : Hid (At w w b a len cap dep nt xs p) := ⟨hs, Below.refl _ _, hr⟩
  have HXL : Hid (xs.length = len) := hr.1
  obtain ⟨r, hr1⟩ : ∃ r, r = Pl.num (xs.drop p) := ⟨_, rfl⟩
  rw [← hr1]
  have HR : Hid (r = Pl.bodyN (xs.drop (p + Pl.sgn (xs.drop p))) (Pl.sgn (xs.drop p))) := by rw [← List.drop_drop]; exact hr1
  clear hr1 hs hr
  go_enter Try.func14, Try.ntmps14
  go_wp2_with fail
  refine (at_any b len cap p a dep 45 nt xs _ HA.out.1 HA.out.2.2.brow).mono ?_
  rintro e w1 ⟨rfl, n, rfl⟩
  have HA1 : Hid (At w (w.drewN n) b a len cap dep nt xs p) := at_drew HA.out n
  clear HA
  go_upto_if 4 with fail
  go_cut [] from 3 (fun wc => St w wc b a len cap dep nt xs p r Pl.bodyN)
  case first =>
    cases ho : Pl.op (xs.drop p) 45 with
    | true =>
      have hq := op_lt ho
      have hp : p < 1048577 := by have := HXL.out; omega
      obtain ⟨⟨d0, d1, d2, d3, d4, g1⟩, _, _⟩ := HA1.out
      have HS : Hid (Pl.sgn (xs.drop p) = 1) := by unfold Pl.sgn; rw [ho]; rfl
      clear ho hq
      go_wp2_with fail
      go_meet
      case rel => exact ⟨1, at_step HA1.out, by rw [HR.out, HS.out]⟩
    | false =>
      have HS : Hid (Pl.sgn (xs.drop p) = 0) := by unfold Pl.sgn; rw [ho]; rfl
      clear ho
      go_wp2_with fail
      go_meet
      case rel => exact ⟨0, HA1.out, by rw [HR.out, HS.out]⟩
  case rest =>
    clear HA1 HR
    obtain ⟨m, hA0, hR⟩ := hcut
    obtain ⟨q, hq⟩ : ∃ q, q = p + m := ⟨_, rfl⟩
    have HQ : Hid (q = p + m) := hq
    rw [← hq] at hA0 hR
    have HR : Hid (r = Pl.bodyN (xs.drop q) m) := hR
    have HA : Hid (At w wc b a len cap dep nt xs q) := hA0
    clear hA0 hR hq
    go_wp2_with fail
    refine (at_any b len cap q a dep 48 nt xs _ HA.out.1 HA.out.2.2.brow).mono ?_
    rintro e w1 ⟨rfl, n2, rfl⟩
    have HA1 : Hid (At w (wc.drewN n2) b a len cap dep nt xs q) := at_drew HA.out n2
    clear HA
    go_upto_if 13 with fail
    go_cut [] from 3 (fun wc => St w wc b a len cap dep nt xs p r Pl.fracN)
    case first =>
      cases ho : Pl.op (xs.drop q) 48 with
      | true =>
        have hq := op_lt ho
        have hp : q < 1048577 := by have := HXL.out; omega
        obtain ⟨⟨d0, d1, d2, d3, d4, g1⟩, _, _⟩ := HA1.out
        have HS : Hid (r = Pl.fracN (xs.drop (q + 1)) (m + 1)) := show r = _ from by rw [HR.out, body_zero ho, List.drop_drop]
        clear ho hq
        go_wp2_with fail
        go_meet
        case rel => exact ⟨m + 1, by rw [show p + (m + 1) = q + 1 from by have := HQ.out; omega]; exact at_step HA1.out, by rw [show p + (m + 1) = q + 1 from by have := HQ.out; omega]; exact HS.out⟩
      | false =>
        have HO : Hid (Pl.op (xs.drop q) 48 = false) := ho
        clear ho
        go_wp2_with fail
        refine (digits_any b len cap q a dep nt xs _ HA1.out.1 HA1.out.2.2 hl).mono ?_
        rintro e w2 ⟨rfl, hs2, hb2⟩
        have HA2 : Hid (At w w2 b a len cap dep nt xs (q + Pl.dl (xs.drop q))) := at_below HA1.out hs2 hb2
        clear hs2 hb2 HA1
        by_cases hd : Pl.dl (xs.drop q) = 0
        · have HD : Hid (Pl.dl (xs.drop q) = 0) := hd
          have hd' : decide (0 < Pl.dl (xs.drop q)) = false := decide_eq_false (by omega)
          clear hd
          rw [hd']
          go_wp2_with fail
          go_ret
          have hrr := HR.out.trans (body_fail HO.out HD.out)
          refine ⟨by rw [hrr]; rfl, ?_, HA2.out.2.1⟩
          have := HA2.out.1
          rw [HD.out, Nat.add_zero, HQ.out] at this
          rw [hrr]
          exact this
        · have hd' : decide (0 < Pl.dl (xs.drop q)) = true := decide_eq_true (by omega)
          have HS : Hid (r = Pl.fracN (xs.drop (q + Pl.dl (xs.drop q))) (m + Pl.dl (xs.drop q))) := show r = _ from by rw [HR.out, body_digits HO.out hd, List.drop_drop]
          clear hd
          rw [hd']
          go_wp2_with fail
          go_meet
          case rel => exact ⟨m + Pl.dl (xs.drop q), by rw [show p + (m + Pl.dl (xs.drop q)) = q + Pl.dl (xs.drop q) from by have := HQ.out; omega]; exact HA2.out, by rw [show p + (m + Pl.dl (xs.drop q)) = q + Pl.dl (xs.drop q) from by have := HQ.out; omega]; exact HS.out⟩
    case rest =>
      clear HA1 HR HQ
      obtain ⟨m2, hA0, hR⟩ := hcut
      obtain ⟨q2, hq⟩ : ∃ q, q = p + m2 := ⟨_, rfl⟩
      have HQ : Hid (q2 = p + m2) := hq
      rw [← hq] at hA0 hR
      have HR : Hid (r = Pl.fracN (xs.drop q2) m2) := hR
      have HA : Hid (At w wc b a len cap dep nt xs q2) := hA0
      clear hA0 hR hq
      go_wp2_with fail
      refine (at_any b len cap q2 a dep 46 nt xs _ HA.out.1 HA.out.2.2.brow).mono ?_
      rintro e w1 ⟨rfl, n3, rfl⟩
      have HA1 : Hid (At w (wc.drewN n3) b a len cap dep nt xs q2) := at_drew HA.out n3
      clear HA
      go_upto_if 25 with fail
      go_cut [] from 3 (fun wc => St w wc b a len cap dep nt xs p r Pl.tailN)
      case first =>
        cases ho : Pl.op (xs.drop q2) 46 with
        | true =>
          have hq := op_lt ho
          have hp : q2 < 1048577 := by have := HXL.out; omega
          obtain ⟨⟨d0, d1, d2, d3, d4, g1⟩, _, _⟩ := HA1.out
          have HO : Hid (Pl.op (xs.drop q2) 46 = true) := ho
          have HA2 := at_step HA1.out
          have HA3 : Hid (At w ((wc.drewN n3).setCell ⟨b, 1, none⟩ (.int .i64 ((q2 : Int) + 1))) b a len cap dep nt xs (q2 + 1)) := HA2
          clear ho hq HA2
          go_wp2_with fail
          refine (digits_any b len cap (q2 + 1) a dep nt xs _ HA3.out.1 HA3.out.2.2 hl).mono ?_
          rintro e w2 ⟨rfl, hs2, hb2⟩
          have HA4 : Hid (At w w2 b a len cap dep nt xs (q2 + 1 + Pl.dl (xs.drop (q2 + 1)))) := at_below HA3.out hs2 hb2
          clear hs2 hb2 HA1 HA3
          by_cases hd : Pl.dl (xs.drop (q2 + 1)) = 0
          · have HD : Hid (Pl.dl (xs.drop (q2 + 1)) = 0) := hd
            have hd' : decide (0 < Pl.dl (xs.drop (q2 + 1))) = false := decide_eq_false (by omega)
            clear hd
            rw [hd']
            go_wp2_with fail
            go_ret
            have hrr := HR.out.trans (frac_fail HO.out (by rw [List.drop_drop]; exact HD.out))
            refine ⟨by rw [hrr]; rfl, ?_, HA4.out.2.1⟩
            have := HA4.out.1
            rw [HD.out, Nat.add_zero, HQ.out] at this
            rw [hrr]
            exact this
          · have hd' : decide (0 < Pl.dl (xs.drop (q2 + 1))) = true := decide_eq_true (by omega)
            have HS : Hid (r = Pl.tailN (xs.drop (q2 + 1 + Pl.dl (xs.drop (q2 + 1)))) (m2 + 1 + Pl.dl (xs.drop (q2 + 1)))) := show r = _ from by
              have e1 : (xs.drop q2).drop 1 = xs.drop (q2 + 1) := List.drop_drop
              rw [HR.out, frac_some HO.out (by rw [e1]; exact hd), e1, List.drop_drop]
            clear hd
            rw [hd']
            go_wp2_with fail
            go_meet
            case rel => exact ⟨m2 + 1 + Pl.dl (xs.drop (q2 + 1)), by rw [show p + (m2 + 1 + Pl.dl (xs.drop (q2 + 1))) = q2 + 1 + Pl.dl (xs.drop (q2 + 1)) from by have := HQ.out; omega]; exact HA4.out, by rw [show p + (m2 + 1 + Pl.dl (xs.drop (q2 + 1))) = q2 + 1 + Pl.dl (xs.drop (q2 + 1)) from by have := HQ.out; omega]; exact HS.out⟩
        | false =>
          have HS : Hid (r = Pl.tailN (xs.drop q2) m2) := show r = _ from by rw [HR.out, frac_none ho]
          clear ho
          go_wp2_with fail
          go_meet
          case rel => exact ⟨m2, by rw [← HQ.out]; exact HA1.out, by rw [← HQ.out]; exact HS.out⟩
      case rest =>
        clear HA1 HR HQ
        obtain ⟨m3, hA0, hR⟩ := hcut
        obtain ⟨q3, hq⟩ : ∃ q, q = p + m3 := ⟨_, rfl⟩
        have HQ : Hid (q3 = p + m3) := hq
        rw [← hq] at hA0 hR
        have HR : Hid (r = Pl.tailN (xs.drop q3) m3) := hR
        have HA : Hid (At w wc b a len cap dep nt xs q3) := hA0
        clear hA0 hR hq
        go_upto_region 11 with fail
        go_cut [41] from 3 (fun v wc => v = .bool (Pl.op (xs.drop q3) 101 || Pl.op (xs.drop q3) 69) ∧ At w wc b a len cap dep nt xs q3)
        case first =>
          go_wp2_with fail
          refine (at_any b len cap q3 a dep 101 nt xs _ HA.out.1 HA.out.2.2.brow).mono ?_
          rintro e w1 ⟨rfl, n4, rfl⟩
          have HA1 : Hid (At w (wc.drewN n4) b a len cap dep nt xs q3) := at_drew HA.out n4
          cases ho : Pl.op (xs.drop q3) 101 with
          | true =>
            go_wp2_with fail
            go_meet
            case rel => exact ⟨by rw [ho]; rfl, HA1.out⟩
          | false =>
            go_wp2_with fail
            refine (at_any b len cap q3 a dep 69 nt xs _ HA1.out.1 HA1.out.2.2.brow).mono ?_
            rintro e w1 ⟨rfl, n5, rfl⟩
            go_wp2_with fail
            go_meet
            case rel => exact ⟨by rw [ho]; rfl, at_drew HA.out (n4 + n5)⟩
        case rest =>
          clear HA
          obtain ⟨rfl, hA0⟩ := hcut
          have HA : Hid (At w wc b a len cap dep nt xs q3) := hA0
          clear hA0
          cases ho : (Pl.op (xs.drop q3) 101 || Pl.op (xs.drop q3) 69) with
          | false =>
            have hrr : r = (true, m3) := by
              rw [Bool.or_eq_false_iff] at ho
              rw [HR.out]; exact tail_none ho.1 ho.2
            have HRR : Hid (r = (true, m3)) := hrr
            clear ho hrr
            go_wp2_with fail
            go_ret
            refine ⟨by rw [HRR.out]; rfl, ?_, HA.out.2.1⟩
            have := HA.out.1
            rw [HQ.out] at this
            rw [HRR.out]
            exact this
          | true =>
            have hq : q3 < xs.length := by
              rcases Bool.or_eq_true .. |>.mp ho with h | h
              · exact op_lt h
              · exact op_lt h
            have hp : q3 < 1048577 := by have := HXL.out; omega
            obtain ⟨⟨d0, d1, d2, d3, d4, g1⟩, _, _⟩ := HA.out
            have HO : Hid ((Pl.op (xs.drop q3) 101 || Pl.op (xs.drop q3) 69) = true) := ho
            have HA3 : Hid (At w (wc.setCell ⟨b, 1, none⟩ (.int .i64 ((q3 : Int) + 1))) b a len cap dep nt xs (q3 + 1)) := at_step HA.out
            clear ho hq
            go_upto_region 13 with fail
            obtain ⟨W5, hW5⟩ : ∃ W5, W5 = wc.setCell ⟨b, 1, none⟩ (.int .i64 ((q3 : Int) + 1)) := ⟨_, rfl⟩
            rw [← hW5] at HA3 ⊢
            clear hW5 HA d0 d1 d2 d3 d4 g1
            obtain ⟨q4, hq4⟩ : ∃ q4, q4 = q3 + 1 := ⟨_, rfl⟩
            rw [← hq4] at HA3
            have HQ4 : Hid (q4 = p + m3 + 1) := by have := HQ.out; exact (by omega : q4 = p + m3 + 1)
            have HR4 : Hid (∀ g, Pl.sg2 (xs.drop q4) = g → r = (decide (0 < Pl.dl (xs.drop (q4 + g))), m3 + 1 + g + Pl.dl (xs.drop (q4 + g)))) := by
              intro g hg
              have e1 : (xs.drop q3).drop 1 = xs.drop q4 := by rw [List.drop_drop, hq4]
              rw [HR.out, tail_some HO.out (g := g) (by rw [e1]; exact hg), e1, List.drop_drop]
            clear hq4 HR HQ HO
            go_cut [54] from 3 (fun v wc => v = .bool (Pl.op (xs.drop q4) 43 || Pl.op (xs.drop q4) 45) ∧ At w wc b a len cap dep nt xs q4)
            case first =>
              go_wp2_with fail
              refine (at_any b len cap q4 a dep 43 nt xs _ HA3.out.1 HA3.out.2.2.brow).mono ?_
              rintro e w1 ⟨rfl, n4, rfl⟩
              have HA1 : Hid (At w (W5.drewN n4) b a len cap dep nt xs q4) := at_drew HA3.out n4
              cases ho : Pl.op (xs.drop q4) 43 with
              | true =>
                go_wp2_with fail
                go_meet
                case rel => exact ⟨by rw [ho]; rfl, HA1.out⟩
              | false =>
                go_wp2_with fail
                refine (at_any b len cap q4 a dep 45 nt xs _ HA1.out.1 HA1.out.2.2.brow).mono ?_
                rintro e w1 ⟨rfl, n5, rfl⟩
                go_wp2_with fail
                go_meet
                case rel => exact ⟨by rw [ho]; rfl, at_drew HA3.out (n4 + n5)⟩
            case rest =>
              clear HA3
              obtain ⟨rfl, hA0⟩ := hcut
              have HA : Hid (At w wc b a len cap dep nt xs q4) := hA0
              clear hA0
              cases ho : (Pl.op (xs.drop q4) 43 || Pl.op (xs.drop q4) 45) with
              | true =>
                have hq : q4 < xs.length := by
                  rcases Bool.or_eq_true .. |>.mp ho with h | h
                  · exact op_lt h
                  · exact op_lt h
                have hp : q4 < 1048577 := by have := HXL.out; omega
                obtain ⟨⟨d0, d1, d2, d3, d4, g1⟩, _, _⟩ := HA.out
                have HRR : Hid (r = (decide (0 < Pl.dl (xs.drop (q4 + 1))), m3 + 1 + 1 + Pl.dl (xs.drop (q4 + 1)))) := HR4.out 1 (by unfold Pl.sg2; rw [ho]; rfl)
                have HA3 : Hid (At w (wc.setCell ⟨b, 1, none⟩ (.int .i64 ((q4 : Int) + 1))) b a len cap dep nt xs (q4 + 1)) := at_step HA.out
                clear ho hq HA
                go_wp2_with fail
                refine (digits_any b len cap (q4 + 1) a dep nt xs _ HA3.out.1 HA3.out.2.2 hl).mono ?_
                rintro e w2 ⟨rfl, hs2, hb2⟩
                have HA4 : Hid (At w w2 b a len cap dep nt xs (q4 + 1 + Pl.dl (xs.drop (q4 + 1)))) := at_below HA3.out hs2 hb2
                clear hs2 hb2 HA3 HR4 d0 d1 d2 d3 d4 g1
                go_wp2_with fail
                go_ret
                refine ⟨by rw [HRR.out]; rfl, ?_, HA4.out.2.1⟩
                have := HA4.out.1
                rw [HQ4.out] at this
                rw [HRR.out, HQ4.out]
                rw [show p + (m3 + 1 + 1 + Pl.dl (xs.drop (p + m3 + 1 + 1))) = p + m3 + 1 + 1 + Pl.dl (xs.drop (p + m3 + 1 + 1)) from by omega]
                exact this
              | false =>
                have HRR : Hid (r = (decide (0 < Pl.dl (xs.drop (q4 + 0))), m3 + 1 + 0 + Pl.dl (xs.drop (q4 + 0)))) := HR4.out 0 (by unfold Pl.sg2; rw [ho]; rfl)
                clear ho
                go_wp2_with fail
                refine (digits_any b len cap q4 a dep nt xs _ HA.out.1 HA.out.2.2 hl).mono ?_
                rintro e w2 ⟨rfl, hs2, hb2⟩
                have HA4 : Hid (At w w2 b a len cap dep nt xs (q4 + Pl.dl (xs.drop q4))) := at_below HA.out hs2 hb2
                clear hs2 hb2 HA HR4
                go_wp2_with fail
                go_ret
                refine ⟨by rw [HRR.out]; rfl, ?_, HA4.out.2.1⟩
                have := HA4.out.1
                rw [HQ4.out] at this
                rw [HRR.out, HQ4.out, Nat.add_zero]
                rw [show p + (m3 + 1 + 0 + Pl.dl (xs.drop (p + m3 + 1))) = p + m3 + 1 + Pl.dl (xs.drop (p + m3 + 1)) from by omega]
                exact this

theorem znumber_any (b len cap p : Nat) (a : Option Addr) (dep : Int) (nt : ByteArray) (xs : List Int) (w : World) (hs : Sc w b a len cap p dep nt) (hr : DRow w b a len xs) (hl : len ≤ 1048577) :
    Calls Try.prog 8 #[.pointer (some ⟨b, 0, none⟩)] w fun e w' => e = .returned (.bool (Pl.num (xs.drop p)).1) ∧ Sc w' b a len cap ((p + (Pl.num (xs.drop p)).2 : Nat) : Int) dep nt ∧ Below b w w' := by
  go_enter Try.func8, Try.ntmps8
  go_wp2_with fail
  refine (number_any b len cap p a dep nt xs _ hs hr hl).mono ?_
  rintro e w1 ⟨rfl, hs1, hb1⟩
  go_wp2_with fail
  go_ret
  exact ⟨rfl, hs1, hb1⟩

end Go.Proofs.Qxb6618907a
