/-
  THE WALKS, SECOND PART: the scanner.
-/
import Derived.Test.Qxb6618907aWalks
namespace Go.Proofs.Qxb6618907a
open Go.RowKit

theorem op_at (xs : List Int) (p : Nat) (c : Int) (h : p < xs.length) : Pl.op (xs.drop p) c = (xs.getD p 0 == c) := by
  unfold Pl.op
  rw [List.head?_drop, List.getElem?_eq_getElem h, List.getD_eq_getElem?_getD, List.getElem?_eq_getElem h]
  rfl
theorem op_past (xs : List Int) (p : Nat) (c : Int) (h : xs.length ≤ p) : Pl.op (xs.drop p) c = false := by
  rw [List.drop_eq_nil_of_le h]; rfl

theorem at_in (b b' off len cap p : Nat) (dep x c : Int) (nt : ByteArray) (w : World) (hs : Sc w b (some ⟨b', off, none⟩) len cap p dep nt) (hp : p < len) (hx : w.cell? ⟨b', off + p, none⟩ = some (.int .u8 x)) :
    Calls Try.prog 16 #[.pointer (some ⟨b, 0, none⟩), .int .u8 c] w fun e w' => e = .returned (.bool (x == c)) ∧ ∃ n, w' = w.drewN n := by
  obtain ⟨c0, c1, c2, c3, c4, f1⟩ := hs
  have hp' : (p : Int) < (len : Int) := by omega
  go_enter Try.func16, Try.ntmps16
  go_wp2
  go_quiet (fail)
  go_wp2
  go_ret
  exact ⟨rfl, _, rfl⟩

theorem at_out (b len cap : Nat) (a : Option Addr) (i dep c : Int) (nt : ByteArray) (w : World) (hs : Sc w b a len cap i dep nt) (hp : (len : Int) ≤ i) :
    Calls Try.prog 16 #[.pointer (some ⟨b, 0, none⟩), .int .u8 c] w fun e w' => e = .returned (.bool false) ∧ ∃ n, w' = w.drewN n := by
  obtain ⟨c0, c1, c2, c3, c4, f1⟩ := hs
  have hp' : decide (i < (len : Int)) = false := decide_eq_false (by omega)
  go_enter Try.func16, Try.ntmps16
  go_wp2
  go_quiet (fail)
  go_wp2
  go_ret
  exact ⟨rfl, _, rfl⟩

/-- 'at': is the next byte c? -/
theorem at_any (b len cap p : Nat) (a : Option Addr) (dep c : Int) (nt : ByteArray) (xs : List Int) (w : World) (hs : Sc w b a len cap p dep nt) (hr : BRow w a len xs) :
    Calls Try.prog 16 #[.pointer (some ⟨b, 0, none⟩), .int .u8 c] w fun e w' => e = .returned (.bool (Pl.op (xs.drop p) c)) ∧ ∃ n, w' = w.drewN n := by
  by_cases hp : p < len
  · obtain ⟨h1, h2⟩ := hr
    rcases h2 with h0 | ⟨b', off, rfl, hc⟩
    · omega
    rw [op_at xs p c (by omega)]
    exact at_in b b' off len cap p dep _ c nt w hs hp (hc p hp)
  · rw [op_past xs p c (by rw [hr.1]; omega)]
    exact at_out b len cap a p dep c nt w hs (by omega)

/-- A slice of bytes that lies below block B. -/
def DRow (w : World) (B : Nat) (a : Option Addr) (len : Nat) (xs : List Int) : Prop :=
  xs.length = len ∧ (len = 0 ∨ ∃ b off, a = some ⟨b, off, none⟩ ∧ b < B ∧ ∀ i, i < len → w.cell? ⟨b, off + i, none⟩ = some (.int .u8 (xs.getD i 0)))
theorem DRow.brow {w : World} {B : Nat} {a : Option Addr} {len : Nat} {xs : List Int} (h : DRow w B a len xs) : BRow w a len xs := by
  obtain ⟨h1, h2⟩ := h
  rcases h2 with h0 | ⟨b, off, e, _, hc⟩
  · exact ⟨h1, .inl h0⟩
  · exact ⟨h1, .inr ⟨b, off, e, hc⟩⟩
theorem drow_of {w : World} {a : Option Addr} {len : Nat} {xs : List Int} (h : BRow w a len xs) : DRow w w.heap.size a len xs := by
  obtain ⟨h1, h2⟩ := h
  rcases h2 with h0 | ⟨b, off, e, hc⟩
  · exact ⟨h1, .inl h0⟩
  · by_cases h0 : len = 0
    · exact ⟨h1, .inl h0⟩
    · exact ⟨h1, .inr ⟨b, off, e, lt_of_cell (hc 0 (by omega)), hc⟩⟩
theorem drow_below {w w' : World} {B : Nat} {a : Option Addr} {len : Nat} {xs : List Int} (h : DRow w B a len xs) (hb : Below B w w') : DRow w' B a len xs := by
  obtain ⟨h1, h2⟩ := h
  rcases h2 with h0 | ⟨b, off, e, hlt, hc⟩
  · exact ⟨h1, .inl h0⟩
  · exact ⟨h1, .inr ⟨b, off, e, hlt, fun i hi => (hb.cell (p := ⟨b, off + i, none⟩) hlt).trans (hc i hi)⟩⟩

theorem sc_set {w : World} {b : Nat} {a : Option Addr} {len cap : Nat} {i dep : Int} {nt : ByteArray} (h : Sc w b a len cap i dep nt) (j : Int) : Sc (w.setCell ⟨b, 1, none⟩ (.int .i64 j)) b a len cap j dep nt := by
  obtain ⟨c0, c1, c2, c3, c4, f1⟩ := h
  refine ⟨?_, World.cell?_setCell_same _ _ _ c1, ?_, ?_, ?_, ?_⟩
  · rw [World.cell?_setCell_other _ _ _ _ (by simp)]; exact c0
  · rw [World.cell?_setCell_other _ _ _ _ (by simp)]; exact c2
  · rw [World.cell?_setCell_other _ _ _ _ (by simp)]; exact c3
  · rw [World.cell?_setCell_other _ _ _ _ (by simp)]; exact c4
  · rw [World.frozen?_setCell]; exact f1
theorem sc_drew {w : World} {b : Nat} {a : Option Addr} {len cap : Nat} {i dep : Int} {nt : ByteArray} (h : Sc w b a len cap i dep nt) (n : Nat) : Sc (w.drewN n) b a len cap i dep nt := h

theorem dl_lt {l : List Int} {k : Nat} (h : k < Pl.dl l) : ∃ x, l[k]? = some x ∧ Pl.isDig x = true := by
  obtain ⟨D, r, rfl, hD, hd, _⟩ := Pl.dl_split l
  have hk : k < D.length := by omega
  exact ⟨D[k], by rw [List.getElem?_append_left hk, List.getElem?_eq_getElem hk], hd _ (List.getElem_mem hk)⟩
theorem dl_at {l : List Int} {x : Int} (h : l[Pl.dl l]? = some x) : Pl.isDig x = false := by
  obtain ⟨D, r, e, hD, _, hr⟩ := Pl.dl_split l
  rw [← hD, e, List.getElem?_append_right (Nat.le_refl _), Nat.sub_self] at h
  exact hr x (by rw [List.head?_eq_getElem?]; exact h)
theorem dl_le (l : List Int) : Pl.dl l ≤ l.length := by
  obtain ⟨D, r, rfl, hD, _, _⟩ := Pl.dl_split l
  simp; omega
theorem drop_at (xs : List Int) (p k : Nat) : (xs.drop p)[k]? = xs[p + k]? := by rw [List.getElem?_drop]

/-- Where the scanner stands. -/
def posOf (w : World) (b : Nat) : Nat := match w.cell? ⟨b, 1, none⟩ with
  | some v => (intOf v).toNat
  | none => 0
theorem posOf_sc {w : World} {b : Nat} {a : Option Addr} {len cap p : Nat} {dep : Int} {nt : ByteArray} (h : Sc w b a len cap p dep nt) : posOf w b = p := by
  unfold posOf
  rw [h.2.1]
  simp [intOf]
theorem digits_step {w : World} {b : Nat} {a : Option Addr} {len cap p k q : Nat} {dep : Int} {nt : ByteArray} (h : Sc w b a len cap ((p + k : Nat) : Int) dep nt) (hq : q = p + k) (n : Nat) :
    Sc ((w.drewN n).setCell ⟨b, 1, none⟩ (.int .i64 ((q : Int) + 1))) b a len cap ((p + (k + 1) : Nat) : Int) dep nt := by
  rw [show ((p + (k + 1) : Nat) : Int) = (q : Int) + 1 from by omega]
  exact sc_set (sc_drew h n) _
theorem digits_less {w : World} {b : Nat} {a : Option Addr} {len cap p k q N : Nat} {dep : Int} {nt : ByteArray} (h : Sc w b a len cap ((p + k : Nat) : Int) dep nt) (hq : q = p + k) (hk : k < N) (n : Nat) :
    p + N - posOf ((w.drewN n).setCell ⟨b, 1, none⟩ (.int .i64 ((q : Int) + 1))) b < p + N - posOf w b := by
  rw [posOf_sc (digits_step h hq n), posOf_sc h]
  omega
theorem digits_ret {p q N : Nat} (hq : q = p + N) : Ending.returned (.bool (decide (p < q))) = .returned (.bool (decide (0 < N))) := by
  have : decide (p < q) = decide (0 < N) := by rw [decide_eq_decide]; omega
  rw [this]

set_option maxHeartbeats 1000000 in
/-- 'digits': it takes the digits that follow. -/
theorem digits_any (b len cap p : Nat) (a : Option Addr) (dep : Int) (nt : ByteArray) (xs : List Int) (w : World) (hs : Sc w b a len cap p dep nt) (hr : DRow w b a len xs) (hl : len ≤ 1048577) :
    Calls Try.prog 17 #[.pointer (some ⟨b, 0, none⟩)] w fun e w' => e = .returned (.bool (decide (0 < Pl.dl (xs.drop p)))) ∧ Sc w' b a len cap ((p + Pl.dl (xs.drop p) : Nat) : Int) dep nt ∧ Below b w w' := by
  obtain ⟨N, hN⟩ : ∃ N, N = Pl.dl (xs.drop p) := ⟨_, rfl⟩
  have hNl : p + N ≤ len ∨ N = 0 := by
    have := dl_le (xs.drop p)
    rw [List.length_drop, hr.1] at this
    omega
  rw [← hN]
  have HN : Hid (N = Pl.dl (xs.drop p)) := hN
  clear hN
  have hs' := hs
  obtain ⟨c0, c1, c2, c3, c4, f1⟩ := hs'
  go_enter Try.func17, Try.ntmps17
  go_wp2
  go_loopw [] (fun wr => ∃ k : Nat, k ≤ N ∧ Sc wr b a len cap ((p + k : Nat) : Int) dep nt ∧ Below b w wr) (fun wr => p + N - posOf wr b)
  case atStart => exact ⟨0, Nat.zero_le _, hs, Below.refl _ _⟩
  case round =>
    obtain ⟨k, hk, hsr, hb⟩ := hrel
    have hrr := drow_below hr hb
    have HSR : Hid (Sc wr b a len cap ((p + k : Nat) : Int) dep nt) := hsr
    obtain ⟨d0, d1, d2, d3, d4, g1⟩ := hsr
    obtain ⟨q, hq⟩ : ∃ q, q = p + k := ⟨_, rfl⟩
    have HQ : Hid (q = p + k) := hq
    rw [← hq] at d1
    have HR : Hid (xs.length = len) := hr.1
    clear c0 c1 c2 c3 c4 f1 hs hr
    by_cases hlt : q < len
    · obtain ⟨h1, h2⟩ := hrr
      rcases h2 with h0 | ⟨b', off, rfl, _, hc⟩
      · omega
      obtain ⟨x, hx⟩ : ∃ x, x = xs.getD q 0 := ⟨_, rfl⟩
      have hcx : wr.cell? ⟨b', off + q, none⟩ = some (.int .u8 x) := by rw [hx]; exact hc q hlt
      have HX : Hid (xs[p + k]? = some x) := by
        have e : xs[q]? = some x := by rw [hx, List.getD_eq_getElem?_getD, List.getElem?_eq_getElem (by omega)]; rfl
        rw [hq] at e; exact e
      have hlt' : (q : Int) < (len : Int) := by omega
      clear hx hc hq h1
      by_cases hkN : k < N
      · have hdig : 48 ≤ x ∧ x ≤ 57 := by
          obtain ⟨y, hy, hyd⟩ := dl_lt (show k < Pl.dl (xs.drop p) by rw [← HN.out]; exact hkN)
          rw [drop_at, HX.out] at hy
          obtain rfl : x = y := by simpa using hy
          unfold Pl.isDig at hyd; simpa using hyd
        obtain ⟨hd1, hd2⟩ := hdig
        go_wp2
        go_quiet (fail)
        go_wp2
        go_roundw
        case rel => exact ⟨k + 1, by omega, digits_step HSR.out HQ.out _, (below_drewN hb _).setCell (Nat.le_refl _) _⟩
        case measure => exact digits_less HSR.out HQ.out hkN _
      · obtain rfl : N = k := by omega
        have hnd : x < 48 ∨ 57 < x := by
          have := dl_at (l := xs.drop p) (x := x) (by rw [← HN.out, drop_at]; exact HX.out)
          unfold Pl.isDig at this
          simp at this
          omega
        by_cases h48 : 48 ≤ x
        · have h57 : decide (x ≤ 57) = false := decide_eq_false (by omega)
          clear hnd
          go_wp2
          go_quiet (fail)
          go_wp2
          go_ret
          exact ⟨digits_ret HQ.out, sc_drew HSR.out _, below_drewN hb _⟩
        · have h48' : decide (48 ≤ x) = false := decide_eq_false (by omega)
          clear hnd h48
          go_wp2
          go_quiet (fail)
          go_wp2
          go_ret
          exact ⟨digits_ret HQ.out, sc_drew HSR.out _, below_drewN hb _⟩
    · obtain rfl : N = k := by omega
      have hlt' : decide (q < len) = false := decide_eq_false (by omega)
      clear hlt hq
      go_wp2
      go_quiet (fail)
      go_wp2
      go_ret
      exact ⟨digits_ret HQ.out, sc_drew HSR.out _, below_drewN hb _⟩

end Go.Proofs.Qxb6618907a
