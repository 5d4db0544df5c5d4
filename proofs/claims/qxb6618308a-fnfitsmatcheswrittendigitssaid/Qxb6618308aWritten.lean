/-
  THE WALK OF 'zzFitsWritten'.
-/
import Derived.Test.Qxb6618308aWalks
namespace Go.Proofs.Qxb6618308a
open Go.RowKit

theorem last_step (d : ByteArray) (k : Nat) (hk : k < d.size) (hk' : k ≤ d.size - 1) (h0 : 0 < d.size) (hl : ((d[d.size - 1]).toNat : Int) ≠ 48) (h : (((d[k]).toNat : Int) != 48) = false) : k + 1 ≤ d.size - 1 := by
  by_cases e : k = d.size - 1
  · subst e
    have : ((d[d.size - 1]).toNat : Int) = 48 := by simpa using h
    exact absurd this hl
  · omega

set_option maxHeartbeats 400000 in
/-- WHERE A DIGIT IS CUT OFF (more decimals than places, the last digit no zero): no. -/
theorem written_cut (d : ByteArray) (s p : Int) (w : World) (hd : d.size ≤ 1048576) (h0 : 0 < d.size) (hl : ((d[d.size - 1]).toNat : Int) ≠ 48) (hs' : s ≤ 9223372036854775807) (hp : 0 ≤ p) (hp' : p ≤ 18) (h : p < s) :
    Calls Try.prog 7 #[.string d, .int .i64 s, .int .i64 p] w fun e w' => e = .returned (.bool false) ∧ Below w.heap.size w w' := by
  have HL : Hid (((d[d.size - 1]).toNat : Int) ≠ 48) := hl
  clear hl
  by_cases hst : (d.size : Int) - s + p < 0
  · go_enter Try.func7, Try.ntmps7
    go_wp2
    go_loop [9] (fun j => ∃ k : Nat, k ≤ d.size - 1 ∧ j = .int .i64 k) (fun j => d.size - (intOf j).toNat)
    case atStart => exact ⟨0, by omega, rfl⟩
    case round =>
      obtain ⟨k, hk, rfl⟩ := hrel
      have hlt : k < d.size := by omega
      go_wp2
      · go_ret
        exact ⟨rfl, Below.refl _ _⟩
      · have hk' : k + 1 ≤ d.size - 1 := last_step d k hlt hk h0 HL.out (by assumption)
        go_round
        case rel => exact ⟨k + 1, by omega, by go_num⟩
        case measure => simp [intOf]; omega
  · obtain ⟨st, hst1, hst2⟩ : ∃ st : Nat, (d.size : Int) - s + p = st ∧ st ≤ d.size - 1 := ⟨((d.size : Int) - s + p).toNat, by omega, by omega⟩
    go_enter Try.func7, Try.ntmps7
    go_wp2
    go_loop [9] (fun j => ∃ k : Nat, k ≤ d.size - 1 ∧ j = .int .i64 k) (fun j => d.size - (intOf j).toNat)
    case atStart => exact ⟨st, by omega, by first | rfl | (rw [hst1])⟩
    case round =>
      obtain ⟨k, hk, rfl⟩ := hrel
      have hlt : k < d.size := by omega
      go_wp2
      · go_ret
        exact ⟨rfl, Below.refl _ _⟩
      · have hk' : k + 1 ≤ d.size - 1 := last_step d k hlt hk h0 HL.out (by assumption)
        go_round
        case rel => exact ⟨k + 1, by omega, by go_num⟩
        case measure => simp [intOf]; omega

/-! ### The digits written out -/
/-- The first z of the written bytes are zeros, the one behind them is none. -/
def Lead (z : Nat) (xs : List Int) : Prop := (∀ j, j < z → j < xs.length → xs.getD j 0 = 48) ∧ (z < xs.length → xs.getD z 0 ≠ 48)

theorem lead_nil (z : Nat) : Lead z [] := ⟨fun j _ h => by simp at h, fun h => by simp at h⟩
theorem getD_snoc (xs : List Int) (c : Int) (i : Nat) : (xs ++ [c]).getD i 0 = if i < xs.length then xs.getD i 0 else if i = xs.length then c else 0 := by
  by_cases h : i < xs.length
  · rw [if_pos h]; simp [List.getElem?_append, h]
  · rw [if_neg h]
    by_cases h2 : i = xs.length
    · rw [if_pos h2]; subst h2; simp
    · rw [if_neg h2]; simp [List.getElem?_append, h]; rw [List.getElem?_eq_none (by simp; omega)]; rfl
theorem lead_snoc {z : Nat} {xs : List Int} {c : Int} (h : Lead z xs) (h1 : xs.length < z → c = 48) (h2 : xs.length = z → c ≠ 48) : Lead z (xs ++ [c]) := by
  obtain ⟨a, b⟩ := h
  refine ⟨fun j hj hl => ?_, fun hl => ?_⟩
  · simp at hl
    rw [getD_snoc]
    by_cases e : j < xs.length
    · rw [if_pos e]; exact a j hj e
    · obtain rfl : j = xs.length := by omega
      rw [if_neg e, if_pos rfl]
      exact h1 hj
  · simp at hl
    rw [getD_snoc]
    by_cases e : z < xs.length
    · rw [if_pos e]; exact b e
    · obtain rfl : z = xs.length := by omega
      rw [if_neg e, if_pos rfl]
      exact h2 rfl

theorem info5 : (Try.prog.info? 5).map (fun i => (i.zero, i.size, i.bytes)) = some (some (.int .u8 0), 1, 1) := by kernel_rfl

/-- The buffer: a slice of the call's own that holds these bytes; nothing old has turned. -/
def Buf (w wr : World) (v : Value) (xs : List Int) : Prop := wr.ownsRow w.heap.size 5 1 v xs.length (xs.map (Value.int .u8)) ∧ Below w.heap.size w wr

theorem buf_nil (w : World) : Buf w w (.slice none 0 0) [] := ⟨World.ownsRow_nil _ _ _ _, Below.refl _ _⟩

theorem buf_shape {w wr : World} {v : Value} {xs : List Int} (h : Buf w wr v xs) (h0 : 0 < xs.length) : ∃ g cap, v = .slice (some ⟨g, 0, none⟩) xs.length cap ∧ ∀ j, j < xs.length → wr.cell? ⟨g, j, none⟩ = some (.int .u8 (xs.getD j 0)) := by
  obtain ⟨ho, _⟩ := h
  have ho' := ho
  rcases ho.2 with ⟨_, e⟩ | ⟨g, cap, cur, rfl, _⟩
  · omega
  · refine ⟨g, cap, rfl, fun j hj => ?_⟩
    rw [ho'.cellAt j (by omega)]
    simp [hj]

/-- 'buf = append(buf, c)'. -/
theorem wpList_push {ops : Array Oper} {rest : List Oper} {o : Oper} {a : Act} {Q : Exit → Act → World → Prop} {w wr : World} (hgd : o.guard = none) (s x : Operand)
    (ho : o.op = .call { callee := .builtin .append, args := #[s, x], argTypes := #[30, 30] }) (v : Value) (xs : List Int) (c : Int) (hs : a.eval s = v) (hb : Buf w wr v xs) (hlen : xs.length ≤ 2000000)
    (hx : a.eval x = .slice (some ⟨wr.heap.size, 0, none⟩) 1 1)
    (h : ∀ v' w', Buf w w' v' (xs ++ [c]) → wpList Try.prog ops Q rest (a.put o.dst v') w') : wpList Try.prog ops Q (o :: rest) a (wr.alloc (.cells #[.int .u8 c] 5)) := by
  obtain ⟨i0, hi, hz0, hz1, hz2⟩ := info_parts info5
  obtain ⟨hown, hbel⟩ := hb
  refine wpList_append_own _ hgd s x 30 ho w.heap.size 5 i0 (.int .u8 0) 1 1 Try.underlying30 hi hz0 hz1 hz2 rfl (by decide) v _ _ hs (hown.alloc _) ⟨wr.heap.size, 0, none⟩ 1 1 [.int .u8 c] hx rfl (cell_one_new _ _ _) ?_ ?_ ?_ ?_ ?_
  · intro u hu; simp at hu; subst hu; rfl
  · unfold maxLen; omega
  · omega
  · have := hbel.size; simp; omega
  · intro v' w' ho' hg _
    refine h v' w' ⟨by simpa using ho', ?_⟩
    refine (hbel.alloc hbel.size _).grown hg (by have := hbel.size; simp; omega) ?_
    intro k hk
    exact (hown.lt k hk).1

theorem ret_bool {a b : Prop} [Decidable a] [Decidable b] (h : a ↔ b) : Ending.returned (.bool (decide a)) = .returned (.bool (decide b)) := by
  rw [decide_eq_decide.2 h]

set_option maxHeartbeats 1000000 in
/-- .. more whole digits than none: the first byte written is the number's first digit. -/
theorem written_whole (d : ByteArray) (s p : Int) (w : World) (hd : d.size ≤ 1048576) (h0 : 0 < d.size) (hl : ((d[0]).toNat : Int) ≠ 48) (hs : 0 ≤ s) (hp : 0 ≤ p) (hp' : p ≤ 18) (h : s ≤ p) (hw : s < d.size) :
    Calls Try.prog 7 #[.string d, .int .i64 s, .int .i64 p] w fun e w' => e = .returned (.bool (decide ((d.size : Int) - s + p ≤ 18))) ∧ Below w.heap.size w w' := by
  have HL : Hid (((d[0]).toNat : Int) ≠ 48) := hl
  clear hl
  obtain ⟨P, hP⟩ : ∃ P : Nat, p = P := ⟨p.toNat, by omega⟩
  subst hP
  go_enter Try.func7, Try.ntmps7
  go_wp2
  go_loop [9] (fun j => j = .int .i64 ((d.size : Int) - s + P)) (fun _ => 0)
  case atStart => rfl
  case round =>
    obtain rfl := hrel
    obtain ⟨N, hN⟩ : ∃ N : Nat, (d.size : Int) - s = N := ⟨((d.size : Int) - s).toNat, by omega⟩
    have HN : Hid ((d.size : Int) - s = N) := hN
    have hNd : N ≤ d.size := by omega
    have hN1 : 1 ≤ N := by omega
    go_wp2
    go_loopw [10, 11] (fun v j wr => ∃ (k : Nat) (xs : List Int), k ≤ N ∧ j = .int .i64 k ∧ xs.length = k ∧ Lead 0 xs ∧ Buf w wr v xs) (fun _ j _ => N - (intOf j).toNat)
    case atStart => exact ⟨0, [], Nat.zero_le _, rfl, rfl, lead_nil 0, buf_nil w⟩
    case round =>
      obtain ⟨k, xs, hk, rfl, hxl, hle, hb⟩ := hrel
      have HX : Hid (xs.length = k) := hxl
      have HE : Hid (Lead 0 xs) := hle
      have hxs : xs.length ≤ 2000000 := by omega
      clear hxl hle
      by_cases hlt : k < N
      · go_wp2_with (at_builtin; refine wpList_push rfl _ _ rfl _ xs _ rfl hb hxs rfl ?_; intro v' w' hb')
        go_roundw
        case rel =>
          refine ⟨k + 1, _, by omega, by go_num, ?_, lead_snoc HE.out ?_ ?_, hb'⟩
          · have := HX.out; simp; omega
          · intro h; exact absurd h (Nat.not_lt_zero _)
          · intro h; have e : k = 0 := HX.out.symm.trans h; subst e; exact HL.out
        case measure => simp [intOf]; omega
      · obtain rfl : N = k := by omega
        clear HN
        go_wp2
        go_loopw [10, 12] (fun v j wr => ∃ (k : Nat) (xs : List Int), k ≤ P ∧ j = .int .i64 k ∧ xs.length = N + k ∧ Lead (0) xs ∧ Buf w wr v xs) (fun _ j _ => P - (intOf j).toNat)
        case atStart => exact ⟨0, xs, Nat.zero_le _, rfl, HX.out, HE.out, hb⟩
        case round =>
          obtain ⟨k, xs, hk, rfl, hxl, hle, hb⟩ := hrel
          have HX : Hid (xs.length = N + k) := hxl
          have HE : Hid (Lead (0) xs) := hle
          have hxs : xs.length ≤ 2000000 := by omega
          by_cases hlt : k < P
          · clear hxl hle
            by_cases hin : 0 ≤ (d.size : Int) - s + k ∧ (d.size : Int) - s + k < d.size
            · obtain ⟨hin1, hin2⟩ := hin
              obtain ⟨m, hm, hmd⟩ : ∃ m : Nat, (d.size : Int) - s + k = m ∧ m < d.size := ⟨((d.size : Int) - s + k).toNat, by omega, by omega⟩
              have HM : Hid ((d.size : Int) - s + k = m) := hm
              go_wp2_with (at_builtin; refine wpList_push rfl _ _ rfl _ xs _ rfl hb hxs rfl ?_; intro v' w' hb')
              go_roundw
              case rel =>
                refine ⟨k + 1, _, by omega, by go_num, ?_, lead_snoc HE.out ?_ ?_, hb'⟩
                · have := HX.out; simp; omega
                · intro h; exact absurd h (Nat.not_lt_zero _)
                · intro h; have := HX.out; omega
              case measure => simp [intOf]; omega
            · by_cases hin1 : 0 ≤ (d.size : Int) - s + k
              all_goals try (exfalso; omega)
              all_goals
                go_wp2_with (at_builtin; refine wpList_push rfl _ _ rfl _ xs _ rfl hb hxs rfl ?_; intro v' w' hb')
                go_roundw
                case rel =>
                  refine ⟨k + 1, _, by omega, by go_num, ?_, lead_snoc HE.out ?_ ?_, hb'⟩
                  · have := HX.out; simp; omega
                  · intro h; exact absurd h (Nat.not_lt_zero _)
                  · intro h; have := HX.out; omega
                case measure => simp [intOf]; omega
          · obtain ⟨g, cap, hv, hc⟩ := buf_shape hb (by omega)
            rw [hv]
            have hbel := hb.2
            clear hb hv
            obtain ⟨L, hL⟩ : ∃ L, L = xs.length := ⟨_, rfl⟩
            rw [← hL] at hc ⊢
            have hXL : L = N + P := by omega
            have HXL : Hid (L = N + P) := hXL
            have HEL : Hid (Lead (0) xs ∧ L = xs.length) := ⟨hle, hL⟩
            have hLs : L ≤ 2000000 := by omega
            obtain ⟨Z, hZ⟩ : ∃ Z, Z = 0 := ⟨_, rfl⟩
            have HZ : Hid (Z = 0) := hZ
            have hLz : Z ≤ L := by omega
            clear hxl hle hL hXL hZ
            go_wp2
            go_loop [14] (fun j => ∃ k : Nat, k ≤ Z ∧ j = .int .i64 k) (fun j => L - (intOf j).toNat)
            case atStart => exact ⟨0, Nat.zero_le _, rfl⟩
            case round =>
              obtain ⟨q, hq, rfl⟩ := hrel
              by_cases hqZ : q < Z
              · have hqL : q < L := by omega
                have hcq : wr.cell? ⟨g, q, none⟩ = some (.int .u8 48) := by
                  rw [hc q hqL, HEL.out.1.1 q (by rw [← HZ.out]; exact hqZ) (by rw [← HEL.out.2]; exact hqL)]
                clear hc
                go_wp2
                go_round
                case rel => exact ⟨q + 1, by omega, by go_num⟩
                case measure => simp [intOf]; omega
              · obtain rfl : Z = q := by omega
                by_cases hqL : Z < L
                · obtain ⟨c, hcc⟩ : ∃ c, c = xs.getD Z 0 := ⟨_, rfl⟩
                  have hcq : wr.cell? ⟨g, Z, none⟩ = some (.int .u8 c) := by rw [hc Z hqL, hcc]
                  have hne : (c == 48) = false := by
                    have := HEL.out.1.2 (by rw [← HEL.out.2, ← HZ.out]; exact hqL)
                    rw [← HZ.out, ← hcc] at this
                    simpa using this
                  clear hc hcc
                  go_wp2
                  go_ret
                  refine ⟨ret_bool ?_, hbel⟩
                  have := HZ.out
                  have := HXL.out
                  omega
                · clear hc
                  go_wp2
                  go_ret
                  refine ⟨ret_bool ?_, hbel⟩
                  have := HZ.out
                  have := HXL.out
                  omega

set_option maxHeartbeats 1000000 in
/-- .. no whole digit: zeros first, as many as are missing; then the number's first digit. -/
theorem written_frac (d : ByteArray) (s p : Int) (w : World) (hd : d.size ≤ 1048576) (h0 : 0 < d.size) (hl : ((d[0]).toNat : Int) ≠ 48) (hp : 0 ≤ p) (hp' : p ≤ 18) (h : s ≤ p) (hw : d.size ≤ s) :
    Calls Try.prog 7 #[.string d, .int .i64 s, .int .i64 p] w fun e w' => e = .returned (.bool (decide ((d.size : Int) - s + p ≤ 18))) ∧ Below w.heap.size w w' := by
  obtain ⟨M, hM⟩ : ∃ M : Nat, s = d.size + M := ⟨(s - d.size).toNat, by omega⟩
  have HMM : Hid (s = d.size + M) := hM
  have hMP : (M : Int) < p := by omega
  clear hM
  have HL : Hid (((d[0]).toNat : Int) ≠ 48) := hl
  clear hl
  obtain ⟨P, hP⟩ : ∃ P : Nat, p = P := ⟨p.toNat, by omega⟩
  subst hP
  go_enter Try.func7, Try.ntmps7
  go_wp2
  go_loop [9] (fun j => j = .int .i64 ((d.size : Int) - s + P)) (fun _ => 0)
  case atStart => rfl
  case round =>
    obtain rfl := hrel
    go_wp2_with (at_builtin; refine wpList_push rfl _ _ rfl _ [] _ rfl (buf_nil w) (by simp) rfl ?_; intro v0 w0 hb0)
    go_loopw [10, 12] (fun v j wr => ∃ (k : Nat) (xs : List Int), k ≤ P ∧ j = .int .i64 k ∧ xs.length = 1 + k ∧ Lead (1 + M) xs ∧ Buf w wr v xs) (fun _ j _ => P - (intOf j).toNat)
    case atStart => exact ⟨0, [48], Nat.zero_le _, rfl, rfl, lead_snoc (lead_nil _) (fun _ => rfl) (fun e => by simp at e; omega), hb0⟩
    case round =>
      obtain ⟨k, xs, hk, rfl, hxl, hle, hb⟩ := hrel
      have HX : Hid (xs.length = 1 + k) := hxl
      have HE : Hid (Lead (1 + M) xs) := hle
      have hxs : xs.length ≤ 2000000 := by omega
      by_cases hlt : k < P
      · clear hxl hle
        by_cases hin : 0 ≤ (d.size : Int) - s + k ∧ (d.size : Int) - s + k < d.size
        · obtain ⟨hin1, hin2⟩ := hin
          obtain ⟨m, hm, hmd⟩ : ∃ m : Nat, (d.size : Int) - s + k = m ∧ m < d.size := ⟨((d.size : Int) - s + k).toNat, by omega, by omega⟩
          have HM : Hid ((d.size : Int) - s + k = m) := hm
          go_wp2_with (at_builtin; refine wpList_push rfl _ _ rfl _ xs _ rfl hb hxs rfl ?_; intro v' w' hb')
          go_roundw
          case rel =>
            refine ⟨k + 1, _, by omega, by go_num, ?_, lead_snoc HE.out ?_ ?_, hb'⟩
            · have := HX.out; simp; omega
            · intro h; have := HX.out; have := HMM.out; have := HM.out; omega
            · intro h; have e : m = 0 := (by have := HX.out; have := HMM.out; have := HM.out; omega); subst e; exact HL.out
          case measure => simp [intOf]; omega
        · by_cases hin1 : 0 ≤ (d.size : Int) - s + k
          all_goals try (exfalso; omega)
          all_goals
            go_wp2_with (at_builtin; refine wpList_push rfl _ _ rfl _ xs _ rfl hb hxs rfl ?_; intro v' w' hb')
            go_roundw
            case rel =>
              refine ⟨k + 1, _, by omega, by go_num, ?_, lead_snoc HE.out ?_ ?_, hb'⟩
              · have := HX.out; simp; omega
              · intro h; rfl
              · intro h; exfalso; have := HX.out; have := HMM.out; omega
            case measure => simp [intOf]; omega
      · obtain ⟨g, cap, hv, hc⟩ := buf_shape hb (by omega)
        rw [hv]
        have hbel := hb.2
        clear hb hv
        obtain ⟨L, hL⟩ : ∃ L, L = xs.length := ⟨_, rfl⟩
        rw [← hL] at hc ⊢
        have hXL : L = 1 + P := by omega
        have HXL : Hid (L = 1 + P) := hXL
        have HEL : Hid (Lead (1 + M) xs ∧ L = xs.length) := ⟨hle, hL⟩
        have hLs : L ≤ 2000000 := by omega
        obtain ⟨Z, hZ⟩ : ∃ Z, Z = 1 + M := ⟨_, rfl⟩
        have HZ : Hid (Z = 1 + M) := hZ
        have hLz : Z ≤ L := by omega
        clear hxl hle hL hXL hZ
        go_wp2
        go_loop [14] (fun j => ∃ k : Nat, k ≤ Z ∧ j = .int .i64 k) (fun j => L - (intOf j).toNat)
        case atStart => exact ⟨0, Nat.zero_le _, rfl⟩
        case round =>
          obtain ⟨q, hq, rfl⟩ := hrel
          by_cases hqZ : q < Z
          · have hqL : q < L := by omega
            have hcq : wr.cell? ⟨g, q, none⟩ = some (.int .u8 48) := by
              rw [hc q hqL, HEL.out.1.1 q (by rw [← HZ.out]; exact hqZ) (by rw [← HEL.out.2]; exact hqL)]
            clear hc
            go_wp2
            go_round
            case rel => exact ⟨q + 1, by omega, by go_num⟩
            case measure => simp [intOf]; omega
          · obtain rfl : Z = q := by omega
            by_cases hqL : Z < L
            · obtain ⟨c, hcc⟩ : ∃ c, c = xs.getD Z 0 := ⟨_, rfl⟩
              have hcq : wr.cell? ⟨g, Z, none⟩ = some (.int .u8 c) := by rw [hc Z hqL, hcc]
              have hne : (c == 48) = false := by
                have := HEL.out.1.2 (by rw [← HEL.out.2, ← HZ.out]; exact hqL)
                rw [← HZ.out, ← hcc] at this
                simpa using this
              clear hc hcc
              go_wp2
              go_ret
              refine ⟨ret_bool ?_, hbel⟩
              have := HZ.out
              have := HXL.out
              have := HMM.out; omega
            · clear hc
              go_wp2
              go_ret
              refine ⟨ret_bool ?_, hbel⟩
              have := HZ.out
              have := HXL.out
              have := HMM.out; omega

set_option maxHeartbeats 1000000 in
/-- .. no digit at all: zeros alone. -/
theorem written_zero (d : ByteArray) (p : Int) (w : World) (h0 : d.size = 0) (hp : 0 ≤ p) (hp' : p ≤ 18) :
    Calls Try.prog 7 #[.string d, .int .i64 0, .int .i64 p] w fun e w' => e = .returned (.bool true) ∧ Below w.heap.size w w' := by
  obtain ⟨P, hP⟩ : ∃ P : Nat, p = P := ⟨p.toNat, by omega⟩
  subst hP
  go_enter Try.func7, Try.ntmps7
  go_wp2
  go_loop [9] (fun j => j = .int .i64 P) (fun _ => 0)
  case atStart => first | rfl | (simp)
  case round =>
    obtain rfl := hrel
    go_wp2_with (at_builtin; refine wpList_push rfl _ _ rfl _ [] _ rfl (buf_nil w) (by simp) rfl ?_; intro v0 w0 hb0)
    go_loopw [10, 12] (fun v j wr => ∃ (k : Nat) (xs : List Int), k ≤ P ∧ j = .int .i64 k ∧ xs.length = 1 + k ∧ Lead (1 + P) xs ∧ Buf w wr v xs) (fun _ j _ => P - (intOf j).toNat)
    case atStart => exact ⟨0, [48], Nat.zero_le _, rfl, rfl, lead_snoc (lead_nil _) (fun _ => rfl) (fun e => by simp at e; omega), hb0⟩
    case round =>
      obtain ⟨k, xs, hk, rfl, hxl, hle, hb⟩ := hrel
      have HX : Hid (xs.length = 1 + k) := hxl
      have HE : Hid (Lead (1 + P) xs) := hle
      have hxs : xs.length ≤ 2000000 := by omega
      by_cases hlt : k < P
      · clear hxl hle
        go_wp2_with (at_builtin; refine wpList_push rfl _ _ rfl _ xs _ rfl hb hxs rfl ?_; intro v' w' hb')
        go_roundw
        case rel =>
          refine ⟨k + 1, _, by omega, by go_num, ?_, lead_snoc HE.out ?_ ?_, hb'⟩
          · have := HX.out; simp; omega
          · intro h; rfl
          · intro h; exfalso; have := HX.out; omega
        case measure => simp [intOf]; omega
      · obtain ⟨g, cap, hv, hc⟩ := buf_shape hb (by omega)
        rw [hv]
        have hbel := hb.2
        clear hb hv
        obtain ⟨L, hL⟩ : ∃ L, L = xs.length := ⟨_, rfl⟩
        rw [← hL] at hc ⊢
        have hXL : L = 1 + P := by omega
        have HXL : Hid (L = 1 + P) := hXL
        have HEL : Hid (Lead (1 + P) xs ∧ L = xs.length) := ⟨hle, hL⟩
        have hLs : L ≤ 2000000 := by omega
        clear hxl hle hL hXL
        go_wp2
        go_loop [14] (fun j => ∃ k : Nat, k ≤ L ∧ j = .int .i64 k) (fun j => L - (intOf j).toNat)
        case atStart => exact ⟨0, Nat.zero_le _, rfl⟩
        case round =>
          obtain ⟨q, hq, rfl⟩ := hrel
          by_cases hqL : q < L
          · have hcq : wr.cell? ⟨g, q, none⟩ = some (.int .u8 48) := by
              rw [hc q hqL, HEL.out.1.1 q (by rw [← HXL.out]; exact hqL) (by rw [← HEL.out.2]; exact hqL)]
            clear hc
            go_wp2
            go_round
            case rel => exact ⟨q + 1, by omega, by go_num⟩
            case measure => simp [intOf]; omega
          · obtain rfl : L = q := by omega
            clear hc
            go_wp2
            go_ret
            refine ⟨?_, hbel⟩
            first | rfl | (exact congrArg (fun b => Ending.returned (Value.bool b)) (decide_eq_true (by omega)))

end Go.Proofs.Qxb6618308a
