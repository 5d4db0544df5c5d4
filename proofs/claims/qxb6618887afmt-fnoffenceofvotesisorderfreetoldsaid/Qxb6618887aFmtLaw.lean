/-
  THE WALK OF 'FnOffenceOfVotesIsOrderFree'.
-/
import Derived.Test.Qxb6618887aFmtVote
namespace Go.Proofs.Qxb6618887aFmt
open Go.RowKit

theorem below2 {w w1 : World} {A B : Obj} (h : Below ((w.alloc A).alloc B).heap.size ((w.alloc A).alloc B) w1) : Below w.heap.size w w1 ∧ w1.heap[w.heap.size]? = some A ∧ w1.heap[w.heap.size + 1]? = some B ∧ w.heap.size + 1 < w1.heap.size := by
  have hs := h.size
  simp at hs
  refine ⟨(((Below.refl _ _).alloc (Nat.le_refl _) _).alloc (by simp) _).trans (h.mono (by simp; omega)), ?_, ?_, by omega⟩
  · rw [h.block _ (by simp; omega)]; exact heap_a w A B
  · rw [h.block _ (by simp)]; exact heap_b w A B

/-- A vote built, its run known. -/
theorem wpList_vote {ops : Array Oper} {rest : List Oper} {o : Oper} {a : Act} {w : World} {Q : Exit → Act → World → Prop} (hgd : o.guard = none) (x1 x2 x3 x4 x5 x6 : Operand) (ho : o.op = .build 31 #[(1, x1), (2, x2), (3, x3), (4, x4), (5, x5), (6, x6)])
    (u1 u2 u3 u4 u5 u6 : Value) (e1 : a.eval x1 = u1) (e2 : a.eval x2 = u2) (e3 : a.eval x3 = u3) (e4 : a.eval x4 = u4) (e5 : a.eval x5 = u5) (e6 : a.eval x6 = u6)
    (v : Value) (hr : ∀ w, (Instr.build 31 #[(1, u1), (2, u2), (3, u3), (4, u4), (5, u5), (6, u6)]).run Tryf.prog w = .ok v w)
    (h : wpList Tryf.prog ops Q rest (a.put o.dst v) w) : wpList Tryf.prog ops Q (o :: rest) a w := by
  refine wpList_plain hgd fun _ hK => ?_
  unfold Oper.wp execOp
  simp only [ho, List.map_toArray, List.map_cons, List.map_nil, e1, e2, e3, e4, e5, e6, Sem.run_bind, hr, Result.andThen_ok]
  exact hK _ _ h

theorem votes (w1 : World) (V1 V2 : Array Value) (t h r s : Int) (h1 : V1[0]? = some (.int .u8 t) ∧ V1[1]? = some (.int .u64 h) ∧ V1[2]? = some (.int .i64 r) ∧ V1[35]? = some (.int .i64 s))
    (h2 : V2[0]? = some (.int .u8 t) ∧ V2[1]? = some (.int .u64 h) ∧ V2[2]? = some (.int .i64 r) ∧ V2[35]? = some (.int .i64 s)) :
    Vote ((w1.alloc (.cells V1 31)).alloc (.cells V2 31)) w1.heap.size t h r s ∧ Vote ((w1.alloc (.cells V1 31)).alloc (.cells V2 31)) (w1.heap.size + 1) t h r s := by
  refine ⟨⟨?_, ?_, ?_, ?_⟩, ⟨?_, ?_, ?_, ?_⟩⟩
  · rw [cell_of_row _ _ _ _ _ _ (heap_a _ _ _)]; exact h1.1
  · rw [cell_of_row _ _ _ _ _ _ (heap_a _ _ _)]; exact h1.2.1
  · rw [cell_of_row _ _ _ _ _ _ (heap_a _ _ _)]; exact h1.2.2.1
  · rw [cell_of_row _ _ _ _ _ _ (heap_a _ _ _)]; exact h1.2.2.2
  · rw [cell_of_row _ _ _ _ _ _ (heap_b _ _ _)]; exact h2.1
  · rw [cell_of_row _ _ _ _ _ _ (heap_b _ _ _)]; exact h2.2.1
  · rw [cell_of_row _ _ _ _ _ _ (heap_b _ _ _)]; exact h2.2.2.1
  · rw [cell_of_row _ _ _ _ _ _ (heap_b _ _ _)]; exact h2.2.2.2
theorem vote_below {w w' : World} {v : Nat} {t h r s : Int} (hv : Vote w v t h r s) (hb : Below w.heap.size w w') : Vote w' v t h r s := by
  obtain ⟨h0, h1, h2, h3⟩ := hv
  have hl : v < w.heap.size := block_lt_of_cell h0
  exact ⟨(hb.cell (p := ⟨v, 0, none⟩) hl).trans h0, (hb.cell (p := ⟨v, 1, none⟩) hl).trans h1, (hb.cell (p := ⟨v, 2, none⟩) hl).trans h2, (hb.cell (p := ⟨v, 35, none⟩) hl).trans h3⟩
theorem below_alloc (w : World) (o : Obj) : Below w.heap.size w (w.alloc o) := (Below.refl _ _).alloc (Nat.le_refl _) _
theorem below_trans {w w1 w2 : World} (h : Below w.heap.size w w1) (k : Below w1.heap.size w1 w2) : Below w.heap.size w w2 := h.trans (k.mono h.size)
/-- An offence in memory. -/
def Off (w : World) (b : Nat) (x0 x1 x2 x3 : Value) : Prop := w.cell? ⟨b, 0, none⟩ = some x0 ∧ w.cell? ⟨b, 1, none⟩ = some x1 ∧ w.cell? ⟨b, 2, none⟩ = some x2 ∧ w.cell? ⟨b, 3, none⟩ = some x3
theorem off_new (w : World) (x0 x1 x2 x3 : Value) : Off (w.alloc (.cells #[x0, x1, x2, x3] 33)) w.heap.size x0 x1 x2 x3 := by
  refine ⟨?_, ?_, ?_, ?_⟩ <;> (rw [World.cell?_alloc_at _ _ _ _ rfl]; rfl)
theorem off_below {w w' : World} {b : Nat} {x0 x1 x2 x3 : Value} (h : Off w b x0 x1 x2 x3) (hb : Below w.heap.size w w') : Off w' b x0 x1 x2 x3 := by
  obtain ⟨h0, h1, h2, h3⟩ := h
  have hl : b < w.heap.size := block_lt_of_cell h0
  exact ⟨(hb.cell (p := ⟨b, 0, none⟩) hl).trans h0, (hb.cell (p := ⟨b, 1, none⟩) hl).trans h1, (hb.cell (p := ⟨b, 2, none⟩) hl).trans h2, (hb.cell (p := ⟨b, 3, none⟩) hl).trans h3⟩
theorem off_new' (w : World) (o : Obj) (x0 x1 x2 x3 : Value) : Off ((w.alloc o).alloc (.cells #[x0, x1, x2, x3] 33)) (w.heap.size + 1) x0 x1 x2 x3 := by
  have := off_new (w.alloc o) x0 x1 x2 x3
  simpa using this

theorem iface_new' (w : World) (o : Obj) (x y : Value) : ((w.alloc o).alloc (.cells #[x, y] 42)).cell? ⟨w.heap.size + 1, 0, none⟩ = some x := by
  rw [World.cell?_alloc_at _ _ _ _ (by simp)]; rfl
theorem iface_new (w : World) (x y : Value) : (w.alloc (.cells #[x, y] 42)).cell? ⟨w.heap.size, 0, none⟩ = some x := by
  rw [World.cell?_alloc_at _ _ _ _ rfl]; rfl

set_option maxHeartbeats 1000000 in
theorem law1 (hgt rnd snd : Int) (B1 B2 : Array Value) (a1 a2 : Option Addr) (l1 c1 l2 c2 : Nat) (w : World) (hB1 : B1.size = 32) (hB2 : B2.size = 32) (hl1 : l1 ≤ 524288) (hl2 : l2 ≤ 524288) :
    Calls Tryf.prog 3 #[.int .u8 1, .int .u64 hgt, .int .i64 rnd, .int .i64 snd, .agg B1, .slice a1 l1 c1, .agg B2, .slice a2 l2 c2] w fun e w' => e = .returned (.bool true) ∧ Below w.heap.size w w' := by
  have i1 := info_of hB1
  have i2 := info_of hB2
  have v1 := build_vote 1 hgt rnd B1 snd a1 l1 c1 hB1
  have v2 := build_vote 1 hgt rnd B2 snd a2 l2 c2 hB2
  go_enter Tryf.func3, Tryf.ntmps3
  go_wp2_with (first | (refine wpList_load_row rfl 23 _ rfl w.heap.size rfl 23 B1 (0, 0) _ (heap_a w _ _) Tryf.underlying23 rfl i1 ?_) | (refine wpList_load_row rfl 23 _ rfl (w.heap.size + 1) rfl 23 B2 (0, 0) _ (heap_b w _ _) Tryf.underlying23 rfl i2 ?_))
  refine (bytes_any _ _ _ _ _ _ _ _ _ _ _ _ _).mono ?_
  rintro e w1 ⟨⟨b, rfl⟩, hb⟩
  obtain ⟨hb1, hA, hB, hsz⟩ := below2 hb
  cases b
  · clear hb
    go_wp2
    go_ret
    exact ⟨rfl, hb1⟩
  have HA : Hid (w1.heap[w.heap.size]? = some (.cells B1 23)) := hA
  have HB : Hid (∀ o, (w1.alloc o).heap[w.heap.size + 1]? = some (.cells B2 23)) := fun o => (Below.heap_alloc w1 o _ hsz).trans hB
  clear hb hA hB
  go_wp2_with (first | (refine wpList_load_row rfl 23 _ rfl w.heap.size rfl 23 B1 (0, 0) _ HA.out Tryf.underlying23 rfl i1 ?_) | (refine wpList_load_row rfl 23 _ rfl (w.heap.size + 1) rfl 23 B2 (0, 0) _ (HB.out _) Tryf.underlying23 rfl i2 ?_) | (refine wpList_vote rfl _ _ _ _ _ _ rfl (.int .u8 1) (.int .u64 hgt) (.int .i64 rnd) (.agg B1) (.int .i64 snd) (.slice a1 l1 c1) rfl rfl rfl rfl rfl rfl _ v1 ?_) | (refine wpList_vote rfl _ _ _ _ _ _ rfl (.int .u8 1) (.int .u64 hgt) (.int .i64 rnd) (.agg B2) (.int .i64 snd) (.slice a2 l2 c2) rfl rfl rfl rfl rfl rfl _ v2 ?_))
  obtain ⟨q1, q2⟩ := votes w1 _ _ 1 hgt rnd snd (voteA_at 1 hgt rnd B1 snd a1 l1 c1 hB1) (voteA_at 1 hgt rnd B2 snd a2 l2 c2 hB2)
  have hb2 := below_trans hb1 (below_trans (below_alloc w1 (.cells (voteA 1 hgt rnd B1 snd a1 l1 c1) 31)) (below_alloc (w1.alloc (.cells (voteA 1 hgt rnd B1 snd a1 l1 c1) 31)) (.cells (voteA 1 hgt rnd B2 snd a2 l2 c2) 31)))
  obtain ⟨W2, hW2⟩ : ∃ W2, W2 = (w1.alloc (.cells (voteA 1 hgt rnd B1 snd a1 l1 c1) 31)).alloc (.cells (voteA 1 hgt rnd B2 snd a2 l2 c2) 31) := ⟨_, rfl⟩
  rw [← hW2] at q1 q2 hb2 ⊢
  obtain ⟨p1, hp1⟩ : ∃ p1, p1 = w1.heap.size := ⟨_, rfl⟩
  have hp1s : p1 + 1 < W2.heap.size := by rw [hW2, hp1]; simp
  rw [← hp1] at q1 q2 ⊢
  clear hW2 HA HB v1 v2 i1 i2 hB1 hB2 hsz hb1 hp1
  refine (evidence_any _ _ _).mono ?_
  rintro e w2 ⟨rfl, rfl⟩
  go_wp2_with fail
  refine (offence_any _ p1 1 hgt rnd snd prevote _ string1_any (iface_new _ _ _) (vote_below q1 (below_alloc _ _))).mono ?_
  rintro e w3 ⟨rfl, hb3⟩
  have hb3' := below_trans (below_alloc _ _) hb3
  go_wp2_with fail
  refine (evidence_any _ _ _).mono ?_
  rintro e w4 ⟨rfl, rfl⟩
  go_wp2_with fail
  refine (offence_any _ (p1 + 1) 1 hgt rnd snd prevote _ string1_any (iface_new' _ _ _ _) (vote_below (vote_below q2 hb3') (below_trans (below_alloc _ _) (below_alloc _ _)))).mono ?_
  rintro e w5 ⟨rfl, hb5⟩
  have hb5' := below_trans (below_alloc _ _) hb5
  go_wp2_with fail
  refine (kind1_any _).mono ?_
  rintro e w6 ⟨rfl, rfl⟩
  go_wp2_with fail
  have f1 := off_below (off_new w3 _ _ _ _) (below_trans hb5' (below_trans (below_alloc w5 (.cells #[.int .i64 snd, .int .u64 hgt, .int .i64 rnd, .string prevote] 33)) (below_alloc _ (.cells #[.int .i64 snd, .int .u64 hgt, .int .i64 rnd, .string prevote] 33))))
  have f2 := off_below (off_new w5 (.int .i64 snd) (.int .u64 hgt) (.int .i64 rnd) (.string prevote)) (below_alloc _ (.cells #[.int .i64 snd, .int .u64 hgt, .int .i64 rnd, .string prevote] 33))
  have f3 := off_new' w5 (.cells #[.int .i64 snd, .int .u64 hgt, .int .i64 rnd, .string prevote] 33) (.int .i64 snd) (.int .u64 hgt) (.int .i64 rnd) (.string prevote)
  have hbel := below_trans hb2 (below_trans hb3' (below_trans (below_alloc _ _) (below_trans hb5' (below_trans (below_alloc w5 (.cells #[.int .i64 snd, .int .u64 hgt, .int .i64 rnd, .string prevote] 33)) (below_alloc _ (.cells #[.int .i64 snd, .int .u64 hgt, .int .i64 rnd, .string prevote] 33))))))
  obtain ⟨W7, hW7⟩ : ∃ W7, W7 = (w5.alloc (.cells #[.int .i64 snd, .int .u64 hgt, .int .i64 rnd, .string prevote] 33)).alloc (.cells #[.int .i64 snd, .int .u64 hgt, .int .i64 rnd, .string prevote] 33) := ⟨_, rfl⟩
  rw [← hW7] at f1 f2 f3 hbel ⊢
  obtain ⟨x0, x1, x2, x3⟩ := f1
  obtain ⟨y0, y1, y2, y3⟩ := f2
  obtain ⟨z0, z1, z2, z3⟩ := f3
  clear hW7 hb2 hb3 hb3' hb5 hb5' q1 q2 hp1s
  go_quiet ((go_at_call 8; exact Calls.quiet_of_same (string1_any _)))
  go_wp2
  go_ret
  exact ⟨rfl, below_drewN hbel _⟩

set_option maxHeartbeats 1000000 in
theorem law2 (hgt rnd snd : Int) (B1 B2 : Array Value) (a1 a2 : Option Addr) (l1 c1 l2 c2 : Nat) (w : World) (hB1 : B1.size = 32) (hB2 : B2.size = 32) (hl1 : l1 ≤ 524288) (hl2 : l2 ≤ 524288) :
    Calls Tryf.prog 3 #[.int .u8 2, .int .u64 hgt, .int .i64 rnd, .int .i64 snd, .agg B1, .slice a1 l1 c1, .agg B2, .slice a2 l2 c2] w fun e w' => e = .returned (.bool true) ∧ Below w.heap.size w w' := by
  have i1 := info_of hB1
  have i2 := info_of hB2
  have v1 := build_vote 2 hgt rnd B1 snd a1 l1 c1 hB1
  have v2 := build_vote 2 hgt rnd B2 snd a2 l2 c2 hB2
  go_enter Tryf.func3, Tryf.ntmps3
  go_wp2_with (first | (refine wpList_load_row rfl 23 _ rfl w.heap.size rfl 23 B1 (0, 0) _ (heap_a w _ _) Tryf.underlying23 rfl i1 ?_) | (refine wpList_load_row rfl 23 _ rfl (w.heap.size + 1) rfl 23 B2 (0, 0) _ (heap_b w _ _) Tryf.underlying23 rfl i2 ?_))
  refine (bytes_any _ _ _ _ _ _ _ _ _ _ _ _ _).mono ?_
  rintro e w1 ⟨⟨b, rfl⟩, hb⟩
  obtain ⟨hb1, hA, hB, hsz⟩ := below2 hb
  cases b
  · clear hb
    go_wp2
    go_ret
    exact ⟨rfl, hb1⟩
  have HA : Hid (w1.heap[w.heap.size]? = some (.cells B1 23)) := hA
  have HB : Hid (∀ o, (w1.alloc o).heap[w.heap.size + 1]? = some (.cells B2 23)) := fun o => (Below.heap_alloc w1 o _ hsz).trans hB
  clear hb hA hB
  go_wp2_with (first | (refine wpList_load_row rfl 23 _ rfl w.heap.size rfl 23 B1 (0, 0) _ HA.out Tryf.underlying23 rfl i1 ?_) | (refine wpList_load_row rfl 23 _ rfl (w.heap.size + 1) rfl 23 B2 (0, 0) _ (HB.out _) Tryf.underlying23 rfl i2 ?_) | (refine wpList_vote rfl _ _ _ _ _ _ rfl (.int .u8 2) (.int .u64 hgt) (.int .i64 rnd) (.agg B1) (.int .i64 snd) (.slice a1 l1 c1) rfl rfl rfl rfl rfl rfl _ v1 ?_) | (refine wpList_vote rfl _ _ _ _ _ _ rfl (.int .u8 2) (.int .u64 hgt) (.int .i64 rnd) (.agg B2) (.int .i64 snd) (.slice a2 l2 c2) rfl rfl rfl rfl rfl rfl _ v2 ?_))
  obtain ⟨q1, q2⟩ := votes w1 _ _ 2 hgt rnd snd (voteA_at 2 hgt rnd B1 snd a1 l1 c1 hB1) (voteA_at 2 hgt rnd B2 snd a2 l2 c2 hB2)
  have hb2 := below_trans hb1 (below_trans (below_alloc w1 (.cells (voteA 2 hgt rnd B1 snd a1 l1 c1) 31)) (below_alloc (w1.alloc (.cells (voteA 2 hgt rnd B1 snd a1 l1 c1) 31)) (.cells (voteA 2 hgt rnd B2 snd a2 l2 c2) 31)))
  obtain ⟨W2, hW2⟩ : ∃ W2, W2 = (w1.alloc (.cells (voteA 2 hgt rnd B1 snd a1 l1 c1) 31)).alloc (.cells (voteA 2 hgt rnd B2 snd a2 l2 c2) 31) := ⟨_, rfl⟩
  rw [← hW2] at q1 q2 hb2 ⊢
  obtain ⟨p1, hp1⟩ : ∃ p1, p1 = w1.heap.size := ⟨_, rfl⟩
  have hp1s : p1 + 1 < W2.heap.size := by rw [hW2, hp1]; simp
  rw [← hp1] at q1 q2 ⊢
  clear hW2 HA HB v1 v2 i1 i2 hB1 hB2 hsz hb1 hp1
  refine (evidence_any _ _ _).mono ?_
  rintro e w2 ⟨rfl, rfl⟩
  go_wp2_with fail
  refine (offence_any _ p1 2 hgt rnd snd precommit _ string2_any (iface_new _ _ _) (vote_below q1 (below_alloc _ _))).mono ?_
  rintro e w3 ⟨rfl, hb3⟩
  have hb3' := below_trans (below_alloc _ _) hb3
  go_wp2_with fail
  refine (evidence_any _ _ _).mono ?_
  rintro e w4 ⟨rfl, rfl⟩
  go_wp2_with fail
  refine (offence_any _ (p1 + 1) 2 hgt rnd snd precommit _ string2_any (iface_new' _ _ _ _) (vote_below (vote_below q2 hb3') (below_trans (below_alloc _ _) (below_alloc _ _)))).mono ?_
  rintro e w5 ⟨rfl, hb5⟩
  have hb5' := below_trans (below_alloc _ _) hb5
  go_wp2_with fail
  refine (kind2_any _).mono ?_
  rintro e w6 ⟨rfl, rfl⟩
  go_wp2_with fail
  have f1 := off_below (off_new w3 _ _ _ _) (below_trans hb5' (below_trans (below_alloc w5 (.cells #[.int .i64 snd, .int .u64 hgt, .int .i64 rnd, .string precommit] 33)) (below_alloc _ (.cells #[.int .i64 snd, .int .u64 hgt, .int .i64 rnd, .string precommit] 33))))
  have f2 := off_below (off_new w5 (.int .i64 snd) (.int .u64 hgt) (.int .i64 rnd) (.string precommit)) (below_alloc _ (.cells #[.int .i64 snd, .int .u64 hgt, .int .i64 rnd, .string precommit] 33))
  have f3 := off_new' w5 (.cells #[.int .i64 snd, .int .u64 hgt, .int .i64 rnd, .string precommit] 33) (.int .i64 snd) (.int .u64 hgt) (.int .i64 rnd) (.string precommit)
  have hbel := below_trans hb2 (below_trans hb3' (below_trans (below_alloc _ _) (below_trans hb5' (below_trans (below_alloc w5 (.cells #[.int .i64 snd, .int .u64 hgt, .int .i64 rnd, .string precommit] 33)) (below_alloc _ (.cells #[.int .i64 snd, .int .u64 hgt, .int .i64 rnd, .string precommit] 33))))))
  obtain ⟨W7, hW7⟩ : ∃ W7, W7 = (w5.alloc (.cells #[.int .i64 snd, .int .u64 hgt, .int .i64 rnd, .string precommit] 33)).alloc (.cells #[.int .i64 snd, .int .u64 hgt, .int .i64 rnd, .string precommit] 33) := ⟨_, rfl⟩
  rw [← hW7] at f1 f2 f3 hbel ⊢
  obtain ⟨x0, x1, x2, x3⟩ := f1
  obtain ⟨y0, y1, y2, y3⟩ := f2
  obtain ⟨z0, z1, z2, z3⟩ := f3
  clear hW7 hb2 hb3 hb3' hb5 hb5' q1 q2 hp1s
  go_quiet ((go_at_call 8; exact Calls.quiet_of_same (string2_any _)))
  go_wp2
  go_ret
  exact ⟨rfl, below_drewN hbel _⟩


theorem out1 (t hgt rnd snd : Int) (B1 B2 : Array Value) (a1 a2 : Option Addr) (l1 c1 l2 c2 : Nat) (w : World) (hB1 : B1.size = 32) (hB2 : B2.size = 32) (hl : 524288 < l1) :
    Calls Tryf.prog 3 #[.int .u8 t, .int .u64 hgt, .int .i64 rnd, .int .i64 snd, .agg B1, .slice a1 l1 c1, .agg B2, .slice a2 l2 c2] w fun e w' => e = .returned (.bool true) ∧ Below w.heap.size w w' := by
  have i1 := info_of hB1
  have i2 := info_of hB2
  go_enter Tryf.func3, Tryf.ntmps3
  go_wp2_with (first | (refine wpList_load_row rfl 23 _ rfl w.heap.size rfl 23 B1 (0, 0) _ (heap_a w _ _) Tryf.underlying23 rfl i1 ?_) | (refine wpList_load_row rfl 23 _ rfl (w.heap.size + 1) rfl 23 B2 (0, 0) _ (heap_b w _ _) Tryf.underlying23 rfl i2 ?_))
  refine (bytes_any _ _ _ _ _ _ _ _ _ _ _ _ _).mono ?_
  rintro e w1 ⟨⟨b, rfl⟩, hb⟩
  obtain ⟨hb1, hA, hB, hsz⟩ := below2 hb
  clear hb hA hB
  cases b <;> (go_wp2; go_ret; exact ⟨rfl, hb1⟩)

theorem out2 (t hgt rnd snd : Int) (B1 B2 : Array Value) (a1 a2 : Option Addr) (l1 c1 l2 c2 : Nat) (w : World) (hB1 : B1.size = 32) (hB2 : B2.size = 32) (hl1 : l1 ≤ 524288) (hl : 524288 < l2) :
    Calls Tryf.prog 3 #[.int .u8 t, .int .u64 hgt, .int .i64 rnd, .int .i64 snd, .agg B1, .slice a1 l1 c1, .agg B2, .slice a2 l2 c2] w fun e w' => e = .returned (.bool true) ∧ Below w.heap.size w w' := by
  have i1 := info_of hB1
  have i2 := info_of hB2
  go_enter Tryf.func3, Tryf.ntmps3
  go_wp2_with (first | (refine wpList_load_row rfl 23 _ rfl w.heap.size rfl 23 B1 (0, 0) _ (heap_a w _ _) Tryf.underlying23 rfl i1 ?_) | (refine wpList_load_row rfl 23 _ rfl (w.heap.size + 1) rfl 23 B2 (0, 0) _ (heap_b w _ _) Tryf.underlying23 rfl i2 ?_))
  refine (bytes_any _ _ _ _ _ _ _ _ _ _ _ _ _).mono ?_
  rintro e w1 ⟨⟨b, rfl⟩, hb⟩
  obtain ⟨hb1, hA, hB, hsz⟩ := below2 hb
  clear hb hA hB
  cases b <;> (go_wp2; go_ret; exact ⟨rfl, hb1⟩)

theorem out3 (t hgt rnd snd : Int) (B1 B2 : Array Value) (a1 a2 : Option Addr) (l1 c1 l2 c2 : Nat) (w : World) (hB1 : B1.size = 32) (hB2 : B2.size = 32) (hl1 : l1 ≤ 524288) (hl2 : l2 ≤ 524288) (ht1 : (t != 1) = true) (ht2 : (t != 2) = true) :
    Calls Tryf.prog 3 #[.int .u8 t, .int .u64 hgt, .int .i64 rnd, .int .i64 snd, .agg B1, .slice a1 l1 c1, .agg B2, .slice a2 l2 c2] w fun e w' => e = .returned (.bool true) ∧ Below w.heap.size w w' := by
  have i1 := info_of hB1
  have i2 := info_of hB2
  go_enter Tryf.func3, Tryf.ntmps3
  go_wp2_with (first | (refine wpList_load_row rfl 23 _ rfl w.heap.size rfl 23 B1 (0, 0) _ (heap_a w _ _) Tryf.underlying23 rfl i1 ?_) | (refine wpList_load_row rfl 23 _ rfl (w.heap.size + 1) rfl 23 B2 (0, 0) _ (heap_b w _ _) Tryf.underlying23 rfl i2 ?_))
  refine (bytes_any _ _ _ _ _ _ _ _ _ _ _ _ _).mono ?_
  rintro e w1 ⟨⟨b, rfl⟩, hb⟩
  obtain ⟨hb1, hA, hB, hsz⟩ := below2 hb
  clear hb hA hB
  cases b <;> (go_wp2; go_ret; exact ⟨rfl, hb1⟩)

/-- THE LAW's WALK. -/
theorem law (t hgt rnd snd : Int) (B1 B2 : Array Value) (a1 a2 : Option Addr) (l1 c1 l2 c2 : Nat) (w : World) (hB1 : B1.size = 32) (hB2 : B2.size = 32) :
    Calls Tryf.prog 3 #[.int .u8 t, .int .u64 hgt, .int .i64 rnd, .int .i64 snd, .agg B1, .slice a1 l1 c1, .agg B2, .slice a2 l2 c2] w fun e w' => e = .returned (.bool true) ∧ Below w.heap.size w w' := by
  by_cases h1 : 524288 < l1
  · exact out1 t hgt rnd snd B1 B2 a1 a2 l1 c1 l2 c2 w hB1 hB2 h1
  by_cases h2 : 524288 < l2
  · exact out2 t hgt rnd snd B1 B2 a1 a2 l1 c1 l2 c2 w hB1 hB2 (by omega) h2
  by_cases h3 : t = 1
  · subst h3
    exact law1 hgt rnd snd B1 B2 a1 a2 l1 c1 l2 c2 w hB1 hB2 (by omega) (by omega)
  by_cases h4 : t = 2
  · subst h4
    exact law2 hgt rnd snd B1 B2 a1 a2 l1 c1 l2 c2 w hB1 hB2 (by omega) (by omega)
  exact out3 t hgt rnd snd B1 B2 a1 a2 l1 c1 l2 c2 w hB1 hB2 (by omega) (by omega) (by simpa using h3) (by simpa using h4)

end Go.Proofs.Qxb6618887aFmt
