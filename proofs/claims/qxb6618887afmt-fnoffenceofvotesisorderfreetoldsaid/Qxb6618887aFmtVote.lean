/-
  THE WALK OF 'FnOffenceOfVotesIsOrderFree'.
-/
import Derived.Test.Qxb6618887aFmtWalks
import Derived.Deep.QuietTactic
import Derived.BigQuiet
namespace Go.Proofs.Qxb6618887aFmt
open Go.RowKit

theorem bytes_any (t h r s : Int) (B1 B2 : Array Value) (a1 a2 : Option Addr) (l1 c1 l2 c2 : Nat) (w : World) :
    Calls Tryf.prog 4 #[.int .u8 t, .int .u64 h, .int .i64 r, .int .i64 s, .agg B1, .slice a1 l1 c1, .agg B2, .slice a2 l2 c2] w fun e w' => (∃ b, e = .returned (.bool b)) ∧ Below w.heap.size w w' := by
  go_enter Tryf.func4, Tryf.ntmps4
  go_wp2
  all_goals (go_ret; exact ⟨⟨_, rfl⟩, ((Below.refl _ _).alloc (Nat.le_refl _) _).alloc (by simp) _⟩)

theorem info23 : (Tryf.prog.info? 23).map (·.size) = some 32 := by kernel_rfl
theorem info_of {B : Array Value} (h : B.size = 32) : (Tryf.prog.info? 23).map (·.size) = some B.size := by rw [h]; exact info23

theorem heap_a (w : World) (A B : Obj) : ((w.alloc A).alloc B).heap[w.heap.size]? = some A := heap_alloc2_old w A B
theorem heap_b (w : World) (A B : Obj) : ((w.alloc A).alloc B).heap[w.heap.size + 1]? = some B := heap_alloc2_new w A B

theorem list32 : ∀ (l : List Value), l.length = 32 → ∃ b0 b1 b2 b3 b4 b5 b6 b7 b8 b9 b10 b11 b12 b13 b14 b15 b16 b17 b18 b19 b20 b21 b22 b23 b24 b25 b26 b27 b28 b29 b30 b31, l = [b0, b1, b2, b3, b4, b5, b6, b7, b8, b9, b10, b11, b12, b13, b14, b15, b16, b17, b18, b19, b20, b21, b22, b23, b24, b25, b26, b27, b28, b29, b30, b31]
  | [b0, b1, b2, b3, b4, b5, b6, b7, b8, b9, b10, b11, b12, b13, b14, b15, b16, b17, b18, b19, b20, b21, b22, b23, b24, b25, b26, b27, b28, b29, b30, b31], _ => ⟨b0, b1, b2, b3, b4, b5, b6, b7, b8, b9, b10, b11, b12, b13, b14, b15, b16, b17, b18, b19, b20, b21, b22, b23, b24, b25, b26, b27, b28, b29, b30, b31, rfl⟩

/-- A vote's cells. -/
def voteA (t h r : Int) (B : Array Value) (s : Int) (a : Option Addr) (l c : Nat) : Array Value := #[.int .u8 t, .int .u64 h, .int .i64 r] ++ B ++ #[.int .i64 s, .slice a l c]

theorem voteA_at (t h r : Int) (B : Array Value) (s : Int) (a : Option Addr) (l c : Nat) (hB : B.size = 32) :
    (voteA t h r B s a l c)[0]? = some (.int .u8 t) ∧ (voteA t h r B s a l c)[1]? = some (.int .u64 h) ∧ (voteA t h r B s a l c)[2]? = some (.int .i64 r) ∧ (voteA t h r B s a l c)[35]? = some (.int .i64 s) := by
  unfold voteA
  simp [hB]

theorem build_vote (t h r : Int) (B : Array Value) (s : Int) (a : Option Addr) (l c : Nat) (hB : B.size = 32) (w : World) :
    (Instr.build 31 #[(1, .int .u8 t), (2, .int .u64 h), (3, .int .i64 r), (4, .agg B), (5, .int .i64 s), (6, .slice a l c)]).run Tryf.prog w = .ok (.agg (voteA t h r B s a l c)) w := by
  obtain ⟨L⟩ := B
  obtain ⟨b0, b1, b2, b3, b4, b5, b6, b7, b8, b9, b10, b11, b12, b13, b14, b15, b16, b17, b18, b19, b20, b21, b22, b23, b24, b25, b26, b27, b28, b29, b30, b31, rfl⟩ := list32 L hB
  kernel_rfl

end Go.Proofs.Qxb6618887aFmt
