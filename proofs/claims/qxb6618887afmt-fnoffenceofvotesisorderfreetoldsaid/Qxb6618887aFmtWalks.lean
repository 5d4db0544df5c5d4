/-
  THE WALKS OF 'FnOffenceOfVotesIsOrderFree'.
-/
import Derived.Test.Qxb6618887aFmtCards
import Derived.WalkKit
import Derived.WalkLawsBesides
import Derived.WalkSpells
import Derived.Below
import Derived.Laws.StructEq
import Derived.Laws.Rows
import Derived.RegionTactic
import Derived.Deep.RegionWith
import Derived.Deep.RegionHeld3
namespace Go.Proofs.Qxb6618887aFmt
open Go.RowKit

def prevote : ByteArray := { data := #[112, 114, 101, 118, 111, 116, 101] }
def precommit : ByteArray := { data := #[112, 114, 101, 99, 111, 109, 109, 105, 116] }
/-- The type's name. -/
def kind (t : Int) : ByteArray := if t = 1 then prevote else precommit

theorem kind1_any (w : World) : Calls Tryf.prog 7 #[.int .u8 1] w fun e w' => e = .returned (.string prevote) ∧ w' = w := by
  go_enter Tryf.func7, Tryf.ntmps7
  go_wp2
  go_ret
  exact ⟨rfl, rfl⟩
theorem kind2_any (w : World) : Calls Tryf.prog 7 #[.int .u8 2] w fun e w' => e = .returned (.string precommit) ∧ w' = w := by
  go_enter Tryf.func7, Tryf.ntmps7
  go_wp2
  go_ret
  exact ⟨rfl, rfl⟩
theorem string1_any (w : World) : Calls Tryf.prog 8 #[.int .u8 1] w fun e w' => e = .returned (.string prevote) ∧ w' = w := by
  go_enter Tryf.func8, Tryf.ntmps8
  go_wp2
  go_ret
  exact ⟨rfl, rfl⟩
theorem string2_any (w : World) : Calls Tryf.prog 8 #[.int .u8 2] w fun e w' => e = .returned (.string precommit) ∧ w' = w := by
  go_enter Tryf.func8, Tryf.ntmps8
  go_wp2
  go_ret
  exact ⟨rfl, rfl⟩

theorem evidence_any (a b : Addr) (w : World) : Calls Tryf.prog 5 #[.pointer (some a), .pointer (some b)] w fun e w' => e = .returned (.pointer (some ⟨w.heap.size, 0, none⟩)) ∧ w' = w.alloc (.cells #[.iface 26 (.pointer (some a)), .iface 26 (.pointer (some b))] 42) := by
  go_enter Tryf.func5, Tryf.ntmps5
  go_wp2
  go_ret
  exact ⟨rfl, rfl⟩

/-- A vote in memory, as far as the offence reads it. -/
def Vote (w : World) (v : Nat) (t h r s : Int) : Prop :=
  w.cell? ⟨v, 0, none⟩ = some (.int .u8 t) ∧ w.cell? ⟨v, 1, none⟩ = some (.int .u64 h) ∧ w.cell? ⟨v, 2, none⟩ = some (.int .i64 r) ∧ w.cell? ⟨v, 35, none⟩ = some (.int .i64 s)

theorem assert_no (a : Addr) (w : World) : (Instr.typeAssert (.iface 26 (.pointer (some a))) 40 43 true).run Tryf.prog w = .ok (.tuple #[.pointer none, .bool false]) w := by kernel_rfl
theorem assert_yes (a : Addr) (w : World) : (Instr.typeAssert (.iface 26 (.pointer (some a))) 40 26 true).run Tryf.prog w = .ok (.tuple #[.pointer (some a), .bool true]) w := by kernel_rfl

set_option maxHeartbeats 1000000 in
theorem offence_any (p v : Nat) (t h r s : Int) (k : ByteArray) (w : World) (hS : ∀ w, Calls Tryf.prog 8 #[.int .u8 t] w fun e w' => e = .returned (.string k) ∧ w' = w)
    (hp : w.cell? ⟨p, 0, none⟩ = some (.iface 26 (.pointer (some ⟨v, 0, none⟩)))) (hv : Vote w v t h r s) :
    Calls Tryf.prog 6 #[.pointer (some ⟨p, 0, none⟩)] w fun e w' => e = .returned (.agg #[.int .i64 s, .int .u64 h, .int .i64 r, .string k]) ∧ Below w.heap.size w w' := by
  obtain ⟨c0, c1, c2, c3⟩ := hv
  have bp := block_lt_of_cell hp
  have bv := block_lt_of_cell c0
  simp only at bp bv
  have t1 := assert_no
  have t2 := assert_yes
  go_enter Tryf.func6, Tryf.ntmps6
  go_wp2
  go_region_held3 (fun w' => w'.cell? ⟨v, 0, none⟩ = some (.int .u8 t) ∧ w'.cell? ⟨v, 1, none⟩ = some (.int .u64 h) ∧ w'.cell? ⟨v, 2, none⟩ = some (.int .i64 r) ∧ w'.cell? ⟨v, 35, none⟩ = some (.int .i64 s)) (go_keep) (first | (go_at_call 8; refine (hS _).mono ?_; rintro e w' ⟨rfl, rfl⟩))
  go_wp2
  exact bodyPost_ret (v := .agg #[.int .i64 s, .int .u64 h, .int .i64 r, .string k]) (by simp [results, Tryf.results6, go_sem]) rfl ⟨rfl, ((Below.refl _ _).alloc (Nat.le_refl _) _).drew⟩

end Go.Proofs.Qxb6618887aFmt
