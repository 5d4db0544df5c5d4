/-
  THE ARGUMENTS, OPENED: a slice of int64s, a slice of float64s.
-/
import Derived.Test.Qxb6618301aScale2
import Derived.ProofKit
import Derived.OpenShut
import Derived.ChangeOld
import Derived.Deep.Slices
namespace Go.Proofs.Qxb6618301a
open Go.ChangeShapes Go.WideShapes Go.ChangeAt Go.RowKit Go.Deep

theorem own : ownKnob Try.prog.godebug = none := by kernel_rfl
theorem laidOut : laidOutB Try.prog = true := by kernel_rfl
theorem cells2 : Try.prog.cellsOf 2 = 1 := by kernel_rfl
theorem cells27 : Try.prog.cellsOf 27 = 1 := by kernel_rfl

section
variable {H : Type} {enc : TypeId × Value → H} {w : World} {base : Nat} {spare : Nat → Bool} {held : Bool}

theorem cell_float {n : Nat} {v : Value} {x : DataW H × List MemPlace} (h : DataW.trod enc Try.prog w base spare held n 27 [v] = some x) : ∃ b, v = .float .f64 b := by
  cases n with
  | zero => simp [DataW.trod] at h
  | succ n =>
    simp only [DataW.trod, Try.underlying27] at h
    cases v <;> simp_all

theorem cell_int {n : Nat} {v : Value} {x : DataW H × List MemPlace} (h : DataW.trod enc Try.prog w base spare held n 2 [v] = some x) : ∃ b, v = .int .i64 b := by
  obtain ⟨m, e, _⟩ := DataW.trod_int Try.underlying2 h
  simp at e
  exact ⟨m, e⟩

theorem open_frow {fuel : Nat} {a : Option Addr} {len cap : Nat} {x : DataW H × List MemPlace} (h : DataW.trod enc Try.prog w base spare held fuel 23 [.slice a len cap] = some x) : ∃ fs, FRow w a len fs := by
  rcases open_slice1 Try.underlying23 cells27 h with ⟨hcs, _⟩ | ⟨ad, l, c, m, n, V, D, Pl, hcs, _, hl, _, hm, _, hc⟩
  · simp at hcs
    obtain ⟨rfl, rfl, rfl⟩ := hcs
    exact ⟨[], rfl, .inl rfl⟩
  · simp at hcs
    obtain ⟨rfl, rfl, rfl⟩ := hcs
    have hml : len ≤ m := by rw [hm]; split <;> omega
    have hf : ∀ i, i < len → ∃ b, w.cell? (ad.add i) = some (.float .f64 b) := fun i hi => by
      obtain ⟨h1, h2⟩ := hc i (by omega)
      obtain ⟨b, hb⟩ := cell_float h2
      exact ⟨b, by rw [h1, hb]⟩
    obtain ⟨f, hf'⟩ := choose_lt (p := fun i b => w.cell? (ad.add i) = some (.float .f64 b)) hf
    by_cases h0 : len = 0
    · subst h0; exact ⟨[], rfl, .inl rfl⟩
    obtain ⟨b, off, spot⟩ := ad
    have hspot : spot = none := by simpa [Addr.add] using World.cell?_spot (hf' 0 (by omega))
    subst hspot
    refine ⟨(List.range len).map f, by simp, .inr ⟨b, off, rfl, fun i hi => ?_⟩⟩
    have := hf' i hi
    rw [add_plain] at this
    rw [this]
    simp [hi]

theorem open_irow {fuel : Nat} {a : Option Addr} {len cap : Nat} {x : DataW H × List MemPlace} (h : DataW.trod enc Try.prog w base spare held fuel 22 [.slice a len cap] = some x) : IRow w a len := by
  rcases open_slice1 Try.underlying22 cells2 h with ⟨hcs, _⟩ | ⟨ad, l, c, m, n, V, D, Pl, hcs, _, hl, _, hm, _, hc⟩
  · simp at hcs
    obtain ⟨rfl, rfl, rfl⟩ := hcs
    exact .inl rfl
  · simp at hcs
    obtain ⟨rfl, rfl, rfl⟩ := hcs
    have hml : len ≤ m := by rw [hm]; split <;> omega
    by_cases h0 : len = 0
    · subst h0; exact .inl rfl
    obtain ⟨b, off, spot⟩ := ad
    have hspot : spot = none := by simpa [Addr.add] using World.cell?_spot (hc 0 (by omega)).1
    subst hspot
    refine .inr ⟨b, off, rfl, fun i hi => ?_⟩
    obtain ⟨h1, h2⟩ := hc i (by omega)
    obtain ⟨z, hz⟩ := cell_int h2
    rw [add_plain] at h1
    exact ⟨z, by rw [h1, hz]⟩
end
end Go.Proofs.Qxb6618301a
