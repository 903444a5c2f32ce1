import Derived.Test.Qxb6604369aRows
import Derived.Test.Qxb6604369aShapes
import Derived.OpenShut
import Derived.Deep.Slices
namespace Go.Proofs.Qxb6604369a
open Go.ChangeShapes Go.WideShapes Go.ChangeAt Go.RowKit Go.Deep
set_option linter.unusedVariables false

/-! ### FROM THE READING OF AN ARGUMENT TO ITS SHAPE -/
theorem Try.cells5 : Try.prog.cellsOf 5 = 1 := by kernel_rfl
theorem Try.cells22 : Try.prog.cellsOf 22 = 1 := by kernel_rfl
theorem Try.cells28 : Try.prog.cellsOf 28 = 1 := by kernel_rfl

theorem sh_of_trod {H : Type} {enc : TypeId × Value → H} {W : World} {base : Nat} {spare : Nat → Bool} {held : Bool} {t e : TypeId} (E : Value → Prop) (ht : Try.prog.underlying t = some (.slice e)) (hc : Try.prog.cellsOf e = 1)
    (hE : ∀ (u : Value) (n : Nat) (x : DataW H × List MemPlace), DataW.trod enc Try.prog W base spare held n e [u] = some x → E u) {fuel : Nat} {v : Value} {x : DataW H × List MemPlace} (h : DataW.trod enc Try.prog W base spare held fuel t [v] = some x) :
    Sh W E 9223372036854775807 v := by
  rcases open_slice1 ht hc h with ⟨h1, _⟩ | ⟨a, len, cap, m, n, V, D, Pl, h1, _, hl, hm, hmm, _, hx⟩
  · simp only [List.cons.injEq, and_true] at h1
    exact ⟨none, 0, 0, h1, by omega, fun _ => ⟨rfl, rfl⟩, fun i hi => by omega⟩
  · simp only [List.cons.injEq, and_true] at h1
    refine ⟨some a, len, cap, h1, by unfold maxLen at hm; omega, (fun h => by cases h), fun i hi => ?_⟩
    have him : i < m := by rw [hmm]; split <;> omega
    obtain ⟨hcell, htr⟩ := hx i him
    obtain ⟨b, off, spot⟩ := a
    have hspot : spot = none := by simpa [Addr.add] using World.cell?_spot (hx 0 (by omega)).1
    subst hspot
    rw [add_plain] at hcell
    exact ⟨b, off, V i, rfl, hcell, hE _ _ _ htr⟩

theorem open_nested {H : Type} {enc : TypeId × Value → H} {W : World} {base : Nat} {spare : Nat → Bool} {held : Bool} {a : Option Addr} {len cap : Nat} {d : DataW H} {p : List MemPlace} (h : DataW.Trod enc Try.prog W base spare held 35 (.slice a len cap) d p) :
    Sh3 W 9223372036854775807 9223372036854775807 9223372036854775807 (.slice a len cap) := by
  obtain ⟨fuel, hf⟩ := h
  refine sh_of_trod _ Try.underlying35 Try.cells28 (fun u n x h => ?_) (v := .slice a len cap) (by simpa [Value.cells] using hf)
  refine sh_of_trod _ Try.underlying28 Try.cells22 (fun u n x h => ?_) h
  refine sh_of_trod _ Try.underlying22 Try.cells5 (fun u n x h => ?_) h
  obtain ⟨k, e, _⟩ := DataW.trod_int Try.underlying5 h
  simp only [List.cons.injEq, and_true] at e
  exact ⟨k, e⟩
end Go.Proofs.Qxb6604369a
