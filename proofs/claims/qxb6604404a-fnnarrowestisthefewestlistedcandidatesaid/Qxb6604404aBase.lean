import Derived.Test.Qxb6604404aProg
import Derived.WalkKit
import Derived.ProofKit
import Derived.RegionTactic
import Derived.ChangeAlike
import Derived.Deep.QuietTactic
import Derived.BigQuiet
import Derived.BigRegion
import Derived.WalkSmall
import Derived.WalkSpells
import Derived.WalkLawsBesides
import Derived.Lib.SliceRun
namespace Go.Proofs.Qxb6604404a
open Go.RowKit
set_option linter.unusedVariables false

/-! ### PICKS AND LISTS AS PLAIN DATA -/
structure Pk where
  b : Int
  nm : ByteArray
  vl : ByteArray
def pk0 : Pk := ⟨0, ⟨#[]⟩, ⟨#[]⟩⟩
/-- The three cells of a pick at ⟨g, o⟩. -/
def PkAt (w : World) (g o : Nat) (p : Pk) : Prop := w.cell? ⟨g, o, none⟩ = some (.int .u8 p.b) ∧ w.cell? ⟨g, o + 1, none⟩ = some (.string p.nm) ∧ w.cell? ⟨g, o + 2, none⟩ = some (.string p.vl)
/-- The slice at ao holds the picks ps. -/
def Picks (w : World) (ao : Option Addr) (ps : List Pk) : Prop := ∀ i, i < ps.length → ∃ g off, ao = some ⟨g, off, none⟩ ∧ PkAt w g (off + i * 3) (ps.getD i pk0)

theorem lt_of_cell {w : World} {a : Addr} {u : Value} (h : w.cell? a = some u) : a.block < w.heap.size := block_lt_of_cell h
theorem PkAt.below {w w' : World} {B g o : Nat} {p : Pk} (h : PkAt w g o p) (hb : Below B w w') (hg : g < B) : PkAt w' g o p :=
  ⟨(hb.cell (p := ⟨g, o, none⟩) hg).trans h.1, (hb.cell (p := ⟨g, o + 1, none⟩) hg).trans h.2.1, (hb.cell (p := ⟨g, o + 2, none⟩) hg).trans h.2.2⟩
theorem Picks.below {w w' : World} {ao : Option Addr} {ps : List Pk} (h : Picks w ao ps) (hb : Below w.heap.size w w') : Picks w' ao ps := fun i hi => by
  obtain ⟨g, off, e, h1⟩ := h i hi
  exact ⟨g, off, e, h1.below hb (lt_of_cell h1.1)⟩

/-- A row that the call made: n picks' cells; the first k are ps's. -/
def RowP (w : World) (g t n k : Nat) (ps : List Pk) : Prop := ∃ cur : Array Value, w.heap[g]? = some (.cells cur t (0, 0)) ∧ cur.size = n * 3 ∧
  ∀ i, i < k → cur[i * 3]? = some (.int .u8 (ps.getD i pk0).b) ∧ cur[i * 3 + 1]? = some (.string (ps.getD i pk0).nm) ∧ cur[i * 3 + 2]? = some (.string (ps.getD i pk0).vl)
theorem rowP_made {w : World} {base g n : Nat} {t : TypeId} {xs : List Value} {ps : List Pk} (h : w.ownsRow base t 3 (.slice (some ⟨g, 0, none⟩) n n) n xs) : RowP w g t n 0 ps := by
  obtain ⟨h1, h2⟩ := h
  rcases h2 with ⟨h2, _⟩ | ⟨g', cap, cur, hv, hb, hh, hle, hm, hs, ht⟩
  · simp at h2
  · simp at hv
    obtain ⟨rfl, rfl⟩ := hv
    exact ⟨cur, hh, hs, fun i hi => by omega⟩
theorem RowP.free {w : World} {g t n k : Nat} {ps : List Pk} (h : RowP w g t n k ps) (j : Nat) (hj : j < n * 3) : w.frozen? ⟨g, j, none⟩ = false ∧ ∃ u, w.cell? ⟨g, j, none⟩ = some u := by
  obtain ⟨cur, h1, h2, h3⟩ := h
  refine ⟨by simp [World.frozen?, h1], cur[j]'(by omega), ?_⟩
  rw [cell_of_row w g j cur t (0, 0) h1, Array.getElem?_eq_getElem]
theorem RowP.picks {w : World} {g t n : Nat} {ps : List Pk} (h : RowP w g t n ps.length ps) : Picks w (some ⟨g, 0, none⟩) ps := fun i hi => by
  obtain ⟨cur, h1, h2, h3⟩ := h
  obtain ⟨q1, q2, q3⟩ := h3 i hi
  refine ⟨g, 0, rfl, ?_, ?_, ?_⟩
  · rw [cell_of_row w g _ cur t (0, 0) h1, Nat.zero_add]; exact q1
  · rw [cell_of_row w g _ cur t (0, 0) h1, Nat.zero_add]; exact q2
  · rw [cell_of_row w g _ cur t (0, 0) h1, Nat.zero_add]; exact q3
theorem Try.info38 : (Try.prog.info? 38).map (fun i => (i.zero, i.size, i.bytes)) = some (some (.agg #[.int .u8 0, .string ⟨#[]⟩, .string ⟨#[]⟩]), 3, 40) := by kernel_rfl
theorem Try.info35 : (Try.prog.info? 35).map (fun i => (i.zero, i.size, i.bytes)) = some (some (.agg #[.int .u8 0, .string ⟨#[]⟩, .string ⟨#[]⟩]), 3, 40) := by kernel_rfl
theorem Try.info65 : (Try.prog.info? 65).map (fun i => (i.zero, i.size, i.bytes)) = some (some (.agg #[.int .u8 0, .string ⟨#[]⟩, .string ⟨#[]⟩]), 3, 40) := by kernel_rfl
end Go.Proofs.Qxb6604404a
