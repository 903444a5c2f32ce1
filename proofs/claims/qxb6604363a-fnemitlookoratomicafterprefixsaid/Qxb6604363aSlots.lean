import Derived.Test.Qxb6604363aProg
import Derived.WalkKit
import Derived.ProofKit
import Derived.RegionTactic
import Derived.ChangeAlike
import Derived.Deep.QuietTactic
import Derived.BigQuiet
import Derived.WalkSmall
import Derived.WalkSpells
import Derived.WalkLawsBesides
import Derived.Deep.LoopGhost
namespace Go.Proofs.Qxb6604363a
open Go.RowKit
set_option linter.unusedVariables false

/-! ### THE TWO MAKERS OF SLOTS: what 'ZZslotOpen' and 'ZZslotMark' answer -/
set_option maxHeartbeats 400000 in
theorem slotOpen_any (g a : Int) (w : World) (ha0 : 0 ≤ a) (ha : a ≤ 65536) :
    Calls Try.prog 17 #[.int .i64 g, .int .i32 a] w fun e w' => e = .returned (.int .i64 (3 * a)) ∧ Below w.heap.size w w' := by
  go_enter Try.func17, Try.ntmps17
  go_wp2
  go_ret
  exact ⟨rfl, ((((Below.refl _ _).alloc (by simp) _).alloc (by simp) _).alloc (by simp; omega) _)⟩

set_option maxHeartbeats 400000 in
theorem slotMark_any (g a : Int) (w : World) (hg0 : 0 ≤ g) (hg : g ≤ 65536) (ha0 : 0 ≤ a) (ha : a ≤ 65536) :
    Calls Try.prog 18 #[.int .i64 g, .int .i32 a] w fun e w' => e = .returned (.int .i64 (3 * (g + 1) + a)) ∧ Below w.heap.size w w' := by
  go_enter Try.func18, Try.ntmps18
  go_wp2
  go_quiet (fail)
  go_wp2
  go_ret
  exact ⟨rfl, below_drewN ((((Below.refl _ _).alloc (by simp) _).alloc (by simp) _).alloc (by simp; omega) _) _⟩

/-! ### A ROW OF BOOLS THAT THE CALL ITSELF MADE -/
def Seen (w : World) (g n : Nat) (f : Nat → Bool) : Prop :=
  ∃ cur : Array Value, w.heap[g]? = some (.cells cur 4 (0, 0)) ∧ cur.size = n ∧ ∀ i, i < n → cur[i]? = some (.bool (f i))

theorem Seen.cell {w : World} {g n : Nat} {f : Nat → Bool} (h : Seen w g n f) {i : Nat} (hi : i < n) : w.cell? ⟨g, i, none⟩ = some (.bool (f i)) := by
  obtain ⟨cur, h1, h2, h3⟩ := h
  simp [World.cell?, h1, h3 i hi]

theorem Seen.frozen {w : World} {g n : Nat} {f : Nat → Bool} (h : Seen w g n f) (i : Nat) : w.frozen? ⟨g, i, none⟩ = false := by
  obtain ⟨cur, h1, h2, h3⟩ := h
  simp [World.frozen?, h1]

theorem Seen.store {w : World} {g n : Nat} {f : Nat → Bool} (h : Seen w g n f) (i : Nat) :
    Seen (w.setCell ⟨g, i, none⟩ (.bool true)) g n (fun j => f j || j == i) := by
  obtain ⟨cur, h1, h2, h3⟩ := h
  have hlt : g < w.heap.size := by
    rcases Nat.lt_or_ge g w.heap.size with h | h
    · exact h
    · rw [Array.getElem?_eq_none (by omega)] at h1; cases h1
  refine ⟨cur.setIfInBounds i (.bool true), ?_, by simpa using h2, fun j hj => ?_⟩
  · simp [World.setCell, Array.getElem?_modify, h1]
  · by_cases e : i = j
    · subst e
      simp [h2, hj]
    · simp only [Array.getElem?_setIfInBounds_ne e, h3 j hj]
      have : (j == i) = false := by simp; omega
      simp [this]

theorem Seen.below {w w' : World} {B g n : Nat} {f : Nat → Bool} (h : Seen w g n f) (hb : Below B w w') (hg : g < B) : Seen w' g n f := by
  obtain ⟨cur, h1, h2, h3⟩ := h
  exact ⟨cur, by rw [hb.block g hg]; exact h1, h2, h3⟩

theorem Seen.congr {w : World} {g n : Nat} {f f' : Nat → Bool} (h : Seen w g n f) (e : ∀ i, i < n → f i = f' i) : Seen w g n f' := by
  obtain ⟨cur, h1, h2, h3⟩ := h
  exact ⟨cur, h1, h2, fun i hi => by rw [← e i hi]; exact h3 i hi⟩

theorem Seen.lt {w : World} {g n : Nat} {f : Nat → Bool} (h : Seen w g n f) : g < w.heap.size := by
  obtain ⟨cur, h1, h2, h3⟩ := h
  rcases Nat.lt_or_ge g w.heap.size with h | h
  · exact h
  · rw [Array.getElem?_eq_none (by omega)] at h1; cases h1

theorem seen_made {w : World} {base g n : Nat} (h : w.ownsRow base 4 1 (.slice (some ⟨g, 0, none⟩) n n) n (madeCells #[Value.bool false] n).toList) : Seen w g n (fun _ => false) := by
  obtain ⟨h1, h2⟩ := h
  rcases h2 with ⟨h2, _⟩ | ⟨g', cap, cur, hv, hb, hh, hle, hm, hs, ht⟩
  · simp at h2
  · simp at hv
    obtain ⟨rfl, rfl⟩ := hv
    simp only [Nat.mul_one] at hs ht h1
    refine ⟨cur, hh, hs, fun i hi => ?_⟩
    have e1 : cur.toList.take n = cur.toList := List.take_of_length_le (by simp [hs])
    rw [e1] at ht
    have e2 : cur[i]? = cur.toList[i]? := by simp
    rw [e2, ht]
    show (madeCells #[Value.bool false] n).toList[i]? = _
    rw [toList_madeCells_one]
    simp [hi]
end Go.Proofs.Qxb6604363a
