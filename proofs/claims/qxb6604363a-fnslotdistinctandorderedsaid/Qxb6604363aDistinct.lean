import Derived.Test.Qxb6604363aSlots
namespace Go.Proofs.Qxb6604363a
open Go.RowKit
set_option linter.unusedVariables false

/-! ### 'zzSlot' by its two ways -/
theorem zzSlot_open (g a : Int) (w : World) (ha0 : 0 ≤ a) (ha : a ≤ 65536) :
    Calls Try.prog 19 #[.int .i64 g, .bool true, .int .i32 a] w fun e w' => e = .returned (.int .i64 (3 * a)) ∧ Below w.heap.size w w' := by
  go_enter Try.func19, Try.ntmps19
  go_wp2_with fail
  refine (slotOpen_any _ _ _ ha0 ha).mono ?_
  rintro e w2 ⟨rfl, hb2⟩
  go_wp2_with fail
  go_ret
  exact ⟨rfl, hb2⟩

theorem zzSlot_mark (g a : Int) (w : World) (hg0 : 0 ≤ g) (hg : g ≤ 65536) (ha0 : 0 ≤ a) (ha : a ≤ 65536) :
    Calls Try.prog 19 #[.int .i64 g, .bool false, .int .i32 a] w fun e w' => e = .returned (.int .i64 (3 * (g + 1) + a)) ∧ Below w.heap.size w w' := by
  go_enter Try.func19, Try.ntmps19
  go_wp2_with fail
  refine (slotMark_any _ _ _ hg0 hg ha0 ha).mono ?_
  rintro e w2 ⟨rfl, hb2⟩
  go_wp2_with fail
  go_ret
  exact ⟨rfl, hb2⟩

/-! ### The law inside its bounds: four ways by the two bools -/
set_option maxHeartbeats 1600000 in
theorem dist_oo (g a b : Int) (w : World) (hg0 : 0 ≤ g) (hg : g ≤ 65536) (ha0 : 0 ≤ a) (ha : a ≤ g) (hb0 : 0 ≤ b) (hb : b ≤ g) :
    Calls Try.prog 8 #[.int .i64 g, .bool true, .int .i32 a, .bool true, .int .i32 b] w fun e w' => e = .returned (.bool true) ∧ Below w.heap.size w w' := by
  rcases (show a < b ∨ a = b ∨ b < a from by omega) with h | h | h
  · have e1 : (3 * a == 3 * b) = false := beq_eq_false_iff_ne.2 (by omega)
    have e2 : (a == b) = false := beq_eq_false_iff_ne.2 (by omega)
    go_enter Try.func8, Try.ntmps8
    go_wp2_with fail
    refine (zzSlot_open _ _ _ (by omega) (by omega)).mono ?_
    rintro e w1 ⟨rfl, hb1⟩
    go_wp2_with fail
    refine (zzSlot_open _ _ _ (by omega) (by omega)).mono ?_
    rintro e w2 ⟨rfl, hb2⟩
    go_wp2_with fail
    go_ret
    exact ⟨rfl, hb1.trans (hb2.mono hb1.size)⟩
  · subst h
    go_enter Try.func8, Try.ntmps8
    go_wp2_with fail
    refine (zzSlot_open _ _ _ (by omega) (by omega)).mono ?_
    rintro e w1 ⟨rfl, hb1⟩
    go_wp2_with fail
    refine (zzSlot_open _ _ _ (by omega) (by omega)).mono ?_
    rintro e w2 ⟨rfl, hb2⟩
    go_wp2_with fail
    go_ret
    exact ⟨rfl, hb1.trans (hb2.mono hb1.size)⟩
  · have e1 : (3 * a == 3 * b) = false := beq_eq_false_iff_ne.2 (by omega)
    have e2 : (a == b) = false := beq_eq_false_iff_ne.2 (by omega)
    go_enter Try.func8, Try.ntmps8
    go_wp2_with fail
    refine (zzSlot_open _ _ _ (by omega) (by omega)).mono ?_
    rintro e w1 ⟨rfl, hb1⟩
    go_wp2_with fail
    refine (zzSlot_open _ _ _ (by omega) (by omega)).mono ?_
    rintro e w2 ⟨rfl, hb2⟩
    go_wp2_with fail
    go_ret
    exact ⟨rfl, hb1.trans (hb2.mono hb1.size)⟩

set_option maxHeartbeats 1600000 in
theorem dist_om (g a b : Int) (w : World) (hg0 : 0 ≤ g) (hg : g ≤ 65536) (ha0 : 0 ≤ a) (ha : a ≤ g) (hb0 : 0 ≤ b) (hb : b ≤ 65536) :
    Calls Try.prog 8 #[.int .i64 g, .bool true, .int .i32 a, .bool false, .int .i32 b] w fun e w' => e = .returned (.bool true) ∧ Below w.heap.size w w' := by
  have e1 : (3 * a == 3 * (g + 1) + b) = false := beq_eq_false_iff_ne.2 (by omega)
  go_enter Try.func8, Try.ntmps8
  go_wp2_with fail
  refine (zzSlot_open _ _ _ (by omega) (by omega)).mono ?_
  rintro e w1 ⟨rfl, hb1⟩
  go_wp2_with fail
  refine (zzSlot_mark _ _ _ (by omega) (by omega) (by omega) (by omega)).mono ?_
  rintro e w2 ⟨rfl, hb2⟩
  go_wp2_with fail
  go_ret
  exact ⟨rfl, hb1.trans (hb2.mono hb1.size)⟩

set_option maxHeartbeats 1600000 in
theorem dist_mo (g a b : Int) (w : World) (hg0 : 0 ≤ g) (hg : g ≤ 65536) (ha0 : 0 ≤ a) (ha : a ≤ 65536) (hb0 : 0 ≤ b) (hb : b ≤ g) :
    Calls Try.prog 8 #[.int .i64 g, .bool false, .int .i32 a, .bool true, .int .i32 b] w fun e w' => e = .returned (.bool true) ∧ Below w.heap.size w w' := by
  have e1 : (3 * (g + 1) + a == 3 * b) = false := beq_eq_false_iff_ne.2 (by omega)
  go_enter Try.func8, Try.ntmps8
  go_wp2_with fail
  refine (zzSlot_mark _ _ _ (by omega) (by omega) (by omega) (by omega)).mono ?_
  rintro e w1 ⟨rfl, hb1⟩
  go_wp2_with fail
  refine (zzSlot_open _ _ _ (by omega) (by omega)).mono ?_
  rintro e w2 ⟨rfl, hb2⟩
  go_wp2_with fail
  go_ret
  exact ⟨rfl, hb1.trans (hb2.mono hb1.size)⟩

set_option maxHeartbeats 1600000 in
theorem dist_mm (g a b : Int) (w : World) (hg0 : 0 ≤ g) (hg : g ≤ 65536) (ha0 : 0 ≤ a) (ha : a ≤ 65536) (hb0 : 0 ≤ b) (hb : b ≤ 65536) :
    Calls Try.prog 8 #[.int .i64 g, .bool false, .int .i32 a, .bool false, .int .i32 b] w fun e w' => e = .returned (.bool true) ∧ Below w.heap.size w w' := by
  rcases (show a < b ∨ a = b ∨ b < a from by omega) with h | h | h
  · have e1 : (3 * (g + 1) + a == 3 * (g + 1) + b) = false := beq_eq_false_iff_ne.2 (by omega)
    have e2 : (a == b) = false := beq_eq_false_iff_ne.2 (by omega)
    go_enter Try.func8, Try.ntmps8
    go_wp2_with fail
    refine (zzSlot_mark _ _ _ (by omega) (by omega) (by omega) (by omega)).mono ?_
    rintro e w1 ⟨rfl, hb1⟩
    go_wp2_with fail
    refine (zzSlot_mark _ _ _ (by omega) (by omega) (by omega) (by omega)).mono ?_
    rintro e w2 ⟨rfl, hb2⟩
    go_wp2_with fail
    go_ret
    exact ⟨rfl, hb1.trans (hb2.mono hb1.size)⟩
  · subst h
    go_enter Try.func8, Try.ntmps8
    go_wp2_with fail
    refine (zzSlot_mark _ _ _ (by omega) (by omega) (by omega) (by omega)).mono ?_
    rintro e w1 ⟨rfl, hb1⟩
    go_wp2_with fail
    refine (zzSlot_mark _ _ _ (by omega) (by omega) (by omega) (by omega)).mono ?_
    rintro e w2 ⟨rfl, hb2⟩
    go_wp2_with fail
    go_ret
    exact ⟨rfl, hb1.trans (hb2.mono hb1.size)⟩
  · have e1 : (3 * (g + 1) + a == 3 * (g + 1) + b) = false := beq_eq_false_iff_ne.2 (by omega)
    have e2 : (a == b) = false := beq_eq_false_iff_ne.2 (by omega)
    go_enter Try.func8, Try.ntmps8
    go_wp2_with fail
    refine (zzSlot_mark _ _ _ (by omega) (by omega) (by omega) (by omega)).mono ?_
    rintro e w1 ⟨rfl, hb1⟩
    go_wp2_with fail
    refine (zzSlot_mark _ _ _ (by omega) (by omega) (by omega) (by omega)).mono ?_
    rintro e w2 ⟨rfl, hb2⟩
    go_wp2_with fail
    go_ret
    exact ⟨rfl, hb1.trans (hb2.mono hb1.size)⟩

/-! ### Outside the bounds it answers true at once -/
theorem dist_out (g a b : Int) (p q : Bool) (w : World) (h : g < 0 ∨ 65536 < g ∨ a < 0 ∨ b < 0 ∨ 65536 < a ∨ 65536 < b) :
    Calls Try.prog 8 #[.int .i64 g, .bool p, .int .i32 a, .bool q, .int .i32 b] w fun e w' => e = .returned (.bool true) ∧ Below w.heap.size w w' := by
  by_cases h1 : g < 0
  · skip
    go_enter Try.func8, Try.ntmps8
    go_wp2_with fail
    go_ret
    exact ⟨rfl, Below.refl _ _⟩
  by_cases h2 : 65536 < g
  · skip
    go_enter Try.func8, Try.ntmps8
    go_wp2_with fail
    go_ret
    exact ⟨rfl, Below.refl _ _⟩
  by_cases h3 : a < 0
  · skip
    go_enter Try.func8, Try.ntmps8
    go_wp2_with fail
    go_ret
    exact ⟨rfl, Below.refl _ _⟩
  by_cases h4 : b < 0
  · skip
    go_enter Try.func8, Try.ntmps8
    go_wp2_with fail
    go_ret
    exact ⟨rfl, Below.refl _ _⟩
  by_cases h5 : 65536 < a
  · skip
    go_enter Try.func8, Try.ntmps8
    go_wp2_with fail
    go_ret
    exact ⟨rfl, Below.refl _ _⟩
  · have h6 : 65536 < b := by omega
    go_enter Try.func8, Try.ntmps8
    go_wp2_with fail
    go_ret
    exact ⟨rfl, Below.refl _ _⟩

theorem dist_past (g a b : Int) (p q : Bool) (w : World) (hg0 : 0 ≤ g) (hg : g ≤ 65536) (ha0 : 0 ≤ a) (ha : a ≤ 65536) (hb0 : 0 ≤ b) (hb : b ≤ 65536) (h : (p = true ∧ g < a) ∨ (q = true ∧ g < b)) :
    Calls Try.prog 8 #[.int .i64 g, .bool p, .int .i32 a, .bool q, .int .i32 b] w fun e w' => e = .returned (.bool true) ∧ Below w.heap.size w w' := by
  cases p
  · obtain ⟨rfl, h1⟩ : q = true ∧ g < b := by simpa using h
    clear h
    go_enter Try.func8, Try.ntmps8
    go_wp2_with fail
    go_ret
    exact ⟨rfl, Below.refl _ _⟩
  · by_cases h1 : g < a
    · clear h
      go_enter Try.func8, Try.ntmps8
      go_wp2_with fail
      go_ret
      exact ⟨rfl, Below.refl _ _⟩
    · obtain ⟨rfl, h2⟩ : q = true ∧ g < b := by rcases h with ⟨_, h⟩ | h; exact absurd h h1; exact h
      go_enter Try.func8, Try.ntmps8
      go_wp2_with fail
      go_ret
      exact ⟨rfl, Below.refl _ _⟩

theorem dist_walk (g a b : Int) (p q : Bool) (w : World) :
    Calls Try.prog 8 #[.int .i64 g, .bool p, .int .i32 a, .bool q, .int .i32 b] w fun e w' => e = .returned (.bool true) ∧ Below w.heap.size w w' := by
  by_cases h : g < 0 ∨ 65536 < g ∨ a < 0 ∨ b < 0 ∨ 65536 < a ∨ 65536 < b
  · exact dist_out g a b p q w h
  by_cases h2 : (p = true ∧ g < a) ∨ (q = true ∧ g < b)
  · exact dist_past g a b p q w (by omega) (by omega) (by omega) (by omega) (by omega) (by omega) h2
  cases p <;> cases q
  · exact dist_mm g a b w (by omega) (by omega) (by omega) (by omega) (by omega) (by omega)
  · exact dist_mo g a b w (by omega) (by omega) (by omega) (by omega) (by omega) (by simp at h2; omega)
  · exact dist_om g a b w (by omega) (by omega) (by omega) (by simp at h2; omega) (by omega) (by omega)
  · exact dist_oo g a b w (by omega) (by omega) (by omega) (by simp at h2; omega) (by omega) (by simp at h2; omega)
end Go.Proofs.Qxb6604363a
