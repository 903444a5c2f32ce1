import Derived.Test.Qxb6604363aNodes
namespace Go.Proofs.Qxb6604363a
open Go.RowKit
set_option linter.unusedVariables false

theorem Comp.below {w w' : World} {g : Nat} {v : Value} {is : List Ins} (hc : Comp w g v is) (hb : Below w.heap.size w w') : Comp w' g v is := by
  have hlt : g < w.heap.size := by
    rcases Nat.lt_or_ge g w.heap.size with h' | h'
    · exact h'
    · have := hc.1; rw [Array.getElem?_eq_none (by omega)] at this; cases this
  exact ⟨by rw [hb.block g hlt]; exact hc.1, owns_below hc.2 hb⟩

theorem prog_len (is : List Ins) (g : Nat) (v : Value) (w : World) (hc : Comp w g v is) (hl : is.length ≤ 200000) :
    Calls Try.prog 26 #[.pointer (some ⟨g, 0, none⟩)] w fun e w' => e = .returned (.int .i64 is.length) ∧ w' = w := by
  have h0 := cell_block hc.1 (j := 0) (v := v) rfl
  obtain ⟨ao, cap, hv⟩ : ∃ ao cap, v = .slice ao is.length cap := by
    obtain ⟨_, h2⟩ := hc.2
    rcases h2 with ⟨h2, h3⟩ | ⟨g', cap', cur', hv, _⟩
    · exact ⟨none, 0, by rw [h2, h3]⟩
    · exact ⟨_, _, hv⟩
  rw [hv] at h0
  go_enter Try.func26, Try.ntmps26
  go_wp2
  go_ret
  exact ⟨by simp, rfl⟩
theorem class_count (is : List Ins) (g : Nat) (v : Value) (w : World) (hc : Comp w g v is) :
    Calls Try.prog 28 #[.pointer (some ⟨g, 0, none⟩)] w fun e w' => e = .returned (.int .i64 0) ∧ w' = w := by
  have h0 := cell_block hc.1 (j := 1) (v := .slice none 0 0) rfl
  go_enter Try.func28, Try.ntmps28
  go_wp2
  go_ret
  exact ⟨by simp, rfl⟩
theorem counters_any (is : List Ins) (g : Nat) (v : Value) (w : World) (hc : Comp w g v is) :
    Calls Try.prog 31 #[.pointer (some ⟨g, 0, none⟩)] w fun e w' => e = .returned (.tuple #[.int .i64 0, .int .i64 0]) ∧ Below w.heap.size w w' := by
  have h3 := cell_block hc.1 (j := 3) (v := .int .i64 0) rfl
  have h4 := cell_block hc.1 (j := 4) (v := .int .i64 0) rfl
  go_enter Try.func31, Try.ntmps31
  go_wp2
  go_quiet (fail)
  go_wp2
  go_ret2
  exact ⟨rfl, below_drewN (Below.refl _ _) _⟩

set_option maxRecDepth 100000 in
set_option maxHeartbeats 1600000 in
theorem inst_any (pre post : List Ins) (op : Int) (fold : Bool) (b : Int) (behind negated : Bool) (width arg x y : Int) (g : Nat) (v : Value) (w : World) (hc : Comp w g v (pre ++ ⟨op, fold, b, behind, negated, width, arg, x, y⟩ :: post)) (hl : (pre ++ (⟨op, fold, b, behind, negated, width, arg, x, y⟩ : Ins) :: post).length ≤ 200000) :
    Calls Try.prog 44 #[.pointer (some ⟨g, 0, none⟩), .int .i64 pre.length] w fun e w' => e = .returned (.tuple #[.int .u8 op, .bool fold, .int .u8 b, .bool behind, .bool negated, .int .i32 width, .int .i32 arg, .int .i32 x, .int .i32 y]) ∧ Below w.heap.size w w' := by
  obtain ⟨gg, cap, rfl⟩ := comp_form hc (by simp; omega)
  generalize hn : (pre ++ (⟨op, fold, b, behind, negated, width, arg, x, y⟩ : Ins) :: post).length = n at *
  have hlt : pre.length < n := by rw [← hn]; simp
  clear hn
  have p := cell_block hc.1 (j := 0) rfl
  have p0 : w.cell? ⟨gg, pre.length * 9, none⟩ = some (.int .u8 op) := (comp_cell hc (j := 0) (by omega) rfl).1
  have p1 := (comp_cell hc (j := 1) (u := .bool fold) (by omega) rfl).1
  have p2 := (comp_cell hc (j := 2) (u := .int .u8 b) (by omega) rfl).1
  have p3 := (comp_cell hc (j := 3) (u := .bool behind) (by omega) rfl).1
  have p4 := (comp_cell hc (j := 4) (u := .bool negated) (by omega) rfl).1
  have p5 := (comp_cell hc (j := 5) (u := .int .i32 width) (by omega) rfl).1
  have p6 := (comp_cell hc (j := 6) (u := .int .i32 arg) (by omega) rfl).1
  have p7 := (comp_cell hc (j := 7) (u := .int .i32 x) (by omega) rfl).1
  have p8 := (comp_cell hc (j := 8) (u := .int .i32 y) (by omega) rfl).1
  clear hc
  go_enter Try.func44, Try.ntmps44
  go_wp2_with fail
  go_quiet (fail)
  go_wp2
  exact bodyPost_ret (v := .tuple #[.int .u8 op, .bool fold, .int .u8 b, .bool behind, .bool negated, .int .i32 width, .int .i32 arg, .int .i32 x, .int .i32 y]) (by simp [results, Try.results44, go_sem]) rfl ⟨rfl, below_drewN ((Below.refl _ _).alloc (Nat.le_refl _) _) _⟩

set_option maxRecDepth 100000 in
set_option maxHeartbeats 1600000 in
theorem inst_is (pre post : List Ins) (op : Int) (fold : Bool) (b : Int) (behind negated : Bool) (width arg x y : Int) (g : Nat) (v : Value) (w : World) (hc : Comp w g v (pre ++ ⟨op, fold, b, behind, negated, width, arg, x, y⟩ :: post)) (hl : (pre ++ (⟨op, fold, b, behind, negated, width, arg, x, y⟩ : Ins) :: post).length ≤ 200000) (i : Int) (hi : i = pre.length) :
    Calls Try.prog 27 #[.pointer (some ⟨g, 0, none⟩), .int .i64 i, .int .u8 op, .bool fold, .int .u8 b, .bool behind, .bool negated, .int .i32 width, .int .i32 arg, .int .i32 x, .int .i32 y] w fun e w' => e = .returned (.bool true) ∧ Below w.heap.size w w' := by
  subst hi
  have hi := inst_any pre post op fold b behind negated width arg x y g v w hc hl
  clear hc hl
  go_enter Try.func27, Try.ntmps27
  go_wp2_with fail
  refine hi.mono ?_
  rintro e w1 ⟨rfl, hb⟩
  go_wp2
  go_ret
  exact ⟨by simp, hb⟩
end Go.Proofs.Qxb6604363a
