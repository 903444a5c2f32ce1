import Derived.Test.Qxb6604363aSlots
import Derived.StillTactics
import Derived.Laws.Pointers
import Derived.Deep.RegionHeld3
import Derived.Deep.AppendLies
import Derived.Deep.RegionLaw
import Derived.BigRegion
namespace Go.Proofs.Qxb6604363a
open Go.RowKit
set_option linter.unusedVariables false

/-- An instruction, as its nine cells say it. -/
structure Ins where
  op : Int
  fold : Bool
  b : Int
  behind : Bool
  negated : Bool
  width : Int
  arg : Int
  x : Int
  y : Int
def Ins.arr (i : Ins) : Array Value := #[.int .u8 i.op, .bool i.fold, .int .u8 i.b, .bool i.behind, .bool i.negated, .int .i32 i.width, .int .i32 i.arg, .int .i32 i.x, .int .i32 i.y]
def Ins.cells (i : Ins) : List Value := i.arr.toList
def flat (is : List Ins) : List Value := is.flatMap Ins.cells

/-- The compiler lies at block g; its program is the row v, whose cells are the instructions 'is'; no class, no mark, no split. -/
def Comp (w : World) (g : Nat) (v : Value) (is : List Ins) : Prop :=
  w.heap[g]? = some (.cells #[v, .slice none 0 0, .map none, .int .i64 0, .int .i64 0] 95 (0, 0)) ∧ w.ownsRow (g + 1) 84 9 v is.length (flat is)

/-- What a step of the compiler leaves as it was: all below its own block, and every block that is neither a program nor a compiler. -/
structure Fr (g : Nat) (w w' : World) : Prop where
  below : Below g w w'
  keep : ∀ (k : Nat) (cur : Array Value) (t : TypeId) (fr : Nat × Nat), t ≠ 84 → t ≠ 95 → w.heap[k]? = some (.cells cur t fr) → w'.heap[k]? = some (.cells cur t fr)

theorem Try.info84 : (Try.prog.info? 84).map (fun i => (i.zero, i.size, i.bytes)) = some (some (.agg #[.int .u8 0, .bool false, .int .u8 0, .bool false, .bool false, .int .i32 0, .int .i32 0, .int .i32 0, .int .i32 0]), 9, 24) := by kernel_rfl

theorem comp_far (w : World) (g : Nat) (v : Value) (lg : g < w.heap.size) (hv : w.cell? ⟨g, 0, none⟩ = some v) (hf : w.frozen? ⟨g, 0, none⟩ = false) (ag : v.ownBlock ≠ some g) (o o' : Obj) (w1 : World)
    (hgrow : ((w.alloc o).alloc o').drew.grownBy w1 v.ownBlock) : w1.cell? ⟨g, 0, none⟩ = some v ∧ w1.frozen? ⟨g, 0, none⟩ = false := by
  have hb : Below w.heap.size w ((w.alloc o).alloc o').drew := (((Below.refl w.heap.size w).alloc (Nat.le_refl _) o).alloc (by simp) o').drew
  have hlt : g < ((w.alloc o).alloc o').drew.heap.size := Nat.lt_of_lt_of_le lg hb.size
  refine ⟨?_, ?_⟩
  · rw [hgrow.cell_far ⟨g, 0, none⟩ hlt (Ne.symm ag), hb.cell (p := ⟨g, 0, none⟩) lg, hv]
  · rw [hgrow.frozen_far ⟨g, 0, none⟩ hlt (Ne.symm ag), hb.frozen (p := ⟨g, 0, none⟩) lg, hf]

theorem Fr.refl (g : Nat) (w : World) : Fr g w w := ⟨Below.refl _ _, fun _ _ _ _ _ _ h => h⟩
theorem Fr.trans {g : Nat} {a b c : World} (h : Fr g a b) (k : Fr g b c) : Fr g a c := ⟨h.below.trans k.below, fun i cur t fr h1 h2 h3 => k.keep i cur t fr h1 h2 (h.keep i cur t fr h1 h2 h3)⟩

theorem flat_snoc (is : List Ins) (i : Ins) : flat (is ++ [i]) = flat is ++ i.cells := by simp [flat]

theorem comp_add (w w1 : World) (g : Nat) (v : Value) (is : List Ins) (i : Ins) (gg cap : Nat) (o o' : Obj)
    (hg : w.heap[g]? = some (.cells #[v, .slice none 0 0, .map none, .int .i64 0, .int .i64 0] 95 (0, 0))) (hown : w.ownsRow (g + 1) 84 9 v is.length (flat is))
    (hgrow : ((w.alloc o).alloc o').drew.grownBy w1 v.ownBlock) (hown1 : w1.ownsRow (g + 1) 84 9 (.slice (some ⟨gg, 0, none⟩) (is.length + 1) cap) (is.length + 1) (flat is ++ i.cells)) :
    Comp (w1.setCell ⟨g, 0, none⟩ (.slice (some ⟨gg, 0, none⟩) (is.length + 1) cap)) g (.slice (some ⟨gg, 0, none⟩) (is.length + 1) cap) (is ++ [i]) ∧ Fr g w (w1.setCell ⟨g, 0, none⟩ (.slice (some ⟨gg, 0, none⟩) (is.length + 1) cap)) := by
  have lt_of : ∀ {k : Nat} {x : Obj}, w.heap[k]? = some x → k < w.heap.size := fun {k x} h => by
    rcases Nat.lt_or_ge k w.heap.size with h' | h'
    · exact h'
    · rw [Array.getElem?_eq_none (by omega)] at h; cases h
  have lg := lt_of hg
  have hb : Below w.heap.size w ((w.alloc o).alloc o').drew := (((Below.refl w.heap.size w).alloc (Nat.le_refl _) o).alloc (by simp) o').drew
  have hne : ∀ (k : Nat) (cur : Array Value) (t : TypeId) (fr : Nat × Nat), t ≠ 84 → w.heap[k]? = some (Obj.cells cur t fr) → some k ≠ v.ownBlock := by
    intro k cur t fr ht hk he
    obtain ⟨_, h2⟩ := hown
    rcases h2 with ⟨h2, _⟩ | ⟨g', cap', cur', hv, _, hh, _⟩
    · rw [h2] at he; cases he
    · rw [hv] at he
      simp [Value.ownBlock] at he
      subst he
      rw [hh] at hk
      simp at hk
      exact ht hk.2.1.symm
  have kept : ∀ (k : Nat) (cur : Array Value) (t : TypeId) (fr : Nat × Nat), t ≠ 84 → w.heap[k]? = some (Obj.cells cur t fr) → w1.heap[k]? = some (Obj.cells cur t fr) := fun k cur t fr ht hk => by
    have hlt := lt_of hk
    rw [hgrow.block k (Nat.lt_of_lt_of_le hlt hb.size) (hne k cur t fr ht hk), hb.block k hlt, hk]
  have hg1 := kept g _ 95 _ (by decide) hg
  refine ⟨⟨?_, ?_⟩, ⟨?_, ?_⟩⟩
  · rw [heap_setCell_same w1 g 0 _ 95 _ hg1]
    rfl
  · have := ownsRow_setCell_below hown1 (a := ⟨g, 0, none⟩) (Nat.lt_succ_self g) (.slice (some ⟨gg, 0, none⟩) (is.length + 1) cap)
    rw [flat_snoc, List.length_append]
    exact this
  · refine Below.setCell (p := ⟨g, 0, none⟩) ?_ (Nat.le_refl g) _
    refine Below.grown (hb.mono (Nat.le_of_lt lg)) hgrow (Nat.le_of_lt (Nat.lt_of_lt_of_le lg hb.size)) ?_
    intro k hk
    have := hown.lt k hk
    omega
  · intro k cur t fr h1 h2 h3
    have hkg : k ≠ g := by
      intro e
      subst e
      rw [hg] at h3
      simp at h3
      exact h2 h3.2.1.symm
    rw [heap_setCell_other w1 ⟨g, 0, none⟩ k _ hkg]
    exact kept k cur t fr h1 h3

set_option maxRecDepth 100000 in
set_option maxHeartbeats 1600000 in
theorem add_inst (i : Ins) (is : List Ins) (g : Nat) (v : Value) (w : World) (hc : Comp w g v is) (hl : is.length ≤ 200000) :
    Calls Try.prog 48 #[.pointer (some ⟨g, 0, none⟩), .agg i.arr] w fun e w' => e = .returned (.int .i64 is.length) ∧ ∃ v', Comp w' g v' (is ++ [i]) ∧ Fr g w w' := by
  obtain ⟨hg, hown⟩ := hc
  obtain ⟨i0, hi0, hz0, hz1, hz2⟩ := info_parts Try.info84
  have hv : w.cell? ⟨g, 0, none⟩ = some v := by simp [World.cell?, hg]
  have lg := World.block_lt_of_cell? w _ hv
  unfold Ins.arr
  obtain ⟨op, fold, b, behind, negated, width, arg, x, y⟩ := i
  simp only
  have hfz : w.frozen? ⟨g, 0, none⟩ = false := by simp [World.frozen?, hg]
  have ag : v.ownBlock ≠ some g := fun e => by have := hown.lt g e; omega
  have ab : v.ownBlock ≠ some w.heap.size := fun e => by have := hown.lt _ e; omega
  have hfar := comp_far w g v lg hv hfz ag
  go_enter Try.func48, Try.ntmps48
  go_wp2_with fail
  go_region_law
    ((refine step_append_lies _ (by rfl) _ _ _ (by rfl) (g + 1) 84 i0 _ 9 24 Try.underlying70 hi0 hz0 hz1 hz2 rfl (by omega) v is.length (flat is) (by rfl) (((hown.alloc _).alloc _).drew)
        ⟨w.heap.size + 1, 0, none⟩ 1 1 [.int .u8 op, .bool fold, .int .u8 b, .bool behind, .bool negated, .int .i32 width, .int .i32 arg, .int .i32 x, .int .i32 y] (by rfl) (by rfl) (World.news_of_block (cs := #[.int .u8 op, .bool fold, .int .u8 b, .bool behind, .bool negated, .int .i32 width, .int .i32 arg, .int .i32 x, .int .i32 y]) (t := 84) (fr := (0, 0)) (heap_alloc2_new w _ _)) (by simp [Value.oneCell'])
        (by omega) (by unfold maxLen; omega) (by omega) (by simp; omega) (w.heap.size + 1 + 1) (by simp) ?_; intro gg cap w1 hown1 hgrow hat hlt; obtain ⟨hc1, hf1⟩ := hfar _ _ _ hgrow))
  all_goals
    have hfin := comp_add w w1 g v is ⟨op, fold, b, behind, negated, width, arg, x, y⟩ gg cap _ _ hg hown hgrow hown1
    clear hown hown1 hgrow hfar hat hlt hg
    go_wp2
    go_ret
    exact ⟨by simp, _, hfin⟩
end Go.Proofs.Qxb6604363a
