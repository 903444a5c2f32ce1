import Derived.Test.Qxb6604363aEmit
namespace Go.Proofs.Qxb6604363a
open Go.RowKit
set_option linter.unusedVariables false

set_option maxHeartbeats 1600000 in
theorem width_leaf (h : Nat) (fold : Bool) (b : Int) (w : World) (hn : Leaf w h fold b) :
    Calls Try.prog 59 #[.pointer (some ⟨h, 0, none⟩)] w fun e w' => e = .returned (.tuple #[.int .i64 1, .bool true]) ∧ w' = w := by
  obtain ⟨cur, n, n0, n2, n3⟩ := hn
  have h0 := cell_block n n0
  go_enter Try.func59, Try.ntmps59
  go_wp2_with fail
  go_ret2
  exact ⟨rfl, rfl⟩

set_option maxRecDepth 100000 in
set_option maxHeartbeats 1600000 in
theorem width_bytes (h : Nat) (fold : Bool) (bs : List Int) (w : World) (hb : bs.length ≤ 70000) (hn : BNode w h fold bs) :
    Calls Try.prog 59 #[.pointer (some ⟨h, 0, none⟩)] w fun e w' => e = .returned (.tuple #[.int .i64 bs.length, .bool true]) ∧ w' = w := by
  obtain ⟨cur, r, cap, n, n0, n1, hsub⟩ := hn
  have h0 := cell_block n n0
  have h1 := cell_block n n1
  go_enter Try.func59, Try.ntmps59
  go_wp2_with fail
  go_loop [2, 3, 6, 8, 9, 10, 84] (fun r1 r2 t s w1 f i => ∃ k : Nat, k ≤ bs.length ∧ r1 = .int .i64 0 ∧ r2 = .bool false ∧ i = .int .i64 k ∧ t = .int .i64 k) (fun _ _ _ _ _ _ i => bs.length - (intOf i).toNat)
  case atStart => exact ⟨0, by omega, rfl, rfl, rfl, rfl⟩
  case round =>
    obtain ⟨k, hk, rfl, rfl, rfl, rfl⟩ := hrel
    by_cases hlt : k < bs.length
    · obtain ⟨row, r1, r2⟩ := hsub
      obtain ⟨hi, q1, q2⟩ := r2 k hlt
      have hcell := cell_block r1 q1
      clear h0 h1
      go_wp2_with fail
      refine (width_leaf hi fold _ _ q2).mono ?_
      rintro e w2 ⟨rfl, rfl⟩
      go_wp2
      go_round
      case rel => exact ⟨k + 1, by omega, rfl, rfl, by go_num, by go_num⟩
      case measure => simp [intOf]; omega
    · have hkb : k = bs.length := by omega
      have HK : Hid (k = bs.length) := hkb
      clear hkb
      go_wp2_with fail
      go_ret2
      exact ⟨by rw [HK.out]; simp, rfl⟩

/-! ### ONE FIELD OF ONE INSTRUCTION WRITTEN -/
theorem flat_append (a b : List Ins) : flat (a ++ b) = flat a ++ flat b := by simp [flat]
theorem flat_length (a : List Ins) : (flat a).length = a.length * 9 := by
  induction a with
  | nil => rfl
  | cons i a ih =>
    have : flat (i :: a) = i.cells ++ flat a := rfl
    rw [this, List.length_append, ih]
    simp [Ins.cells, Ins.arr]
    omega
theorem comp_set (w : World) (g gg n cap : Nat) (pre post : List Ins) (i i' : Ins) (j : Nat) (u : Value) (hc : Comp w g (.slice (some ⟨gg, 0, none⟩) n cap) (pre ++ i :: post)) (hj : j < 9) (hi : i.cells.set j u = i'.cells) :
    Comp (w.setCell ⟨gg, pre.length * 9 + j, none⟩ u) g (.slice (some ⟨gg, 0, none⟩) n cap) (pre ++ i' :: post) ∧ Fr g w (w.setCell ⟨gg, pre.length * 9 + j, none⟩ u) := by
  obtain ⟨hg, hown⟩ := hc
  have hn : n = (pre ++ i :: post).length := by
    obtain ⟨_, h2⟩ := hown
    rcases h2 with ⟨h2, _⟩ | ⟨g', cap', cur', hv, _⟩
    · cases h2
    · simp only [Value.slice.injEq] at hv; exact hv.2.1
  have hown' := hown
  rw [← hn] at hown'
  have hst := hown'.stored (pre.length * 9 + j) u
  have hlt := hown.lt gg rfl
  have hne : g ≠ gg := by omega
  have e1 : (flat (pre ++ i :: post)).set (pre.length * 9 + j) u = flat (pre ++ i' :: post) := by
    have ea : flat (pre ++ i :: post) = flat pre ++ (i.cells ++ flat post) := by rw [flat_append]; rfl
    have eb : flat (pre ++ i' :: post) = flat pre ++ (i'.cells ++ flat post) := by rw [flat_append]; rfl
    rw [ea, eb, List.set_append_right _ _ (by rw [flat_length]; omega), flat_length, Nat.add_sub_cancel_left, List.set_append_left _ _ (by simp [Ins.cells, Ins.arr]; omega), hi]
  refine ⟨⟨?_, ?_⟩, ?_, ?_⟩
  · rw [heap_setCell_other w ⟨gg, pre.length * 9 + j, none⟩ g u hne]; exact hg
  · rw [e1] at hst
    have e2 : (pre ++ i' :: post).length = n := by rw [hn]; simp
    rw [e2]
    exact hst.1
  · exact (Below.refl _ _).setCell (p := ⟨gg, pre.length * 9 + j, none⟩) (by show g ≤ gg; omega) _
  · intro k cur t fr h1 h2 h3
    have hk : k ≠ gg := by
      intro e
      subst e
      obtain ⟨_, h4⟩ := hown
      rcases h4 with ⟨h4, _⟩ | ⟨g', cap', cur', hv, _, hh, _⟩
      · cases h4
      · simp only [Value.slice.injEq, Option.some.injEq, Addr.mk.injEq] at hv
        rw [← hv.1.1, h3] at hh
        simp at hh
        exact h1 hh.2.1
    rw [heap_setCell_other w ⟨gg, pre.length * 9 + j, none⟩ k u hk]; exact h3
theorem next_len (is : List Ins) (n g : Nat) (v : Value) (w : World) (hc : Comp w g v is) (hn : is.length = n) (hl : n ≤ 200000) :
    Calls Try.prog 53 #[.pointer (some ⟨g, 0, none⟩)] w fun e w' => e = .returned (.int .i32 n) ∧ w' = w := by
  subst hn
  exact next_any is g v w hc hl

theorem Fr.drew {g : Nat} {w w' : World} (h : Fr g w w') : Fr g w w'.drew := ⟨h.below.drew, h.keep⟩
theorem comp_form {w : World} {g : Nat} {v : Value} {is : List Ins} (hc : Comp w g v is) (h : 0 < is.length) : ∃ gg cap, v = .slice (some ⟨gg, 0, none⟩) is.length cap := by
  obtain ⟨_, _, h2⟩ := hc
  rcases h2 with ⟨_, h3⟩ | ⟨g', cap', cur', hv, _⟩
  · omega
  · exact ⟨_, _, hv⟩
theorem comp_cell {w : World} {g gg n cap : Nat} {pre post : List Ins} {i : Ins} {j : Nat} {u : Value} (hc : Comp w g (.slice (some ⟨gg, 0, none⟩) n cap) (pre ++ i :: post)) (hj : j < 9) (hu : i.cells[j]? = some u) :
    w.cell? ⟨gg, pre.length * 9 + j, none⟩ = some u ∧ w.frozen? ⟨gg, pre.length * 9 + j, none⟩ = false := by
  obtain ⟨hg, hown⟩ := hc
  have hn : n = (pre ++ i :: post).length := by
    obtain ⟨_, h2⟩ := hown
    rcases h2 with ⟨h2, _⟩ | ⟨g', cap', cur', hv, _⟩
    · cases h2
    · simp only [Value.slice.injEq] at hv; exact hv.2.1
  rw [← hn] at hown
  refine ⟨?_, hown.frozenAt _⟩
  rw [hown.cellAt _ (by rw [hn]; simp; omega)]
  have ea : flat (pre ++ i :: post) = flat pre ++ (i.cells ++ flat post) := by rw [flat_append]; rfl
  rw [ea, List.getElem?_append_right (by rw [flat_length]; omega), flat_length, Nat.add_sub_cancel_left, List.getElem?_append_left (by simp [Ins.cells, Ins.arr]; omega), hu]

/-- The node at block h has one child, the node at block h2. -/
def Wraps (w : World) (h h2 : Nat) (kind : Int) (behind negated : Bool) : Prop := ∃ cur r row, w.heap[h]? = some (.cells cur 92 (0, 0)) ∧ cur[0]? = some (.int .u8 kind) ∧ cur[1]? = some (.slice (some ⟨r, 0, none⟩) 1 1) ∧ cur[19]? = some (.bool behind) ∧ cur[20]? = some (.bool negated) ∧
  w.heap[r]? = some (.cells row 43 (0, 0)) ∧ row[0]? = some (.pointer (some ⟨h2, 0, none⟩))
theorem Wraps.kept {w w' : World} {h h2 : Nat} {kind : Int} {b n : Bool} (hl : Wraps w h h2 kind b n) (k : Keeps w w') : Wraps w' h h2 kind b n := by
  obtain ⟨cur, r, row, h1, a, b, c, d, h6, h7⟩ := hl
  exact ⟨cur, r, row, k _ _ _ _ (by decide) (by decide) h1, a, b, c, d, k _ _ _ _ (by decide) (by decide) h6, h7⟩

set_option maxRecDepth 100000 in
set_option maxHeartbeats 1600000 in
theorem emit_atomic (is : List Ins) (g h h2 : Nat) (v : Value) (fold b1 b2 : Bool) (bs : List Int) (w : World) (hc : Comp w g v is) (hl : is.length ≤ 66000) (hb : bs.length ≤ 66000) (hw : Wraps w h h2 10 b1 b2) (hn : BNode w h2 fold bs) :
    Calls Try.prog 43 #[.pointer (some ⟨g, 0, none⟩), .pointer (some ⟨h, 0, none⟩)] w fun e w' => e = .returned (.tuple #[]) ∧
      ∃ v', Comp w' g v' (is ++ ⟨13, false, 0, false, false, 0, 0, 0, is.length + bs.length + 2⟩ :: (bs.map (byteIns fold) ++ [⟨15, false, 0, false, false, 0, 0, 0, 0⟩])) ∧ Fr g w w' := by
  obtain ⟨cur, r, row, n, n0, n1, _, _, r0, r1⟩ := hw
  have h0 := cell_block n n0
  go_enter Try.func43, Try.ntmps43
  go_wp2_with fail
  refine (add_raw _ _ _ _ _ _ _ _ _ is g v _ hc (by omega)).mono ?_
  rintro e w1 ⟨rfl, v1, hc1, hfr1⟩
  have k1 := cell_block (hfr1.keeps _ _ _ _ (by decide) (by decide) n) n1
  have k2 := cell_block (hfr1.keeps _ _ _ _ (by decide) (by decide) r0) r1
  clear h0
  go_wp2_with fail
  refine (emit_bytes _ g h2 v1 fold bs _ hc1 (by simp; omega) (by omega) (hn.kept hfr1.keeps)).mono ?_
  rintro e w2 ⟨rfl, v2, hc2, hfr2⟩
  clear k1 k2
  go_wp2_with fail
  refine (add_raw _ _ _ _ _ _ _ _ _ _ g v2 _ hc2 (by simp; omega)).mono ?_
  rintro e w3 ⟨rfl, v3, hc3, hfr3⟩
  have hfr := (hfr1.trans hfr2).trans hfr3
  clear hfr1 hfr2 hfr3 hc hc1 hc2 hn n n0 n1 r0 r1
  have hc4 : Comp w3 g v3 (is ++ ⟨13, false, 0, false, false, 0, 0, 0, 0⟩ :: (bs.map (byteIns fold) ++ [⟨15, false, 0, false, false, 0, 0, 0, 0⟩])) := by
    have e : is ++ [⟨13, false, 0, false, false, 0, 0, 0, 0⟩] ++ bs.map (byteIns fold) ++ [⟨15, false, 0, false, false, 0, 0, 0, 0⟩] = is ++ (⟨13, false, 0, false, false, 0, 0, 0, 0⟩ : Ins) :: (bs.map (byteIns fold) ++ [⟨15, false, 0, false, false, 0, 0, 0, 0⟩]) := by simp
    rw [← e]; exact hc3
  clear hc3
  have hlen : (is ++ (⟨13, false, 0, false, false, 0, 0, 0, 0⟩ : Ins) :: (bs.map (byteIns fold) ++ [⟨15, false, 0, false, false, 0, 0, 0, 0⟩])).length = is.length + bs.length + 2 := by simp; omega
  obtain ⟨gg, cap, rfl⟩ := comp_form hc4 (by rw [hlen]; omega)
  rw [hlen] at hc4
  have p0 := cell_block hc4.1 (j := 0) rfl
  obtain ⟨p1, p2⟩ := comp_cell hc4 (j := 8) (u := .int .i32 0) (by omega) rfl
  have hset := comp_set w3 g gg _ cap is (bs.map (byteIns fold) ++ [⟨15, false, 0, false, false, 0, 0, 0, 0⟩]) ⟨13, false, 0, false, false, 0, 0, 0, 0⟩ ⟨13, false, 0, false, false, 0, 0, 0, is.length + bs.length + 2⟩ 8 (.int .i32 (is.length + bs.length + 2)) hc4 (by omega) rfl
  have HL : Hid _ := hlen
  clear hlen
  go_wp2_with fail
  go_region_with ((go_at_call 53; refine (next_len _ _ g _ _ (by exact hc4) HL.out (by omega)).mono ?_; rintro e w' ⟨rfl, rfl⟩))
  all_goals
    go_wp2
    go_end0
    exact ⟨rfl, _, (by exact hset.1), (hfr.trans hset.2).drew⟩
end Go.Proofs.Qxb6604363a
