import Derived.Test.Qxb6604363aComp
namespace Go.Proofs.Qxb6604363a
open Go.RowKit
set_option linter.unusedVariables false

theorem cell_block {w : World} {h : Nat} {cur : Array Value} {t : TypeId} {fr : Nat × Nat} {j : Nat} {v : Value} (hn : w.heap[h]? = some (.cells cur t fr)) (hj : cur[j]? = some v) : w.cell? ⟨h, j, none⟩ = some v := by
  rw [cell_of_row w h j cur t fr hn, hj]

/-- 'next': where the next instruction will stand. -/
theorem next_any (is : List Ins) (g : Nat) (v : Value) (w : World) (hc : Comp w g v is) (hl : is.length ≤ 200000) :
    Calls Try.prog 53 #[.pointer (some ⟨g, 0, none⟩)] w fun e w' => e = .returned (.int .i32 is.length) ∧ w' = w := by
  have h0 := cell_block hc.1 (j := 0) (v := v) rfl
  obtain ⟨ao, cap, hv⟩ : ∃ ao cap, v = .slice ao is.length cap := by
    obtain ⟨_, h2⟩ := hc.2
    rcases h2 with ⟨h2, h3⟩ | ⟨g', cap', cur', hv, _⟩
    · exact ⟨none, 0, by rw [h2, h3]⟩
    · exact ⟨_, _, hv⟩
  rw [hv] at h0
  go_enter Try.func53, Try.ntmps53
  go_wp2
  go_ret
  exact ⟨by simp, rfl⟩

theorem Fr.ofDrew {g : Nat} {w w' : World} (h : Fr g w.drew w') : Fr g w w' := ⟨⟨h.below.os, h.below.tape, h.below.output, h.below.size, h.below.block⟩, h.keep⟩

theorem add_raw (op : Int) (fold : Bool) (b : Int) (behind negated : Bool) (width arg x y : Int) (is : List Ins) (g : Nat) (v : Value) (w : World) (hc : Comp w g v is) (hl : is.length ≤ 200000) :
    Calls Try.prog 48 #[.pointer (some ⟨g, 0, none⟩), .agg #[.int .u8 op, .bool fold, .int .u8 b, .bool behind, .bool negated, .int .i32 width, .int .i32 arg, .int .i32 x, .int .i32 y]] w fun e w' =>
      e = .returned (.int .i64 is.length) ∧ ∃ v', Comp w' g v' (is ++ [⟨op, fold, b, behind, negated, width, arg, x, y⟩]) ∧ Fr g w w' :=
  add_inst ⟨op, fold, b, behind, negated, width, arg, x, y⟩ is g v w hc hl

def byteIns (fold : Bool) (b : Int) : Ins := ⟨0, fold, b, false, false, 0, 0, 0, 0⟩

set_option maxRecDepth 100000 in
set_option maxHeartbeats 1600000 in
/-- 'emit' of a byte's node. -/
theorem emit_byte (is : List Ins) (g h : Nat) (v : Value) (cur : Array Value) (fold : Bool) (b : Int) (w : World) (hc : Comp w g v is) (hl : is.length ≤ 200000)
    (hn : w.heap[h]? = some (.cells cur 92 (0, 0))) (n0 : cur[0]? = some (.int .u8 0)) (n2 : cur[2]? = some (.bool fold)) (n3 : cur[3]? = some (.int .u8 b)) :
    Calls Try.prog 43 #[.pointer (some ⟨g, 0, none⟩), .pointer (some ⟨h, 0, none⟩)] w fun e w' => e = .returned (.tuple #[]) ∧ ∃ v', Comp w' g v' (is ++ [byteIns fold b]) ∧ Fr g w w' := by
  have h0 := cell_block hn n0
  have h2 := cell_block hn n2
  have h3 := cell_block hn n3
  go_enter Try.func43, Try.ntmps43
  go_wp2_with fail
  go_region_held3 (fun w' => w'.cell? ⟨h, 2, none⟩ = some (.bool fold) ∧ w'.cell? ⟨h, 3, none⟩ = some (.int .u8 b))
    (first
      | go_keep
      | (exact ⟨cell_block (hfr.keep h cur 92 (0, 0) (by decide) (by decide) hn) n2, cell_block (hfr.keep h cur 92 (0, 0) (by decide) (by decide) hn) n3⟩))
    ((go_at_call 48; refine (add_raw _ _ _ _ _ _ _ _ _ is g v _ (by exact hc) hl).mono ?_; rintro e w1 ⟨rfl, v1, hc1, hfr⟩))
  go_wp2
  go_end0
  exact ⟨rfl, v1, hc1, hfr.ofDrew⟩

/-! ### NODES IN MEMORY -/
def Leaf (w : World) (h : Nat) (fold : Bool) (b : Int) : Prop := ∃ cur, w.heap[h]? = some (.cells cur 92 (0, 0)) ∧ cur[0]? = some (.int .u8 0) ∧ cur[2]? = some (.bool fold) ∧ cur[3]? = some (.int .u8 b)
def Subs (w : World) (r : Nat) (fold : Bool) (bs : List Int) : Prop := ∃ row : Array Value, w.heap[r]? = some (.cells row 43 (0, 0)) ∧ ∀ i, i < bs.length → ∃ hi, row[i]? = some (.pointer (some ⟨hi, 0, none⟩)) ∧ Leaf w hi fold (bs.getD i 0)
/-- The node at block h: the bytes bs, one behind the other. -/
def BNode (w : World) (h : Nat) (fold : Bool) (bs : List Int) : Prop := ∃ cur r cap, w.heap[h]? = some (.cells cur 92 (0, 0)) ∧ cur[0]? = some (.int .u8 4) ∧ cur[1]? = some (.slice (some ⟨r, 0, none⟩) bs.length cap) ∧ Subs w r fold bs

/-- Every block of cells that is neither a program nor a compiler is as it was. -/
def Keeps (w w' : World) : Prop := ∀ (k : Nat) (cur : Array Value) (t : TypeId) (fr : Nat × Nat), t ≠ 84 → t ≠ 95 → w.heap[k]? = some (.cells cur t fr) → w'.heap[k]? = some (.cells cur t fr)
theorem Fr.keeps {g : Nat} {w w' : World} (h : Fr g w w') : Keeps w w' := h.keep
theorem keeps_below {w w' : World} (h : Below w.heap.size w w') : Keeps w w' := fun k cur t fr _ _ hk => by
  have hlt : k < w.heap.size := by
    rcases Nat.lt_or_ge k w.heap.size with h' | h'
    · exact h'
    · rw [Array.getElem?_eq_none (by omega)] at hk; cases hk
  rw [h.block k hlt]; exact hk
theorem Leaf.kept {w w' : World} {h : Nat} {fold : Bool} {b : Int} (hl : Leaf w h fold b) (k : Keeps w w') : Leaf w' h fold b := by
  obtain ⟨cur, h1, h2, h3, h4⟩ := hl
  exact ⟨cur, k _ _ _ _ (by decide) (by decide) h1, h2, h3, h4⟩
theorem Subs.kept {w w' : World} {r : Nat} {fold : Bool} {bs : List Int} (hl : Subs w r fold bs) (k : Keeps w w') : Subs w' r fold bs := by
  obtain ⟨row, h1, h2⟩ := hl
  exact ⟨row, k _ _ _ _ (by decide) (by decide) h1, fun i hi => by obtain ⟨p, q1, q2⟩ := h2 i hi; exact ⟨p, q1, q2.kept k⟩⟩
theorem BNode.kept {w w' : World} {h : Nat} {fold : Bool} {bs : List Int} (hl : BNode w h fold bs) (k : Keeps w w') : BNode w' h fold bs := by
  obtain ⟨cur, r, cap, h1, h2, h3, h4⟩ := hl
  exact ⟨cur, r, cap, k _ _ _ _ (by decide) (by decide) h1, h2, h3, h4.kept k⟩

theorem take_map_snoc (f : Int → Ins) (bs : List Int) (k : Nat) (hk : k < bs.length) : (bs.take (k + 1)).map f = (bs.take k).map f ++ [f (bs.getD k 0)] := by
  rw [List.take_succ_eq_append_getElem hk, List.map_append]
  simp [List.getD_eq_getElem?_getD, List.getElem?_eq_getElem hk]

set_option maxRecDepth 100000 in
set_option maxHeartbeats 1600000 in
/-- 'emit' of a node of bytes. -/
theorem emit_bytes (is : List Ins) (g h : Nat) (v : Value) (fold : Bool) (bs : List Int) (w : World) (hc : Comp w g v is) (hl : is.length ≤ 70000) (hb : bs.length ≤ 70000) (hn : BNode w h fold bs) :
    Calls Try.prog 43 #[.pointer (some ⟨g, 0, none⟩), .pointer (some ⟨h, 0, none⟩)] w fun e w' => e = .returned (.tuple #[]) ∧ ∃ v', Comp w' g v' (is ++ bs.map (byteIns fold)) ∧ Fr g w w' := by
  obtain ⟨cur, r, cap, n, n0, n1, hsub⟩ := hn
  have h0 := cell_block n n0
  have h1 := cell_block n n1
  go_enter Try.func43, Try.ntmps43
  go_wp2_with fail
  go_loopw [5, 69] (fun s i wr => ∃ (k : Nat) (v' : Value), k ≤ bs.length ∧ i = .int .i64 k ∧ Comp wr g v' (is ++ (bs.take k).map (byteIns fold)) ∧ Fr g w wr) (fun _ i _ => bs.length - (intOf i).toNat)
  case atStart => exact ⟨0, v, by omega, rfl, by simpa using hc, Fr.refl _ _⟩
  case round =>
    obtain ⟨k, v', hk, rfl, hck, hfr⟩ := hrel
    by_cases hlt : k < bs.length
    · obtain ⟨row, r1, r2⟩ := hsub
      obtain ⟨hi, q1, q2⟩ := r2 k hlt
      have hcell := cell_block (hfr.keeps _ _ _ _ (by decide) (by decide) r1) q1
      obtain ⟨lc, l0, l1, l2, l3⟩ := q2.kept hfr.keeps
      clear h0 h1
      go_wp2_with fail
      refine (emit_byte _ g hi v' lc fold _ _ hck (by simp; omega) l0 l1 l2 l3).mono ?_
      rintro e w2 ⟨rfl, v2, hc2, hfr2⟩
      have HC : Hid (Comp w2 g v2 (is ++ (bs.take (k + 1)).map (byteIns fold))) := by unfold Hid; rw [take_map_snoc _ _ _ hlt, ← List.append_assoc]; exact hc2
      clear hc2 hck
      go_wp2
      go_roundw
      case rel => exact ⟨k + 1, v2, by omega, by go_num, HC.out, hfr.trans hfr2⟩
      case measure => simp [intOf]; omega
    · have HC : Hid (Comp wr g v' (is ++ bs.map (byteIns fold))) := by unfold Hid; rw [show bs = bs.take k from (List.take_of_length_le (by omega)).symm]; exact hck
      go_wp2_with fail
      go_end0
      exact ⟨rfl, v', HC.out, hfr⟩
end Go.Proofs.Qxb6604363a
