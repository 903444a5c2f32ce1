import Derived.Test.Qxb6604363aEmit3
import Derived.Lib.SliceRun
namespace Go.Proofs.Qxb6604363a
open Go.RowKit
set_option linter.unusedVariables false

theorem Try.info5 : (Try.prog.info? 5).map (fun i => (i.zero, i.size, i.bytes)) = some (some (.int .u8 0), 1, 1) := by kernel_rfl
theorem Try.info43 : (Try.prog.info? 43).map (fun i => (i.zero, i.size, i.bytes)) = some (some (.pointer none), 1, 8) := by kernel_rfl

/-- A slice's n cells at its address: the numbers bs. -/
def Bytes (w : World) (ao : Option Addr) (bs : List Int) : Prop := ∀ k, k < bs.length → ∃ r off, ao = some ⟨r, off, none⟩ ∧ w.cell? ⟨r, off + k, none⟩ = some (.int .u8 (bs.getD k 0)) ∧ r < w.heap.size
/-- A row that the call made: the numbers bs, up to n of them. -/
def NRow (w : World) (g : Nat) (bs : List Int) (n : Nat) : Prop := ∃ cur : Array Value, w.heap[g]? = some (.cells cur 5 (0, 0)) ∧ cur.size = bs.length ∧ ∀ i, i < n → cur[i]? = some (.int .u8 (bs.getD i 0))

theorem NRow.put {w : World} {g : Nat} {bs : List Int} {n : Nat} (h : NRow w g bs n) (hn : n < bs.length) : NRow (w.setCell ⟨g, n, none⟩ (.int .u8 (bs.getD n 0))) g bs (n + 1) := by
  obtain ⟨cur, h1, h2, h3⟩ := h
  refine ⟨cur.setIfInBounds n (.int .u8 (bs.getD n 0)), ?_, by simpa using h2, fun j hj => ?_⟩
  · simp [World.setCell, Array.getElem?_modify, h1]
  · by_cases e : n = j
    · subst e
      simp [h2, hn]
    · rw [Array.getElem?_setIfInBounds_ne e]
      exact h3 j (by omega)
theorem nrow_made {w : World} {base g n : Nat} {bs : List Int} (hn : bs.length = n) (h : w.ownsRow base 5 1 (.slice (some ⟨g, 0, none⟩) n n) n (madeCells #[Value.int .u8 0] n).toList) : NRow w g bs 0 := by
  obtain ⟨h1, h2⟩ := h
  rcases h2 with ⟨h2, _⟩ | ⟨g', cap, cur, hv, hb, hh, hle, hm, hs, ht⟩
  · simp at h2
  · simp at hv
    obtain ⟨rfl, rfl⟩ := hv
    exact ⟨cur, hh, by rw [hs, hn]; simp, fun i hi => by omega⟩
theorem NRow.free {w : World} {g : Nat} {bs : List Int} {n : Nat} (h : NRow w g bs n) (hn : n < bs.length) : w.frozen? ⟨g, n, none⟩ = false ∧ ∃ u, w.cell? ⟨g, n, none⟩ = some u := by
  obtain ⟨cur, h1, h2, h3⟩ := h
  refine ⟨by simp [World.frozen?, h1], cur[n]'(by omega), ?_⟩
  rw [cell_of_row w g n cur 5 (0, 0) h1, Array.getElem?_eq_getElem]

set_option maxRecDepth 100000 in
set_option maxHeartbeats 1600000 in
theorem clone_any (ao : Option Addr) (cap : Nat) (bs : List Int) (w : World) (hb : bs.length ≤ 66000) (h : Bytes w ao bs) (hnil : ao = none → cap = 0) :
    Calls Try.prog 33 #[.slice ao bs.length cap] w fun e w' => ∃ ao' cap', e = .returned (.slice ao' bs.length cap') ∧ Below w.heap.size w w' ∧ (∀ k, k < bs.length → ∃ r cur, ao' = some ⟨r, 0, none⟩ ∧ w'.heap[r]? = some (.cells cur 5 (0, 0)) ∧ ∀ i, i < bs.length → cur[i]? = some (.int .u8 (bs.getD i 0))) := by
  have hq := fun wx => Lib.run_eql_slice_nil (P := Try.prog) wx 57 5 ao bs.length cap 0 0 Try.underlying57
  obtain ⟨i0, hi, hz0, hz1, hz2⟩ := info_parts Try.info5
  cases ao with
  | none =>
    have hlen : bs.length = 0 := by
      rcases Nat.eq_zero_or_pos bs.length with h0 | h0
      · exact h0
      · obtain ⟨_, _, e, _⟩ := h 0 h0; cases e
    obtain rfl := List.eq_nil_of_length_eq_zero hlen
    obtain rfl := hnil rfl
    clear hnil
    simp only [Option.isNone_none, List.length_nil] at hq ⊢
    clear h hlen
    go_enter Try.func33, Try.ntmps33
    go_wp2_with fail
    go_ret
    exact ⟨none, 0, rfl, Below.refl _ _, fun k hk => by omega⟩
  | some x =>
    clear hnil
    simp only [Option.isNone_some] at hq
    go_enter Try.func33, Try.ntmps33
    go_wp2_with (first | (at_make; go_must (refine wpList_make_full _ rfl _ _ 57 rfl w.heap.size 5 i0 (.int .u8 0) 1 Try.underlying57 hi hz0 hz1 .i64 .i64 _ _ bs.length rfl rfl (by omega) (by omega) ?c1 ?c2 (Nat.le_refl _) ?_)))
    case c1 => rw [hz2]; omega
    case c2 => unfold maxLen; omega
    intro w1 hown hgr
    have hs1 : NRow w1 w.heap.size bs 0 := nrow_made rfl hown
    have hb1 : Below w.heap.size w w1 := (Below.refl _ _).grown hgr (Nat.le_refl _) (fun k h => by cases h)
    clear hown hgr hq
    go_wp2
    go_loopw [4] (fun i wr => ∃ k : Nat, k ≤ bs.length ∧ i = .int .i64 k ∧ NRow wr w.heap.size bs k ∧ Below w.heap.size w wr) (fun i _ => bs.length - (intOf i).toNat)
    case atStart => exact ⟨0, by omega, rfl, hs1, hb1⟩
    case round =>
      clear hs1 hb1
      obtain ⟨k, hk, rfl, hs, hbw⟩ := hrel
      by_cases hlt : k < bs.length
      · obtain ⟨r, off, e, hc, hr⟩ := h k hlt
        cases e
        have hc' : wr.cell? ⟨r, off + k, none⟩ = some (.int .u8 (bs.getD k 0)) := (hbw.cell (p := ⟨r, off + k, none⟩) hr).trans hc
        obtain ⟨hf, u, hu⟩ := hs.free hlt
        clear hc
        generalize hbk : bs.getD k 0 = bk at hc'
        have HB : Hid (bs.getD k 0 = bk) := hbk
        clear hbk
        go_wp2
        go_roundw
        case rel => exact ⟨k + 1, by omega, by go_num, by rw [← HB.out]; exact hs.put hlt, hbw.setCell (Nat.le_refl _) _⟩
        case measure => simp [intOf]; omega
      · go_wp2_with fail
        go_ret
        obtain ⟨cur, s1, s2, s3⟩ := hs
        exact ⟨_, _, rfl, hbw, fun j hj => ⟨w.heap.size, cur, rfl, s1, fun i hi => s3 i (by omega)⟩⟩

/-! ### THE NODES' MAKERS -/
theorem node_byte (b : Int) (fold : Bool) (w : World) :
    Calls Try.prog 45 #[.int .u8 b, .bool fold] w fun e w' => e = .returned (.pointer (some ⟨w.heap.size, 0, none⟩)) ∧ Leaf w' w.heap.size fold b ∧ Below w.heap.size w w' ∧ w'.heap.size = w.heap.size + 1 := by
  go_enter Try.func45, Try.ntmps45
  go_wp2
  go_ret
  exact ⟨rfl, ⟨_, heap_alloc_new w _, rfl, rfl, rfl⟩, (Below.refl _ _).alloc (Nat.le_refl _) _, by simp⟩

theorem node_concat (r cap : Nat) (fold : Bool) (bs : List Int) (w : World) (hs : Subs w r fold bs) :
    Calls Try.prog 25 #[.slice (some ⟨r, 0, none⟩) bs.length cap] w fun e w' => e = .returned (.pointer (some ⟨w.heap.size, 0, none⟩)) ∧ BNode w' w.heap.size fold bs ∧ Below w.heap.size w w' := by
  go_enter Try.func25, Try.ntmps25
  go_wp2
  go_ret
  have hb : ∀ o, Below w.heap.size w (w.alloc o) := fun o => (Below.refl _ _).alloc (Nat.le_refl _) _
  exact ⟨rfl, ⟨_, r, cap, heap_alloc_new w _, rfl, rfl, hs.kept (keeps_below (hb _))⟩, hb _⟩

theorem node_atomic (h2 : Nat) (w : World) :
    Calls Try.prog 35 #[.pointer (some ⟨h2, 0, none⟩)] w fun e w' => ∃ h, e = .returned (.pointer (some ⟨h, 0, none⟩)) ∧ Wraps w' h h2 10 false false ∧ Below w.heap.size w w' := by
  go_enter Try.func35, Try.ntmps35
  go_wp2
  go_ret
  exact ⟨_, rfl, ⟨_, w.heap.size, _, heap_alloc2_new w _ _, rfl, rfl, rfl, rfl, heap_alloc2_old w _ _, rfl⟩, ((Below.refl _ _).alloc (Nat.le_refl _) _).alloc (by simp) _⟩

theorem node_look (h2 : Nat) (b1 b2 : Bool) (w : World) :
    Calls Try.prog 36 #[.bool b1, .bool b2, .pointer (some ⟨h2, 0, none⟩)] w fun e w' => ∃ h, e = .returned (.pointer (some ⟨h, 0, none⟩)) ∧ Wraps w' h h2 9 b1 b2 ∧ Below w.heap.size w w' := by
  go_enter Try.func36, Try.ntmps36
  go_wp2
  go_ret
  exact ⟨_, rfl, ⟨_, w.heap.size, _, heap_alloc2_new w _ _, rfl, rfl, rfl, rfl, heap_alloc2_old w _ _, rfl⟩, ((Below.refl _ _).alloc (Nat.le_refl _) _).alloc (by simp) _⟩

theorem new_comp (w : World) :
    Calls Try.prog 23 #[] w fun e w' => e = .returned (.pointer (some ⟨w.heap.size, 0, none⟩)) ∧ Comp w' w.heap.size (.slice none 0 0) [] ∧ Below w.heap.size w w' := by
  go_enter Try.func23, Try.ntmps23
  go_wp2
  go_ret
  exact ⟨rfl, ⟨heap_alloc_new w _, World.ownsRow_nil _ _ _ _⟩, (Below.refl _ _).alloc (Nat.le_refl _) _⟩

/-! ### 'zzBytesNode' -/
def ptrs (hs : List Nat) : List Value := hs.map fun h => .pointer (some ⟨h, 0, none⟩)
theorem subs_of {w : World} {base r cap : Nat} {fold : Bool} {bs : List Int} {hs : List Nat} (hown : w.ownsRow base 43 1 (.slice (some ⟨r, 0, none⟩) bs.length cap) bs.length (ptrs hs)) (hl : hs.length = bs.length) (hleaf : ∀ i, i < bs.length → Leaf w (hs.getD i 0) fold (bs.getD i 0)) : Subs w r fold bs := by
  obtain ⟨h1, h2⟩ := hown
  rcases h2 with ⟨h2, _⟩ | ⟨g', cap', cur, hv, hb, hh, hle, hm, hsz, ht⟩
  · cases h2
  · simp only [Value.slice.injEq, Option.some.injEq, Addr.mk.injEq] at hv
    obtain ⟨⟨rfl, _⟩, _, rfl⟩ := hv
    refine ⟨cur, hh, fun i hi => ⟨hs.getD i 0, ?_, hleaf i hi⟩⟩
    have e1 : cur[i]? = (cur.toList.take (bs.length * 1))[i]? := by rw [List.getElem?_take, if_pos (by omega)]; simp
    rw [e1, ht]
    simp [ptrs, List.getElem?_eq_getElem (show i < hs.length by omega)]

theorem owns_below {w w' : World} {base : Nat} {e : TypeId} {size : Nat} {v : Value} {n : Nat} {xs : List Value} (h : w.ownsRow base e size v n xs) (hb : Below w.heap.size w w') : w'.ownsRow base e size v n xs := by
  have hg : w.grownBy w' none := ⟨hb.os, hb.tape, hb.output, hb.size, fun k hk _ => hb.block k hk⟩
  refine h.kept hg ?_
  cases v.ownBlock with
  | none => exact .inl rfl
  | some k => exact .inr (by simp)
theorem getD_snoc_lt (l : List Nat) (a i : Nat) (h : i < l.length) : (l ++ [a]).getD i 0 = l.getD i 0 := by
  simp [List.getD_eq_getElem?_getD, List.getElem?_append_left h]
theorem getD_snoc_eq (l : List Nat) (a i : Nat) (h : l.length = i) : (l ++ [a]).getD i 0 = a := by
  subst h
  simp [List.getD_eq_getElem?_getD]
/-- A leaf stays a leaf behind an append to a row of pointers. -/
theorem leaf_grown {w w1 w' : World} {base r cap n : Nat} {xs : List Value} {h : Nat} {fold : Bool} {b : Int} (hl : Leaf w h fold b) (hk : Below w.heap.size w w1) (hown : w1.ownsRow base 43 1 (.slice (some ⟨r, 0, none⟩) n cap) n xs) (hg : w1.grownBy w' (some r)) : Leaf w' h fold b := by
  obtain ⟨cur, h1, h2, h3, h4⟩ := hl.kept (keeps_below hk)
  refine ⟨cur, ?_, h2, h3, h4⟩
  have hlt : h < w1.heap.size := by
    rcases Nat.lt_or_ge h w1.heap.size with h' | h'
    · exact h'
    · rw [Array.getElem?_eq_none (by omega)] at h1; cases h1
  rw [hg.block h hlt, h1]
  intro e
  simp only [Option.some.injEq] at e
  subst e
  obtain ⟨_, h5⟩ := hown
  rcases h5 with ⟨h5, _⟩ | ⟨g', cap', cur', hv, _, hh, _⟩
  · cases h5
  · simp only [Value.slice.injEq, Option.some.injEq, Addr.mk.injEq] at hv
    rw [← hv.1.1, h1] at hh
    simp at hh

set_option maxRecDepth 100000 in
set_option maxHeartbeats 1600000 in
theorem bytes_node (ao : Option Addr) (cap : Nat) (fold : Bool) (bs : List Int) (w : World) (hb : bs.length ≤ 66000) (h : Bytes w ao bs) :
    Calls Try.prog 34 #[.slice ao bs.length cap, .bool fold] w fun e w' => ∃ hd, e = .returned (.pointer (some ⟨hd, 0, none⟩)) ∧ BNode w' hd fold bs ∧ Below w.heap.size w w' := by
  obtain ⟨i0, hi, hz0, hz1, hz2⟩ := info_parts Try.info43
  go_enter Try.func34, Try.ntmps34
  go_wp2_with (first | (at_make; go_must (refine wpList_make_own _ rfl _ _ 42 rfl w.heap.size 43 i0 (.pointer none) 1 Try.underlying42 hi hz0 hz1 .i64 .i64 _ bs.length rfl rfl (by omega) ?c1 ?c2 (Nat.le_refl _) ?_)))
  case c1 => rw [hz2]; omega
  case c2 => unfold maxLen; omega
  intro w1 hown hgr
  have hb1 : Below w.heap.size w w1 := (Below.refl _ _).grown hgr (Nat.le_refl _) (fun k h => by cases h)
  clear hgr
  go_wp2
  go_loopw [5, 6] (fun s i wr => ∃ (k : Nat) (hs : List Nat), k ≤ bs.length ∧ i = .int .i64 k ∧ s = .slice (some ⟨w.heap.size, 0, none⟩) k bs.length ∧ hs.length = k ∧ wr.ownsRow w.heap.size 43 1 (.slice (some ⟨w.heap.size, 0, none⟩) k bs.length) k (ptrs hs) ∧ (∀ i, i < k → Leaf wr (hs.getD i 0) fold (bs.getD i 0)) ∧ Below w.heap.size w wr) (fun _ i _ => bs.length - (intOf i).toNat)
  case atStart => exact ⟨0, [], by omega, rfl, rfl, rfl, hown, fun i hi => by omega, hb1⟩
  case round =>
    clear hown hb1
    obtain ⟨k, hs, hk, rfl, rfl, hlen, hown, hleaf, hbw⟩ := hrel
    have HL : Hid (hs.length = k) := hlen
    clear hlen
    by_cases hlt : k < bs.length
    · obtain ⟨r, off, e, hc, hr⟩ := h k hlt
      cases e
      have hc' : wr.cell? ⟨r, off + k, none⟩ = some (.int .u8 (bs.getD k 0)) := (hbw.cell (p := ⟨r, off + k, none⟩) hr).trans hc
      clear hc
      generalize hbk : bs.getD k 0 = bk at hc'
      have HB : Hid (bs.getD k 0 = bk) := hbk
      clear hbk
      go_wp2_with fail
      refine (node_byte _ _ _).mono ?_
      rintro e w2 ⟨rfl, hlf, hb2, hsz⟩
      have HS : Hid (w2.heap.size = wr.heap.size + 1) := hsz
      have hge : wr.heap.size < w2.heap.size := by omega
      have hown2 : w2.ownsRow w.heap.size 43 1 (.slice (some ⟨w.heap.size, 0, none⟩) k bs.length) k (ptrs hs) := owns_below hown hb2
      clear hsz
      go_wp2_with (first | (at_builtin; go_must (refine wpList_append_fits _ rfl _ _ 42 rfl w.heap.size 43 i0 1 Try.underlying42 hi hz1 w.heap.size k bs.length (ptrs hs) rfl (hown2.alloc _) ⟨w2.heap.size, 0, none⟩ 1 1 [.pointer (some ⟨wr.heap.size, 0, none⟩)] rfl rfl ?d1 ?d2 (by omega) ?_)))
      case d1 => exact World.news_of_block (cs := #[.pointer (some ⟨wr.heap.size, 0, none⟩)]) (t := 43) (fr := (0, 0)) (heap_alloc_new w2 _)
      case d2 => intro u hu; simp at hu; subst hu; rfl
      intro w3 hown3 hgr3
      have hleaf3 : ∀ i, i < k + 1 → Leaf w3 ((hs ++ [wr.heap.size]).getD i 0) fold (bs.getD i 0) := by
        intro i hi
        by_cases e : i < k
        · have h1 := (hleaf i e).kept (keeps_below hb2)
          have h2 := leaf_grown h1 ((Below.refl _ _).alloc (Nat.le_refl _) _) (hown2.alloc _) hgr3
          rw [getD_snoc_lt hs _ i (by rw [HL.out]; exact e)]
          exact h2
        · obtain rfl : i = k := by omega
          have h2 := leaf_grown hlf ((Below.refl _ _).alloc (Nat.le_refl _) _) (hown2.alloc _) hgr3
          rw [getD_snoc_eq hs _ i HL.out, HB.out]
          exact h2
      have hown4 : w3.ownsRow w.heap.size 43 1 (.slice (some ⟨w.heap.size, 0, none⟩) (k + 1) bs.length) (k + 1) (ptrs (hs ++ [wr.heap.size])) := by
        have e : ptrs (hs ++ [wr.heap.size]) = ptrs hs ++ [.pointer (some ⟨wr.heap.size, 0, none⟩)] := by simp [ptrs]
        rw [e]; exact hown3
      have hb3 : Below w.heap.size w w3 := ((hbw.trans (hb2.mono hbw.size)).alloc (Nat.le_trans hbw.size hb2.size) _).grown hgr3 (by simp; have := hbw.size; have := hb2.size; omega) (fun j hj => by simp only [Option.some.injEq] at hj; omega)
      have HL3 : Hid ((hs ++ [wr.heap.size]).length = k + 1) := by unfold Hid; rw [List.length_append, HL.out]; rfl
      clear hown hown2 hown3 hgr3 hlf hb2 hleaf hbw hc' HB HL HS hge
      go_wp2
      go_roundw
      case rel => exact ⟨k + 1, hs ++ [wr.heap.size], by omega, by go_num, rfl, HL3.out, hown4, hleaf3, hb3⟩
      case measure => simp [intOf]; omega
    · have hkb : k = bs.length := by omega
      have hsub : Subs wr w.heap.size fold bs := subs_of (hs := hs) (by rw [← hkb] at hown ⊢; exact hown) (by rw [HL.out, hkb]) (fun i hi => hleaf i (by omega))
      have HK : Hid (k = bs.length) := hkb
      clear hkb hown hleaf HL
      go_wp2_with fail
      rw [HK.out]
      refine (node_concat _ _ fold bs _ hsub).mono ?_
      rintro e w2 ⟨rfl, hbn, hb2⟩
      go_wp2
      go_ret
      exact ⟨_, rfl, hbn, hbw.trans (hb2.mono hbw.size)⟩
end Go.Proofs.Qxb6604363a
