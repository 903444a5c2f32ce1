import Derived.Test.Qxb6604404aBase
namespace Go.Proofs.Qxb6604404a
open Go.RowKit
set_option linter.unusedVariables false
theorem lt_of_heap {w : World} {g : Nat} {o : Obj} (h : w.heap[g]? = some o) : g < w.heap.size := by
  rcases Nat.lt_or_ge g w.heap.size with h0 | h0
  · exact h0
  · rw [Array.getElem?_eq_none h0] at h; cases h
theorem below_step {B : Nat} {w w1 w2 : World} (h : Below B w w1) (h2 : Below w1.heap.size w1 w2) (hB : B ≤ w1.heap.size) : Below B w w2 :=
  h.trans ⟨h2.os, h2.tape, h2.output, h2.size, fun b hb => h2.block b (by omega)⟩
theorem getElem?_put (cur : Array Value) (i j : Nat) (v : Value) (hi : i < cur.size) : (cur.setIfInBounds i v)[j]? = if i = j then some v else cur[j]? := by
  rw [Array.getElem?_setIfInBounds]
  by_cases h : i = j
  · subst h; simp [hi]
  · simp [h]
theorem RowP.put {w : World} {g t n k : Nat} {ps : List Pk} (h : RowP w g t n k ps) (hk : k < n) (pk : Pk) (hp : ps.getD k pk0 = pk) :
    RowP (((w.setCell ⟨g, k * 3, none⟩ (.int .u8 pk.b)).setCell ⟨g, k * 3 + 1, none⟩ (.string pk.nm)).setCell ⟨g, k * 3 + 2, none⟩ (.string pk.vl)) g t n (k + 1) ps := by
  obtain ⟨cur, h1, h2, h3⟩ := h
  refine ⟨_, heap_setCell_same _ g _ _ t _ (heap_setCell_same _ g _ _ t _ (heap_setCell_same _ g _ _ t _ h1)), by simp [h2], fun i hi => ?_⟩
  have e : ∀ j, (((cur.setIfInBounds (k * 3) (.int .u8 pk.b)).setIfInBounds (k * 3 + 1) (.string pk.nm)).setIfInBounds (k * 3 + 2) (.string pk.vl))[j]? = if k * 3 + 2 = j then some (.string pk.vl) else if k * 3 + 1 = j then some (.string pk.nm) else if k * 3 = j then some (.int .u8 pk.b) else cur[j]? := fun j => by
    rw [getElem?_put _ _ _ _ (by simp; omega), getElem?_put _ _ _ _ (by simp; omega), getElem?_put _ _ _ _ (by omega)]
  rw [e, e, e]
  by_cases hik : i = k
  · subst hik
    rw [hp]
    refine ⟨?_, ?_, ?_⟩
    · rw [if_neg (by omega), if_neg (by omega), if_pos rfl]
    · rw [if_neg (by omega), if_pos rfl]
    · rw [if_pos rfl]
  · obtain ⟨q1, q2, q3⟩ := h3 i (by omega)
    refine ⟨?_, ?_, ?_⟩
    · rw [if_neg (by omega), if_neg (by omega), if_neg (by omega)]; exact q1
    · rw [if_neg (by omega), if_neg (by omega), if_neg (by omega)]; exact q2
    · rw [if_neg (by omega), if_neg (by omega), if_neg (by omega)]; exact q3
theorem RowP.below {w w' : World} {g t n k : Nat} {ps : List Pk} (h : RowP w g t n k ps) (hb : Below w.heap.size w w') : RowP w' g t n k ps := by
  obtain ⟨cur, h1, h2, h3⟩ := h
  exact ⟨cur, by rw [hb.block g (lt_of_heap h1)]; exact h1, h2, h3⟩
theorem put3_below {B : Nat} {w0 w : World} (h : Below B w0 w) {g a b c : Nat} (hg : B ≤ g) (u v x : Value) : Below B w0 (((w.setCell ⟨g, a, none⟩ u).setCell ⟨g, b, none⟩ v).setCell ⟨g, c, none⟩ x) :=
  ((h.setCell (p := ⟨g, a, none⟩) hg _).setCell (p := ⟨g, b, none⟩) hg _).setCell (p := ⟨g, c, none⟩) hg _
set_option maxRecDepth 100000 in
set_option maxHeartbeats 1600000 in
theorem copy_picks (ao : Option Addr) (cap : Nat) (ps : List Pk) (w : World) (hn : ps.length ≤ 5000) (h : Picks w ao ps) (hnil : ao = none → cap = 0) :
    Calls Try.prog 10 #[.slice ao ps.length cap] w fun e w' => ∃ ao' cap', e = .returned (.slice ao' ps.length cap') ∧ Picks w' ao' ps ∧ (ao' = none → cap' = 0) ∧ Below w.heap.size w w' := by
  have hq := fun wx => Lib.run_eql_slice_nil (P := Try.prog) wx 23 38 ao ps.length cap 0 0 Try.underlying23
  obtain ⟨i0, hi, hz0, hz1, hz2⟩ := info_parts Try.info38
  cases ao with
  | none =>
    have hlen : ps.length = 0 := by
      rcases Nat.eq_zero_or_pos ps.length with h0 | h0
      · exact h0
      · obtain ⟨_, _, e, _⟩ := h 0 h0; cases e
    obtain rfl := List.eq_nil_of_length_eq_zero hlen
    obtain rfl := hnil rfl
    clear hnil h hlen
    simp only [Option.isNone_none, List.length_nil] at hq ⊢
    go_enter Try.func10, Try.ntmps10
    go_wp2_with fail
    go_ret
    exact ⟨none, 0, rfl, fun i hi => absurd hi (by simp), fun _ => rfl, Below.refl _ _⟩
  | some x =>
    clear hnil
    simp only [Option.isNone_some] at hq
    go_enter Try.func10, Try.ntmps10
    go_wp2_with (first | (at_make; go_must (refine wpList_make_full _ rfl _ _ 23 rfl w.heap.size 38 i0 _ 3 Try.underlying23 hi hz0 hz1 .i64 .i64 _ _ ps.length rfl rfl (by omega) (by omega) ?c1 ?c2 (Nat.le_refl _) ?_)))
    case c1 => rw [hz2]; omega
    case c2 => unfold maxLen; omega
    intro w1 hown hgr
    have hs1 : RowP w1 w.heap.size 38 ps.length 0 ps := rowP_made hown
    have hb1 : Below w.heap.size w w1 := (Below.refl _ _).grown hgr (Nat.le_refl _) (fun k h => by cases h)
    clear hown hgr hq
    go_wp2
    go_loopw [4] (fun i wr => ∃ k : Nat, k ≤ ps.length ∧ i = .int .i64 k ∧ RowP wr w.heap.size 38 ps.length k ps ∧ Below w.heap.size w wr) (fun i _ => ps.length - (intOf i).toNat)
    case atStart => exact ⟨0, by omega, rfl, hs1, hb1⟩
    case round =>
      clear hs1 hb1
      obtain ⟨k, hk, rfl, hs, hbw⟩ := hrel
      by_cases hlt : k < ps.length
      · obtain ⟨g, off, e, hp⟩ := h k hlt
        cases e
        obtain ⟨p0, p1, p2⟩ := hp.below hbw (lt_of_cell hp.1)
        obtain ⟨f0, u0, c0⟩ := hs.free (k * 3) (by omega)
        obtain ⟨f1, u1, c1⟩ := hs.free (k * 3 + 1) (by omega)
        obtain ⟨f2, u2, c2⟩ := hs.free (k * 3 + 2) (by omega)
        generalize hpk : ps.getD k pk0 = pk at p0 p1 p2
        have HP : Hid (ps.getD k pk0 = pk) := hpk
        clear hpk hp
        go_wp2
        go_roundw
        case rel => exact ⟨k + 1, by omega, by go_num, hs.put hlt pk HP, put3_below hbw (Nat.le_refl _) _ _ _⟩
        case measure => simp [intOf]; omega
      · go_wp2
        go_ret
        obtain rfl : k = ps.length := by omega
        exact ⟨_, _, rfl, hs.picks, fun h => (by cases h), hbw⟩
set_option maxRecDepth 100000 in
set_option maxHeartbeats 1600000 in
theorem zz_picks (ao : Option Addr) (cap : Nat) (ps : List Pk) (w : World) (hn : ps.length ≤ 5000) (h : Picks w ao ps) (hnil : ao = none → cap = 0) :
    Calls Try.prog 13 #[.slice ao ps.length cap] w fun e w' => ∃ ao' cap', e = .returned (.slice ao' ps.length cap') ∧ Picks w' ao' ps ∧ (ao' = none → cap' = 0) ∧ Below w.heap.size w w' := by
  have hq := fun wx => Lib.run_eql_slice_nil (P := Try.prog) wx 23 38 ao ps.length cap 0 0 Try.underlying23
  obtain ⟨i0, hi, hz0, hz1, hz2⟩ := info_parts Try.info35
  cases ao with
  | none =>
    have hlen : ps.length = 0 := by
      rcases Nat.eq_zero_or_pos ps.length with h0 | h0
      · exact h0
      · obtain ⟨_, _, e, _⟩ := h 0 h0; cases e
    obtain rfl := List.eq_nil_of_length_eq_zero hlen
    obtain rfl := hnil rfl
    clear hnil h hlen
    simp only [Option.isNone_none, List.length_nil] at hq ⊢
    go_enter Try.func13, Try.ntmps13
    go_wp2_with fail
    go_ret
    exact ⟨none, 0, rfl, fun i hi => absurd hi (by simp), fun _ => rfl, Below.refl _ _⟩
  | some x =>
    clear hnil
    simp only [Option.isNone_some] at hq
    go_enter Try.func13, Try.ntmps13
    go_wp2_with (first | (at_make; go_must (refine wpList_make_full _ rfl _ _ 32 rfl w.heap.size 35 i0 _ 3 Try.underlying32 hi hz0 hz1 .i64 .i64 _ _ ps.length rfl rfl (by omega) (by omega) ?c1 ?c2 (Nat.le_refl _) ?_)))
    case c1 => rw [hz2]; omega
    case c2 => unfold maxLen; omega
    intro w1 hown hgr
    have hs1 : RowP w1 w.heap.size 35 ps.length 0 ps := rowP_made hown
    have hb1 : Below w.heap.size w w1 := (Below.refl _ _).grown hgr (Nat.le_refl _) (fun k h => by cases h)
    clear hown hgr hq
    go_wp2
    go_loopw [4] (fun i wr => ∃ k : Nat, k ≤ ps.length ∧ i = .int .i64 k ∧ RowP wr w.heap.size 35 ps.length k ps ∧ Below w.heap.size w wr) (fun i _ => ps.length - (intOf i).toNat)
    case atStart => exact ⟨0, by omega, rfl, hs1, hb1⟩
    case round =>
      clear hs1 hb1
      obtain ⟨k, hk, rfl, hs, hbw⟩ := hrel
      by_cases hlt : k < ps.length
      · obtain ⟨g, off, e, hp⟩ := h k hlt
        cases e
        obtain ⟨p0, p1, p2⟩ := hp.below hbw (lt_of_cell hp.1)
        obtain ⟨f0, u0, c0⟩ := hs.free (k * 3) (by omega)
        obtain ⟨f1, u1, c1⟩ := hs.free (k * 3 + 1) (by omega)
        obtain ⟨f2, u2, c2⟩ := hs.free (k * 3 + 2) (by omega)
        generalize hpk : ps.getD k pk0 = pk at p0 p1 p2
        have HP : Hid (ps.getD k pk0 = pk) := hpk
        clear hpk hp
        go_wp2
        go_region
        go_wp2
        go_roundw
        case rel => exact ⟨k + 1, by omega, by go_num, hs.put hlt pk HP, (put3_below hbw (Nat.le_refl _) _ _ _).drew⟩
        case measure => simp [intOf]; omega
      · go_wp2
        go_ret
        obtain rfl : k = ps.length := by omega
        exact ⟨_, _, rfl, hs.picks, fun h => (by cases h), hbw⟩

set_option maxRecDepth 100000 in
set_option maxHeartbeats 1600000 in
theorem pick_in (p : Pk) (w : World) : Calls Try.prog 26 #[.agg #[.int .u8 p.b, .string p.nm, .string p.vl]] w fun e w' => e = .returned (.agg #[.int .u8 p.b, .string p.nm, .string p.vl]) ∧ Below w.heap.size w w' := by
  go_enter Try.func26, Try.ntmps26
  go_wp2
  refine bodyPost_ret (v := .agg #[.int .u8 p.b, .string p.nm, .string p.vl]) (by simp [results, Try.results26, go_sem]) rfl ⟨rfl, ?_⟩
  exact ((Below.refl _ _).alloc (Nat.le_refl _) _).alloc (by simp) _
set_option maxRecDepth 100000 in
set_option maxHeartbeats 1600000 in
theorem picks_in (ao : Option Addr) (cap : Nat) (ps : List Pk) (w : World) (hn : ps.length ≤ 5000) (h : Picks w ao ps) (hnil : ao = none → cap = 0) :
    Calls Try.prog 28 #[.slice ao ps.length cap] w fun e w' => ∃ ao' cap', e = .returned (.slice ao' ps.length cap') ∧ Picks w' ao' ps ∧ (ao' = none → cap' = 0) ∧ (∀ a, ao' = some a → a = ⟨a.block, a.off, none⟩) ∧ Below w.heap.size w w' := by
  have hq := fun wx => Lib.run_eql_slice_nil (P := Try.prog) wx 32 35 ao ps.length cap 0 0 Try.underlying32
  obtain ⟨i0, hi, hz0, hz1, hz2⟩ := info_parts Try.info65
  cases ao with
  | none =>
    have hlen : ps.length = 0 := by
      rcases Nat.eq_zero_or_pos ps.length with h0 | h0
      · exact h0
      · obtain ⟨_, _, e, _⟩ := h 0 h0; cases e
    obtain rfl := List.eq_nil_of_length_eq_zero hlen
    obtain rfl := hnil rfl
    clear hnil h hlen
    simp only [Option.isNone_none, List.length_nil] at hq ⊢
    go_enter Try.func28, Try.ntmps28
    go_wp2_with fail
    go_ret
    exact ⟨none, 0, rfl, fun i hi => absurd hi (by simp), fun _ => rfl, (fun a h => by cases h), Below.refl _ _⟩
  | some x =>
    clear hnil
    simp only [Option.isNone_some] at hq
    go_enter Try.func28, Try.ntmps28
    go_wp2_with (first | (at_make; go_must (refine wpList_make_full _ rfl _ _ 71 rfl w.heap.size 65 i0 _ 3 Try.underlying71 hi hz0 hz1 .i64 .i64 _ _ ps.length rfl rfl (by omega) (by omega) ?c1 ?c2 (Nat.le_refl _) ?_)))
    case c1 => rw [hz2]; omega
    case c2 => unfold maxLen; omega
    intro w1 hown hgr
    have hs1 : RowP w1 w.heap.size 65 ps.length 0 ps := rowP_made hown
    have hb1 : Below w.heap.size w w1 := (Below.refl _ _).grown hgr (Nat.le_refl _) (fun k h => by cases h)
    clear hown hgr hq
    go_wp2
    go_loopw [12] (fun i wr => ∃ k : Nat, k ≤ ps.length ∧ i = .int .i64 k ∧ RowP wr w.heap.size 65 ps.length k ps ∧ Below w.heap.size w wr) (fun i _ => ps.length - (intOf i).toNat)
    case atStart => exact ⟨0, by omega, rfl, hs1, hb1⟩
    case round =>
      clear hs1 hb1
      obtain ⟨k, hk, rfl, hs, hbw⟩ := hrel
      by_cases hlt : k < ps.length
      · obtain ⟨g, off, e, hp⟩ := h k hlt
        cases e
        obtain ⟨p0, p1, p2⟩ := hp.below hbw (lt_of_cell hp.1)
        generalize hpk : ps.getD k pk0 = pk at p0 p1 p2
        have HP : Hid (ps.getD k pk0 = pk) := hpk
        clear hpk hp
        go_wp2_with fail
        refine (pick_in pk wr).mono ?_
        rintro e w2 ⟨rfl, hb2⟩
        have hs2 := hs.below hb2
        have hb3 : Below w.heap.size w w2 := below_step hbw hb2 (Nat.le_of_lt (lt_of_heap hs.choose_spec.1))
        clear p0 p1 p2
        obtain ⟨f0, u0, c0⟩ := hs2.free (k * 3) (by omega)
        obtain ⟨f1, u1, c1⟩ := hs2.free (k * 3 + 1) (by omega)
        obtain ⟨f2, u2, c2⟩ := hs2.free (k * 3 + 2) (by omega)
        clear hb2
        go_wp2
        go_roundw
        case rel => exact ⟨k + 1, by omega, by go_num, hs2.put hlt pk HP, put3_below hb3 (Nat.le_refl _) _ _ _⟩
        case measure => simp [intOf]; omega
      · go_wp2
        go_ret
        obtain rfl : k = ps.length := by omega
        exact ⟨_, _, rfl, hs.picks, fun h => (by cases h), (fun a h => by cases h; rfl), hbw⟩
end Go.Proofs.Qxb6604404a
