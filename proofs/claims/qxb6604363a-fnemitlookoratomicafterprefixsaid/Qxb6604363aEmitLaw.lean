import Derived.Test.Qxb6604363aReads
namespace Go.Proofs.Qxb6604363a
open Go.RowKit
set_option linter.unusedVariables false

/-! ### The gate, and 'ZZemit' -/
theorem gate_any (a0 a1 : Option Addr) (l0 c0 l1 c1 : Nat) (p q r s : Bool) (w : World) (h0 : l0 ≤ 9223372036854775807) (h1 : l1 ≤ 9223372036854775807) :
    Calls Try.prog 32 #[.slice a0 l0 c0, .slice a1 l1 c1, .bool p, .bool q, .bool r, .bool s] w fun e w' => ∃ b, e = .returned (.bool b) ∧ w' = w ∧ (l0 ≤ 65536 → l1 ≤ 65536 → b = true) := by
  by_cases d0 : l0 ≤ 1048576
  · by_cases d1 : l1 ≤ 1048576
    · by_cases d2 : l0 + l1 ≤ 1048576
      · go_enter Try.func32, Try.ntmps32
        go_wp2_with fail
        go_ret
        exact ⟨true, rfl, rfl, fun _ _ => rfl⟩
      · go_enter Try.func32, Try.ntmps32
        go_wp2_with fail
        go_ret
        exact ⟨false, rfl, rfl, fun _ _ => by omega⟩
    · go_enter Try.func32, Try.ntmps32
      go_wp2_with fail
      go_ret
      exact ⟨false, rfl, rfl, fun _ _ => by omega⟩
  · go_enter Try.func32, Try.ntmps32
    go_wp2_with fail
    go_ret
    exact ⟨false, rfl, rfl, fun _ _ => by omega⟩

theorem zzemit {a b : Value} {w : World} {R : World → Prop} (h : Calls Try.prog 43 #[a, b] w fun e w' => e = .returned (.tuple #[]) ∧ R w') :
    Calls Try.prog 24 #[a, b] w fun e w' => e = .returned (.tuple #[]) ∧ R w' := by
  go_enter Try.func24, Try.ntmps24
  go_wp2_with fail
  refine h.mono ?_
  rintro e w1 ⟨rfl, hr⟩
  go_wp2_with fail
  go_end0
  exact ⟨rfl, hr⟩

/-- A slice of bytes whose row the call made. -/
def BRow (w : World) (ao : Option Addr) (bs : List Int) : Prop := ∀ k, k < bs.length → ∃ r cur, ao = some ⟨r, 0, none⟩ ∧ w.heap[r]? = some (.cells cur 5 (0, 0)) ∧ ∀ i, i < bs.length → cur[i]? = some (.int .u8 (bs.getD i 0))
theorem BRow.kept {w w' : World} {ao : Option Addr} {bs : List Int} (h : BRow w ao bs) (k : Keeps w w') : BRow w' ao bs := fun i hi => by
  obtain ⟨r, cur, h1, h2, h3⟩ := h i hi
  exact ⟨r, cur, h1, k _ _ _ _ (by decide) (by decide) h2, h3⟩
theorem BRow.bytes {w : World} {ao : Option Addr} {bs : List Int} (h : BRow w ao bs) : Bytes w ao bs := fun i hi => by
  obtain ⟨r, cur, h1, h2, h3⟩ := h i hi
  refine ⟨r, 0, h1, ?_, ?_⟩
  · rw [Nat.zero_add]; exact cell_block h2 (h3 i hi)
  · rcases Nat.lt_or_ge r w.heap.size with h' | h'
    · exact h'
    · rw [Array.getElem?_eq_none (by omega)] at h2; cases h2
theorem BRow.cell {w : World} {ao : Option Addr} {bs : List Int} (h : BRow w ao bs) {k : Nat} (hk : k < bs.length) : ∃ r, ao = some ⟨r, 0, none⟩ ∧ w.cell? ⟨r, k, none⟩ = some (.int .u8 (bs.getD k 0)) := by
  obtain ⟨r, cur, h1, h2, h3⟩ := h k hk
  exact ⟨r, h1, cell_block h2 (h3 k hk)⟩

theorem split_at (f : Int → Ins) (bs : List Int) (k : Nat) (hk : k < bs.length) : bs.map f = (bs.take k).map f ++ f (bs.getD k 0) :: (bs.drop (k + 1)).map f := by
  have e : bs = bs.take k ++ bs.getD k 0 :: bs.drop (k + 1) := by
    rw [List.getD_eq_getElem?_getD, List.getElem?_eq_getElem hk, Option.getD_some, ← List.drop_eq_getElem_cons hk, List.take_append_drop]
  rw [← List.map_cons, ← List.map_append, ← e]

theorem whole_a (f : Int → Ins) (ps bs : List Int) (hd sub : Ins) (k : Nat) (hk : k < ps.length) :
    ps.map f ++ hd :: (bs.map f ++ [sub]) = (ps.take k).map f ++ f (ps.getD k 0) :: ((ps.drop (k + 1)).map f ++ hd :: (bs.map f ++ [sub])) := by
  rw [split_at f ps k hk]; simp
theorem whole_b (f : Int → Ins) (ps bs : List Int) (hd sub : Ins) (k : Nat) (hk : k < bs.length) :
    ps.map f ++ hd :: (bs.map f ++ [sub]) = (ps.map f ++ hd :: (bs.take k).map f) ++ f (bs.getD k 0) :: ((bs.drop (k + 1)).map f ++ [sub]) := by
  rw [split_at f bs k hk]; simp
theorem whole_c (f : Int → Ins) (ps bs : List Int) (hd sub : Ins) :
    ps.map f ++ hd :: (bs.map f ++ [sub]) = (ps.map f ++ hd :: bs.map f) ++ sub :: [] := by simp
theorem whole_len (f : Int → Ins) (ps bs : List Int) (hd sub : Ins) : (ps.map f ++ hd :: (bs.map f ++ [sub])).length = ps.length + bs.length + 2 := by simp; omega
def subI : Ins := ⟨15, false, 0, false, false, 0, 0, 0, 0⟩

/-! ### The law inside its bounds -/
set_option maxRecDepth 100000 in
set_option maxHeartbeats 6400000 in
theorem law_atomic (a0 a1 : Option Addr) (c0 c1 : Nat) (ps bs : List Int) (fold b1 b2 : Bool) (w : World) (h0 : ps.length ≤ 65536) (h1 : bs.length ≤ 65536) (ha : Bytes w a0 ps) (hb : Bytes w a1 bs) (n0 : a0 = none → c0 = 0) (n1 : a1 = none → c1 = 0) :
    Calls Try.prog 10 #[.slice a0 ps.length c0, .slice a1 bs.length c1, .bool fold, .bool b1, .bool b2, .bool true] w fun e w' => e = .returned (.bool true) ∧ Below w.heap.size w w' := by
  go_enter Try.func10, Try.ntmps10
  go_wp2_with fail
  refine (gate_any _ _ _ _ _ _ _ _ _ _ _ (by omega) (by omega)).mono ?_
  rintro e w0 ⟨b, rfl, rfl, hbt⟩
  obtain rfl := hbt h0 h1
  clear hbt
  go_wp2_with fail
  refine (clone_any a0 c0 ps _ (by omega) ha n0).mono ?_
  rintro e w1 ⟨a0', c0', rfl, B1, ra⟩
  have RA : BRow w1 a0' ps := ra
  have hb1 : Bytes w1 a1 bs := fun k hk => by
    obtain ⟨r, off, e1, e2, e3⟩ := hb k hk
    exact ⟨r, off, e1, (B1.cell (p := ⟨r, off + k, none⟩) e3).trans e2, Nat.lt_of_lt_of_le e3 B1.size⟩
  clear ra ha hb n0
  go_wp2_with fail
  refine (clone_any a1 c1 bs _ (by omega) hb1 n1).mono ?_
  rintro e w2 ⟨a1', c1', rfl, B2, rb⟩
  have RB : BRow w2 a1' bs := rb
  have RA2 := RA.kept (keeps_below B2)
  have B2' := B1.trans (B2.mono B1.size)
  clear rb hb1 n1 RA B1 B2
  go_wp2_with fail
  refine (new_comp _).mono ?_
  rintro e w3 ⟨rfl, hc3, B3⟩
  have RA3 := RA2.kept (keeps_below B3)
  have RB3 := RB.kept (keeps_below B3)
  have B3' := B2'.trans (B3.mono B2'.size)
  have hg : w0.heap.size ≤ w2.heap.size := B2'.size
  clear RA2 RB B2' B3
  generalize w2.heap.size = g at *
  clear w2
  go_wp2_with fail
  refine (bytes_node a0' c0' fold ps _ (by omega) RA3.bytes).mono ?_
  rintro e w4 ⟨hp, rfl, hn4, B4⟩
  have hc4 := hc3.below B4
  have RA4 := RA3.kept (keeps_below B4)
  have RB4 := RB3.kept (keeps_below B4)
  have B4' := B3'.trans (B4.mono B3'.size)
  clear RA3 RB3 B3' B4 hc3
  go_wp2_with fail
  refine (zzemit (emit_bytes [] g hp _ fold ps _ hc4 (by simp) (by omega) hn4)).mono ?_
  rintro e w5 ⟨rfl, v5, hc5, F5⟩
  have RA5 := RA4.kept F5.keeps
  have RB5 := RB4.kept F5.keeps
  have B5' := B4'.trans (F5.below.mono hg)
  rw [List.nil_append] at hc5
  clear RA4 RB4 B4' F5 hc4 hn4
  go_wp2_with fail
  refine (bytes_node a1' c1' fold bs _ (by omega) RB5.bytes).mono ?_
  rintro e w6 ⟨hs, rfl, hn6, B6⟩
  have hc6 := hc5.below B6
  have RA6 := RA5.kept (keeps_below B6)
  have RB6 := RB5.kept (keeps_below B6)
  have B6' := B5'.trans (B6.mono B5'.size)
  clear RA5 RB5 B5' B6 hc5
  go_wp2_with fail
  refine (node_atomic hs _).mono ?_
  rintro e w7 ⟨hw, rfl, hwr, B7⟩
  have hc7 := hc6.below B7
  have RA7 := RA6.kept (keeps_below B7)
  have RB7 := RB6.kept (keeps_below B7)
  have hn7 := hn6.kept (keeps_below B7)
  have B7' := B6'.trans (B7.mono B6'.size)
  clear RA6 RB6 B6' B7 hc6 hn6
  go_wp2_with fail
  refine (zzemit (emit_atomic _ g hw hs _ fold false false bs _ hc7 (by simp; omega) (by omega) hwr hn7)).mono ?_
  rintro e w8 ⟨rfl, v8, hc8, F8⟩
  have RA8 := RA7.kept F8.keeps
  have RB8 := RB7.kept F8.keeps
  have B8' := B7'.trans (F8.below.mono hg)
  rw [List.length_map] at hc8
  have hc : Comp w8 g v8 (ps.map (byteIns fold) ++ ⟨13, false, 0, false, false, 0, 0, 0, ps.length + bs.length + 2⟩ :: (bs.map (byteIns fold) ++ [subI])) := hc8
  clear RA7 RB7 B7' F8 hc7 hc8 hn7 hwr
  have HL := whole_len (byteIns fold) ps bs ⟨13, false, 0, false, false, 0, 0, 0, ps.length + bs.length + 2⟩ subI
  have hp26 := prog_len _ g _ w8 hc (by rw [HL]; omega)
  rw [HL] at hp26
  have HL' : Hid _ := HL
  clear HL
  go_wp2_with fail
  refine (hp26).mono ?_
  rintro e w9 ⟨rfl, rfl⟩
  clear hp26
  go_wp2_with fail
  go_loopw [12, 18] (fun r i wr => ∃ k : Nat, k ≤ ps.length ∧ r = .bool false ∧ i = .int .i64 k ∧ Comp wr g v8 (ps.map (byteIns fold) ++ ⟨13, false, 0, false, false, 0, 0, 0, ps.length + bs.length + 2⟩ :: (bs.map (byteIns fold) ++ [subI])) ∧ BRow wr a0' ps ∧ BRow wr a1' bs ∧ Below w0.heap.size w0 wr) (fun _ i _ => ps.length - (intOf i).toNat)
  case atStart => exact ⟨0, by omega, rfl, rfl, hc, RA8, RB8, B8'⟩
  case round =>
    clear hc RA8 RB8 B8'
    obtain ⟨k, hk, rfl, rfl, hc, RA, RB, B⟩ := hrel
    by_cases hlt : k < ps.length
    · obtain ⟨r, e, hcell⟩ := RA.cell hlt
      have hcw := hc
      rw [whole_a _ _ _ _ _ k hlt] at hcw
      have hlw := HL'.out
      rw [whole_a _ _ _ _ _ k hlt] at hlw
      have hkl : ((k : Nat) : Int) = ((ps.take k).map (byteIns fold)).length := by simp; omega
      generalize ps.getD k 0 = bk at hcell hcw hlw
      have hi := inst_is _ _ 0 fold bk false false 0 0 0 0 g v8 wr hcw (Nat.le_trans (Nat.le_of_eq hlw) (by omega)) k hkl
      clear hcw hlw hkl
      cases e
      go_wp2_with fail
      refine hi.mono ?_
      rintro e w2 ⟨rfl, hb2⟩
      have R := And.intro (hc.below hb2) (And.intro (RA.kept (keeps_below hb2)) (And.intro (RB.kept (keeps_below hb2)) (B.trans (hb2.mono B.size))))
      clear hi hc RA RB B hcell
      go_wp2
      go_roundw
      case rel => exact ⟨k + 1, by omega, rfl, by go_num, R.1, R.2.1, R.2.2.1, R.2.2.2⟩
      case measure => simp [intOf]; omega
    · have hi := inst_is (ps.map (byteIns fold)) (bs.map (byteIns fold) ++ [subI]) 13 false 0 false false 0 0 0 (ps.length + bs.length + 2) g v8 wr hc (Nat.le_trans (Nat.le_of_eq HL'.out) (by omega)) ps.length (by simp)
      go_wp2_with fail
      refine hi.mono ?_
      rintro e w2 ⟨rfl, hb2⟩
      have R := And.intro (hc.below hb2) (And.intro (RA.kept (keeps_below hb2)) (And.intro (RB.kept (keeps_below hb2)) (B.trans (hb2.mono B.size))))
      clear hi hc RA RB B hb2
      go_wp2_with fail
      go_loopw [12, 19] (fun r i wr => ∃ k : Nat, k ≤ bs.length ∧ r = .bool false ∧ i = .int .i64 k ∧ Comp wr g v8 (ps.map (byteIns fold) ++ ⟨13, false, 0, false, false, 0, 0, 0, ps.length + bs.length + 2⟩ :: (bs.map (byteIns fold) ++ [subI])) ∧ BRow wr a0' ps ∧ BRow wr a1' bs ∧ Below w0.heap.size w0 wr) (fun _ i _ => bs.length - (intOf i).toNat)
      case atStart => exact ⟨0, by omega, rfl, rfl, R.1, R.2.1, R.2.2.1, R.2.2.2⟩
      case round =>
        clear R
        obtain ⟨k2, hk2, rfl, rfl, hc, RA, RB, B⟩ := hrel
        by_cases hlt2 : k2 < bs.length
        · obtain ⟨r, e, hcell⟩ := RB.cell hlt2
          have hcw := hc
          rw [whole_b _ _ _ _ _ k2 hlt2] at hcw
          have hlw := HL'.out
          rw [whole_b _ _ _ _ _ k2 hlt2] at hlw
          have hkl : ((ps.length : Int) + 1 + (k2 : Int)) = (ps.map (byteIns fold) ++ (⟨13, false, 0, false, false, 0, 0, 0, ps.length + bs.length + 2⟩ : Ins) :: (bs.take k2).map (byteIns fold)).length := by simp; omega
          generalize bs.getD k2 0 = bk at hcell hcw hlw
          have hi := inst_is _ _ 0 fold bk false false 0 0 0 0 g v8 wr hcw (Nat.le_trans (Nat.le_of_eq hlw) (by omega)) _ hkl
          clear hcw hlw hkl
          cases e
          go_wp2_with fail
          refine hi.mono ?_
          rintro e w2 ⟨rfl, hb2⟩
          have R := And.intro (hc.below hb2) (And.intro (RA.kept (keeps_below hb2)) (And.intro (RB.kept (keeps_below hb2)) (B.trans (hb2.mono B.size))))
          clear hi hc RA RB B hcell
          go_wp2
          go_roundw
          case rel => exact ⟨k2 + 1, by omega, rfl, by go_num, R.1, R.2.1, R.2.2.1, R.2.2.2⟩
          case measure => simp [intOf]; omega
        · have hcw := hc
          rw [whole_c] at hcw
          have hlw := HL'.out
          rw [whole_c] at hlw
          have hkl : ((ps.length : Int) + (bs.length : Int) + 1) = (ps.map (byteIns fold) ++ (⟨13, false, 0, false, false, 0, 0, 0, ps.length + bs.length + 2⟩ : Ins) :: bs.map (byteIns fold)).length := by simp; omega
          have hi := inst_is _ _ 15 false 0 false false 0 0 0 0 g v8 wr hcw (Nat.le_trans (Nat.le_of_eq hlw) (by omega)) _ hkl
          clear hcw hlw hkl RA RB
          go_wp2_with fail
          refine hi.mono ?_
          rintro e w2 ⟨rfl, hb2⟩
          have hc2 := hc.below hb2
          have B2 := B.trans (hb2.mono B.size)
          clear hi hc B hb2
          go_wp2_with fail
          refine (counters_any _ g v8 _ hc2).mono ?_
          rintro e w3 ⟨rfl, hb3⟩
          have hc3 := hc2.below hb3
          have B3 := B2.trans (hb3.mono B2.size)
          clear hc2 B2 hb3
          go_wp2_with fail
          refine (class_count _ g v8 _ hc3).mono ?_
          rintro e w4 ⟨rfl, rfl⟩
          clear hc3
          go_wp2_with fail
          go_ret
          exact ⟨rfl, B3⟩

set_option maxRecDepth 100000 in
set_option maxHeartbeats 6400000 in
theorem law_look (a0 a1 : Option Addr) (c0 c1 : Nat) (ps bs : List Int) (fold b1 b2 : Bool) (w : World) (h0 : ps.length ≤ 65536) (h1 : bs.length ≤ 65536) (ha : Bytes w a0 ps) (hb : Bytes w a1 bs) (n0 : a0 = none → c0 = 0) (n1 : a1 = none → c1 = 0) :
    Calls Try.prog 10 #[.slice a0 ps.length c0, .slice a1 bs.length c1, .bool fold, .bool b1, .bool b2, .bool false] w fun e w' => e = .returned (.bool true) ∧ Below w.heap.size w w' := by
  go_enter Try.func10, Try.ntmps10
  go_wp2_with fail
  refine (gate_any _ _ _ _ _ _ _ _ _ _ _ (by omega) (by omega)).mono ?_
  rintro e w0 ⟨b, rfl, rfl, hbt⟩
  obtain rfl := hbt h0 h1
  clear hbt
  go_wp2_with fail
  refine (clone_any a0 c0 ps _ (by omega) ha n0).mono ?_
  rintro e w1 ⟨a0', c0', rfl, B1, ra⟩
  have RA : BRow w1 a0' ps := ra
  have hb1 : Bytes w1 a1 bs := fun k hk => by
    obtain ⟨r, off, e1, e2, e3⟩ := hb k hk
    exact ⟨r, off, e1, (B1.cell (p := ⟨r, off + k, none⟩) e3).trans e2, Nat.lt_of_lt_of_le e3 B1.size⟩
  clear ra ha hb n0
  go_wp2_with fail
  refine (clone_any a1 c1 bs _ (by omega) hb1 n1).mono ?_
  rintro e w2 ⟨a1', c1', rfl, B2, rb⟩
  have RB : BRow w2 a1' bs := rb
  have RA2 := RA.kept (keeps_below B2)
  have B2' := B1.trans (B2.mono B1.size)
  clear rb hb1 n1 RA B1 B2
  go_wp2_with fail
  refine (new_comp _).mono ?_
  rintro e w3 ⟨rfl, hc3, B3⟩
  have RA3 := RA2.kept (keeps_below B3)
  have RB3 := RB.kept (keeps_below B3)
  have B3' := B2'.trans (B3.mono B2'.size)
  have hg : w0.heap.size ≤ w2.heap.size := B2'.size
  clear RA2 RB B2' B3
  generalize w2.heap.size = g at *
  clear w2
  go_wp2_with fail
  refine (bytes_node a0' c0' fold ps _ (by omega) RA3.bytes).mono ?_
  rintro e w4 ⟨hp, rfl, hn4, B4⟩
  have hc4 := hc3.below B4
  have RA4 := RA3.kept (keeps_below B4)
  have RB4 := RB3.kept (keeps_below B4)
  have B4' := B3'.trans (B4.mono B3'.size)
  clear RA3 RB3 B3' B4 hc3
  go_wp2_with fail
  refine (zzemit (emit_bytes [] g hp _ fold ps _ hc4 (by simp) (by omega) hn4)).mono ?_
  rintro e w5 ⟨rfl, v5, hc5, F5⟩
  have RA5 := RA4.kept F5.keeps
  have RB5 := RB4.kept F5.keeps
  have B5' := B4'.trans (F5.below.mono hg)
  rw [List.nil_append] at hc5
  clear RA4 RB4 B4' F5 hc4 hn4
  go_wp2_with fail
  refine (bytes_node a1' c1' fold bs _ (by omega) RB5.bytes).mono ?_
  rintro e w6 ⟨hs, rfl, hn6, B6⟩
  have hc6 := hc5.below B6
  have RA6 := RA5.kept (keeps_below B6)
  have RB6 := RB5.kept (keeps_below B6)
  have B6' := B5'.trans (B6.mono B5'.size)
  clear RA5 RB5 B5' B6 hc5
  go_wp2_with fail
  refine (node_look hs b1 b2 _).mono ?_
  rintro e w7 ⟨hw, rfl, hwr, B7⟩
  have hc7 := hc6.below B7
  have RA7 := RA6.kept (keeps_below B7)
  have RB7 := RB6.kept (keeps_below B7)
  have hn7 := hn6.kept (keeps_below B7)
  have B7' := B6'.trans (B7.mono B6'.size)
  clear RA6 RB6 B6' B7 hc6 hn6
  go_wp2_with fail
  refine (zzemit (emit_look _ g hw hs _ fold b1 b2 bs _ hc7 (by simp; omega) (by omega) hwr hn7)).mono ?_
  rintro e w8 ⟨rfl, v8, hc8, F8⟩
  have RA8 := RA7.kept F8.keeps
  have RB8 := RB7.kept F8.keeps
  have B8' := B7'.trans (F8.below.mono hg)
  rw [List.length_map] at hc8
  have hc : Comp w8 g v8 (ps.map (byteIns fold) ++ ⟨12, false, 0, b1, b2, bs.length, 0, 0, ps.length + bs.length + 2⟩ :: (bs.map (byteIns fold) ++ [subI])) := hc8
  clear RA7 RB7 B7' F8 hc7 hc8 hn7 hwr
  have HL := whole_len (byteIns fold) ps bs ⟨12, false, 0, b1, b2, bs.length, 0, 0, ps.length + bs.length + 2⟩ subI
  have hp26 := prog_len _ g _ w8 hc (by rw [HL]; omega)
  rw [HL] at hp26
  have HL' : Hid _ := HL
  clear HL
  go_wp2_with fail
  refine (hp26).mono ?_
  rintro e w9 ⟨rfl, rfl⟩
  clear hp26
  go_wp2_with fail
  go_loopw [12, 18] (fun r i wr => ∃ k : Nat, k ≤ ps.length ∧ r = .bool false ∧ i = .int .i64 k ∧ Comp wr g v8 (ps.map (byteIns fold) ++ ⟨12, false, 0, b1, b2, bs.length, 0, 0, ps.length + bs.length + 2⟩ :: (bs.map (byteIns fold) ++ [subI])) ∧ BRow wr a0' ps ∧ BRow wr a1' bs ∧ Below w0.heap.size w0 wr) (fun _ i _ => ps.length - (intOf i).toNat)
  case atStart => exact ⟨0, by omega, rfl, rfl, hc, RA8, RB8, B8'⟩
  case round =>
    clear hc RA8 RB8 B8'
    obtain ⟨k, hk, rfl, rfl, hc, RA, RB, B⟩ := hrel
    by_cases hlt : k < ps.length
    · obtain ⟨r, e, hcell⟩ := RA.cell hlt
      have hcw := hc
      rw [whole_a _ _ _ _ _ k hlt] at hcw
      have hlw := HL'.out
      rw [whole_a _ _ _ _ _ k hlt] at hlw
      have hkl : ((k : Nat) : Int) = ((ps.take k).map (byteIns fold)).length := by simp; omega
      generalize ps.getD k 0 = bk at hcell hcw hlw
      have hi := inst_is _ _ 0 fold bk false false 0 0 0 0 g v8 wr hcw (Nat.le_trans (Nat.le_of_eq hlw) (by omega)) k hkl
      clear hcw hlw hkl
      cases e
      go_wp2_with fail
      refine hi.mono ?_
      rintro e w2 ⟨rfl, hb2⟩
      have R := And.intro (hc.below hb2) (And.intro (RA.kept (keeps_below hb2)) (And.intro (RB.kept (keeps_below hb2)) (B.trans (hb2.mono B.size))))
      clear hi hc RA RB B hcell
      go_wp2
      go_roundw
      case rel => exact ⟨k + 1, by omega, rfl, by go_num, R.1, R.2.1, R.2.2.1, R.2.2.2⟩
      case measure => simp [intOf]; omega
    · have hi := inst_is (ps.map (byteIns fold)) (bs.map (byteIns fold) ++ [subI]) 12 false 0 b1 b2 bs.length 0 0 (ps.length + bs.length + 2) g v8 wr hc (Nat.le_trans (Nat.le_of_eq HL'.out) (by omega)) ps.length (by simp)
      go_wp2_with fail
      refine hi.mono ?_
      rintro e w2 ⟨rfl, hb2⟩
      have R := And.intro (hc.below hb2) (And.intro (RA.kept (keeps_below hb2)) (And.intro (RB.kept (keeps_below hb2)) (B.trans (hb2.mono B.size))))
      clear hi hc RA RB B hb2
      go_wp2_with fail
      go_loopw [12, 19] (fun r i wr => ∃ k : Nat, k ≤ bs.length ∧ r = .bool false ∧ i = .int .i64 k ∧ Comp wr g v8 (ps.map (byteIns fold) ++ ⟨12, false, 0, b1, b2, bs.length, 0, 0, ps.length + bs.length + 2⟩ :: (bs.map (byteIns fold) ++ [subI])) ∧ BRow wr a0' ps ∧ BRow wr a1' bs ∧ Below w0.heap.size w0 wr) (fun _ i _ => bs.length - (intOf i).toNat)
      case atStart => exact ⟨0, by omega, rfl, rfl, R.1, R.2.1, R.2.2.1, R.2.2.2⟩
      case round =>
        clear R
        obtain ⟨k2, hk2, rfl, rfl, hc, RA, RB, B⟩ := hrel
        by_cases hlt2 : k2 < bs.length
        · obtain ⟨r, e, hcell⟩ := RB.cell hlt2
          have hcw := hc
          rw [whole_b _ _ _ _ _ k2 hlt2] at hcw
          have hlw := HL'.out
          rw [whole_b _ _ _ _ _ k2 hlt2] at hlw
          have hkl : ((ps.length : Int) + 1 + (k2 : Int)) = (ps.map (byteIns fold) ++ (⟨12, false, 0, b1, b2, bs.length, 0, 0, ps.length + bs.length + 2⟩ : Ins) :: (bs.take k2).map (byteIns fold)).length := by simp; omega
          generalize bs.getD k2 0 = bk at hcell hcw hlw
          have hi := inst_is _ _ 0 fold bk false false 0 0 0 0 g v8 wr hcw (Nat.le_trans (Nat.le_of_eq hlw) (by omega)) _ hkl
          clear hcw hlw hkl
          cases e
          go_wp2_with fail
          refine hi.mono ?_
          rintro e w2 ⟨rfl, hb2⟩
          have R := And.intro (hc.below hb2) (And.intro (RA.kept (keeps_below hb2)) (And.intro (RB.kept (keeps_below hb2)) (B.trans (hb2.mono B.size))))
          clear hi hc RA RB B hcell
          go_wp2
          go_roundw
          case rel => exact ⟨k2 + 1, by omega, rfl, by go_num, R.1, R.2.1, R.2.2.1, R.2.2.2⟩
          case measure => simp [intOf]; omega
        · have hcw := hc
          rw [whole_c] at hcw
          have hlw := HL'.out
          rw [whole_c] at hlw
          have hkl : ((ps.length : Int) + (bs.length : Int) + 1) = (ps.map (byteIns fold) ++ (⟨12, false, 0, b1, b2, bs.length, 0, 0, ps.length + bs.length + 2⟩ : Ins) :: bs.map (byteIns fold)).length := by simp; omega
          have hi := inst_is _ _ 15 false 0 false false 0 0 0 0 g v8 wr hcw (Nat.le_trans (Nat.le_of_eq hlw) (by omega)) _ hkl
          clear hcw hlw hkl RA RB
          go_wp2_with fail
          refine hi.mono ?_
          rintro e w2 ⟨rfl, hb2⟩
          have hc2 := hc.below hb2
          have B2 := B.trans (hb2.mono B.size)
          clear hi hc B hb2
          go_wp2_with fail
          refine (counters_any _ g v8 _ hc2).mono ?_
          rintro e w3 ⟨rfl, hb3⟩
          have hc3 := hc2.below hb3
          have B3 := B2.trans (hb3.mono B2.size)
          clear hc2 B2 hb3
          go_wp2_with fail
          refine (class_count _ g v8 _ hc3).mono ?_
          rintro e w4 ⟨rfl, rfl⟩
          clear hc3
          go_wp2_with fail
          go_ret
          exact ⟨rfl, B3⟩

/-! ### The law outside its bounds: true at once -/
theorem law_out (a0 a1 : Option Addr) (l0 c0 l1 c1 : Nat) (p q r s : Bool) (w : World) (h0 : l0 ≤ 9223372036854775807) (h1 : l1 ≤ 9223372036854775807) (h : 65536 < l0 ∨ 65536 < l1) :
    Calls Try.prog 10 #[.slice a0 l0 c0, .slice a1 l1 c1, .bool p, .bool q, .bool r, .bool s] w fun e w' => e = .returned (.bool true) ∧ Below w.heap.size w w' := by
  by_cases d : 65536 < l0
  · go_enter Try.func10, Try.ntmps10
    go_wp2_with fail
    refine (gate_any _ _ _ _ _ _ _ _ _ _ _ h0 h1).mono ?_
    rintro e w0 ⟨b, rfl, rfl, _⟩
    cases b
    · go_wp2_with fail
      go_ret
      exact ⟨rfl, Below.refl _ _⟩
    · go_wp2_with fail
      go_ret
      exact ⟨rfl, Below.refl _ _⟩
  · have d2 : 65536 < l1 := by omega
    go_enter Try.func10, Try.ntmps10
    go_wp2_with fail
    refine (gate_any _ _ _ _ _ _ _ _ _ _ _ h0 h1).mono ?_
    rintro e w0 ⟨b, rfl, rfl, _⟩
    cases b
    · go_wp2_with fail
      go_ret
      exact ⟨rfl, Below.refl _ _⟩
    · go_wp2_with fail
      go_ret
      exact ⟨rfl, Below.refl _ _⟩
end Go.Proofs.Qxb6604363a
