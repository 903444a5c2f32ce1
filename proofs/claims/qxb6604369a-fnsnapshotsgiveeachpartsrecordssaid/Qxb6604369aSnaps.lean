import Derived.Test.Qxb6604369aClos
namespace Go.Proofs.Qxb6604369a
open Go.RowKit
set_option linter.unusedVariables false

theorem Try.info42 : (Try.prog.info? 42).map (fun i => (i.zero, i.size, i.bytes)) = some (some (.pointer none), 1, 8) := by kernel_rfl

/-- The elements of the slice at ao: V 0, V 1, .., each a slice. -/
def Elems (w : World) (ao : Option Addr) (n : Nat) (V : Nat → Value) : Prop := ∀ j, j < n → ∃ b off a l c, ao = some ⟨b, off, none⟩ ∧ w.cell? ⟨b, off + j, none⟩ = some (.slice a l c) ∧ V j = .slice a l c

/-- What holds when the first k parts are made. -/
structure Made (w : World) (Pb C n k : Nat) (p I R : Nat → Nat) (V : Nat → Value) : Prop where
  row : ∃ cur : Array Value, w.heap[Pb]? = some (.cells cur 42 (0, 0)) ∧ cur.size = n
  calls : w.heap[C]? = some (.cells #[.slice none 0 0] 24 (0, 0))
  parts : ∀ j, j < k → Part w Pb C p I R V j
  high : ∀ j, j < k → Pb < p j ∧ Pb < I j ∧ Pb < R j
  ord : C < Pb

theorem made_start (w w1 : World) (n : Nat) (V : Nat → Value) (hown : w1.ownsRow w.heap.size 42 1 (.slice (some ⟨w.heap.size + 1, 0, none⟩) n n) n (madeCells #[Value.pointer none] n).toList)
    (hgr : (w.alloc (.cells #[.slice none 0 0] 24)).grownBy w1 none) : Made w1 (w.heap.size + 1) w.heap.size n 0 (fun _ => 0) (fun _ => 0) (fun _ => 0) V := by
  refine ⟨?_, ?_, fun j hj => by omega, fun j hj => by omega, by omega⟩
  · obtain ⟨h1, h2⟩ := hown
    rcases h2 with ⟨h2, _⟩ | ⟨g', cap, cur, hv, hb, hh, hle, hm, hs, ht⟩
    · simp at h2
    · simp at hv
      obtain ⟨rfl, rfl⟩ := hv
      exact ⟨cur, hh, by simpa using hs⟩
  · rw [hgr.block w.heap.size (by simp) (by simp)]
    exact heap_alloc_new w _

theorem owns_form {w : World} {base : Nat} {e : TypeId} {size : Nat} {v : Value} {n : Nat} {xs : List Value} (h : w.ownsRow base e size v n xs) : ∃ a c, v = .slice a n c := by
  obtain ⟨_, h2⟩ := h
  rcases h2 with ⟨h2, h3⟩ | ⟨g', cap', cur', hv, _⟩
  · exact ⟨none, 0, by rw [h2, h3]⟩
  · exact ⟨_, _, hv⟩
theorem owns_below {w w' : World} {base : Nat} {e : TypeId} {size : Nat} {v : Value} {n : Nat} {xs : List Value} (h : w.ownsRow base e size v n xs) (hb : Below w.heap.size w w') : w'.ownsRow base e size v n xs := by
  have hg : w.grownBy w' none := ⟨hb.os, hb.tape, hb.output, hb.size, fun k hk _ => hb.block k hk⟩
  refine h.kept hg ?_
  cases v.ownBlock with
  | none => exact .inl rfl
  | some k => exact .inr (by simp)
theorem owns_base {w : World} {base base' : Nat} {e : TypeId} {size : Nat} {v : Value} {n : Nat} {xs : List Value} (h : w.ownsRow base e size v n xs) (hb : base' ≤ base) : w.ownsRow base' e size v n xs := by
  obtain ⟨h1, h2⟩ := h
  refine ⟨h1, ?_⟩
  rcases h2 with h2 | ⟨g', cap', cur', hv, q, rest⟩
  · exact .inl h2
  · exact .inr ⟨g', cap', cur', hv, Nat.le_trans hb q, rest⟩

theorem three_allocs {w : World} {a : Addr} {u : Value} (h : w.cell? a = some u) (hf : w.frozen? a = false) : (∀ o1 o2 o3, (((w.alloc o1).alloc o2).alloc o3).cell? a = some u) ∧ ∀ o1 o2 o3, (((w.alloc o1).alloc o2).alloc o3).frozen? a = false := by
  have hb : ∀ o1 o2 o3, Below w.heap.size w (((w.alloc o1).alloc o2).alloc o3) := fun o1 o2 o3 => (((Below.refl _ _).alloc (Nat.le_refl _) _).alloc (by simp) _).alloc (by simp; omega) _
  exact ⟨fun o1 o2 o3 => ((hb o1 o2 o3).cell (lt_of_cell h)).trans h, fun o1 o2 o3 => ((hb o1 o2 o3).frozen (lt_of_cell h)).trans hf⟩

/-- A part more. -/
theorem made_step {w : World} {Pb C n k : Nat} {p I R : Nat → Nat} {V : Nat → Value} {a : Option Addr} {l c : Nat} (h : Made w Pb C n k p I R V) (hPl : Pb < w.heap.size) (hk : k < n) (hV : V k = .slice a l c) :
    Made ((((w.alloc (.cells #[.int .i64 (k : Int)] 3)).alloc (.cells #[.slice a l c] 28)).alloc (.cells #[.int .u8 0, .string ⟨#[]⟩, .nilIface, .nilFunc, .func (.func 20) #[] #[.pointer (some ⟨C, 0, none⟩), .pointer (some ⟨w.heap.size, 0, none⟩), .pointer (some ⟨w.heap.size + 1, 0, none⟩)], .nilFunc, .nilFunc, .pointer none, .int .i64 0] 50)).setCell
      ⟨Pb, k, none⟩ (.pointer (some ⟨w.heap.size + 1 + 1, 0, none⟩))) Pb C n (k + 1) (fun j => if j = k then w.heap.size + 1 + 1 else p j) (fun j => if j = k then w.heap.size else I j) (fun j => if j = k then w.heap.size + 1 else R j) V := by
  have hb : ∀ o1 o2 o3, Below w.heap.size w (((w.alloc o1).alloc o2).alloc o3) := fun o1 o2 o3 => (((Below.refl _ _).alloc (Nat.le_refl _) _).alloc (by simp) _).alloc (by simp; omega) _
  have old : ∀ o1 o2 o3 (x : Nat) (v : Value) (j : Nat), x < w.heap.size → x ≠ Pb → ((((w.alloc o1).alloc o2).alloc o3).setCell ⟨Pb, k, none⟩ v).cell? ⟨x, j, none⟩ = w.cell? ⟨x, j, none⟩ := fun o1 o2 o3 x v j hx hne =>
    (World.cell?_of_block (Below.heap_setCell _ ⟨Pb, k, none⟩ v x hne)).trans ((hb o1 o2 o3).cell (p := ⟨x, j, none⟩) hx)
  have new : ∀ o1 o2 o3 (x : Nat) (v : Value) (j : Nat), w.heap.size ≤ x → ((((w.alloc o1).alloc o2).alloc o3).setCell ⟨Pb, k, none⟩ v).cell? ⟨x, j, none⟩ = (((w.alloc o1).alloc o2).alloc o3).cell? ⟨x, j, none⟩ := fun o1 o2 o3 x v j hx =>
    World.cell?_of_block (Below.heap_setCell _ ⟨Pb, k, none⟩ v x (show x ≠ Pb by omega))
  obtain ⟨cur, r1, r2⟩ := h.row
  have hC := h.calls
  have hord := h.ord
  have row' : ∀ o1 o2 o3 v, ((((w.alloc o1).alloc o2).alloc o3).setCell ⟨Pb, k, none⟩ v).heap[Pb]? = some (.cells (cur.setIfInBounds k v) 42 (0, 0)) := fun o1 o2 o3 v =>
    heap_setCell_same _ Pb k cur 42 v (by rw [(hb o1 o2 o3).block Pb hPl]; exact r1)
  refine ⟨⟨_, row' _ _ _ _, by simpa using r2⟩, ?_, ?_, ?_, hord⟩
  · rw [Below.heap_setCell _ ⟨Pb, k, none⟩ _ C (show C ≠ Pb by omega), (hb _ _ _).block C (by omega)]; exact hC
  · intro j hj
    by_cases e : j = k
    · subst e
      refine ⟨?_, ?_, ?_, ?_, by omega, ?_, ?_, ?_⟩
      · rw [cell_of_row _ Pb j _ 42 (0, 0) (row' _ _ _ _), if_pos rfl]
        simp [r2, hk]
      · rw [if_pos rfl, if_pos rfl, if_pos rfl, new _ _ _ _ _ _ (by omega)]
        have : (w.heap.size + 1 + 1) = ((w.alloc (.cells #[.int .i64 (j : Int)] 3)).alloc (.cells #[.slice a l c] 28)).heap.size := by simp
        rw [this]
        exact cell_of_row _ _ 4 _ 50 (0, 0) (heap_alloc_new _ _)
      · rw [if_pos rfl, new _ _ _ _ _ _ (by omega)]
        have hbl : Below (w.heap.size + 1) (w.alloc (.cells #[.int .i64 (j : Int)] 3)) (((w.alloc (.cells #[.int .i64 (j : Int)] 3)).alloc (.cells #[.slice a l c] 28)).alloc (.cells #[.int .u8 0, .string ⟨#[]⟩, .nilIface, .nilFunc, .func (.func 20) #[] #[.pointer (some ⟨C, 0, none⟩), .pointer (some ⟨w.heap.size, 0, none⟩), .pointer (some ⟨w.heap.size + 1, 0, none⟩)], .nilFunc, .nilFunc, .pointer none, .int .i64 0] 50)) := ((Below.refl _ _).alloc (by simp) _).alloc (by simp) _
        rw [hbl.cell (p := ⟨w.heap.size, 0, none⟩) (Nat.lt_succ_self _)]
        exact cell_of_row _ _ 0 _ 3 (0, 0) (heap_alloc_new w _)
      · rw [if_pos rfl, new _ _ _ _ _ _ (by omega), hV]
        have hbl : Below (w.heap.size + 2) ((w.alloc (.cells #[.int .i64 (j : Int)] 3)).alloc (.cells #[.slice a l c] 28)) (((w.alloc (.cells #[.int .i64 (j : Int)] 3)).alloc (.cells #[.slice a l c] 28)).alloc (.cells #[.int .u8 0, .string ⟨#[]⟩, .nilIface, .nilFunc, .func (.func 20) #[] #[.pointer (some ⟨C, 0, none⟩), .pointer (some ⟨w.heap.size, 0, none⟩), .pointer (some ⟨w.heap.size + 1, 0, none⟩)], .nilFunc, .nilFunc, .pointer none, .int .i64 0] 50)) := (Below.refl _ _).alloc (by simp) _
        rw [hbl.cell (p := ⟨w.heap.size + 1, 0, none⟩) (Nat.lt_succ_self _)]
        exact cell_of_row _ _ 0 _ 28 (0, 0) (heap_alloc2_new w _ _)
      · rw [if_pos rfl]; omega
      · rw [if_pos rfl]; omega
      · rw [if_pos rfl]; omega
    · have hj' : j < k := by omega
      obtain ⟨c0, c1, c2, c3, n0, n1, n2, n3⟩ := h.parts j hj'
      obtain ⟨g1, g2, g3⟩ := h.high j hj'
      refine ⟨?_, ?_, ?_, ?_, n0, ?_, ?_, ?_⟩
      · rw [cell_of_row _ Pb j _ 42 (0, 0) (row' _ _ _ _), if_neg e, Array.getElem?_setIfInBounds_ne (Ne.symm e), ← cell_of_row w Pb j cur 42 (0, 0) r1]
        exact c0
      · rw [if_neg e, if_neg e, if_neg e, old _ _ _ (p j) _ _ (lt_of_cell c1) (Nat.ne_of_gt g1)]; exact c1
      · rw [if_neg e, old _ _ _ (I j) _ _ (lt_of_cell c2) (Nat.ne_of_gt g2)]; exact c2
      · rw [if_neg e, old _ _ _ (R j) _ _ (lt_of_cell c3) (Nat.ne_of_gt g3)]; exact c3
      · rw [if_neg e]; exact n1
      · rw [if_neg e]; exact n2
      · rw [if_neg e]; exact n3
  · intro j hj
    by_cases e : j = k
    · simp only [if_pos e]; omega
    · simp only [if_neg e]; exact h.high j (by omega)

set_option maxRecDepth 100000 in
set_option maxHeartbeats 3200000 in
theorem zz_snapshots (ao : Option Addr) (n cap : Nat) (V : Nat → Value) (w : World) (hn : n ≤ 65536) (hV : Elems w ao n V) :
    Calls Try.prog 17 #[.slice ao n cap] w fun e w' => ∃ gv tv, e = .returned (.tuple #[gv, tv]) ∧ w'.ownsRow w.heap.size 28 1 gv n ((List.range n).map V) ∧ w'.ownsRow w.heap.size 3 1 tv n (upTo n) ∧ Below w.heap.size w w' := by
  obtain ⟨i0, hi, hz0, hz1, hz2⟩ := info_parts Try.info42
  obtain ⟨i1, hi1, hy0, hy1, hy2⟩ := info_parts Try.info28
  go_enter Try.func17, Try.ntmps17
  go_wp2_with (first | (at_make; go_must (refine wpList_make_full _ rfl _ _ 41 rfl w.heap.size 42 i0 (.pointer none) 1 Try.underlying41 hi hz0 hz1 .i64 .i64 _ _ n rfl rfl (by omega) (by omega) ?c1 ?c2 ?c3 ?_)))
  case c1 => rw [hz2]; omega
  case c2 => unfold maxLen; omega
  case c3 => simp
  intro w1 hown hgr
  have hb0 : Below w.heap.size w (w.alloc (.cells #[.slice none 0 0] 24)) := (Below.refl _ _).alloc (Nat.le_refl _) _
  have hb1 : Below w.heap.size w w1 := hb0.grown hgr hb0.size (fun k h => by cases h)
  have hm1 : Made w1 (w.heap.size + 1) w.heap.size n 0 (fun _ => 0) (fun _ => 0) (fun _ => 0) V := made_start w w1 n V hown hgr
  clear hown hgr hb0
  go_wp2_with fail
  go_loopw [6, 7, 18] (fun a b t wr => ∃ (k : Nat) (p I R : Nat → Nat), k ≤ n ∧ t = .int .i64 k ∧ Made wr (w.heap.size + 1) w.heap.size n k p I R V ∧ Below w.heap.size w wr) (fun _ _ t _ => n - (intOf t).toNat)
  case atStart => exact ⟨0, _, _, _, by omega, rfl, hm1, hb1⟩
  case round =>
    clear hm1 hb1
    obtain ⟨k, p, I, R, hk, rfl, hm, hbw⟩ := hrel
    by_cases hlt : k < n
    · obtain ⟨b, off, a, l, c, rfl, hcell, hVk⟩ := hV k hlt
      have HV : Hid (V k = .slice a l c) := hVk
      have hc' : wr.cell? ⟨b, off + k, none⟩ = some (.slice a l c) := (hbw.cell (p := ⟨b, off + k, none⟩) (lt_of_cell hcell)).trans hcell
      have hlb := lt_of_cell hc'
      obtain ⟨cur, r1, r2⟩ := hm.row
      obtain ⟨u0, hP0⟩ : ∃ u, wr.cell? ⟨w.heap.size + 1, k, none⟩ = some u := ⟨cur[k]'(by omega), by rw [cell_of_row wr _ k cur 42 (0, 0) r1, Array.getElem?_eq_getElem]⟩
      have hPf : wr.frozen? ⟨w.heap.size + 1, k, none⟩ = false := frozen_of_row wr _ k cur 42 r1
      have hPl := lt_of_cell hP0
      obtain ⟨hP3, hPf3⟩ := three_allocs hP0 hPf
      have hmade := made_step hm hPl hlt HV.out
      clear hcell hVk hP0 hPf r1 r2 hm HV
      go_wp2
      go_roundw
      case rel => exact ⟨k + 1, _, _, _, by omega, by go_num, hmade, (((hbw.alloc hbw.size _).alloc (by simp; have := hbw.size; omega) _).alloc (by simp; have := hbw.size; omega) _).setCell (by simp) _⟩
      case measure => simp [intOf]; omega
    · have hkn : k = n := by omega
      have hpart : ∀ j, j < n → Part wr (w.heap.size + 1) w.heap.size p I R V j := fun j hj => hm.parts j (by omega)
      have hcalls := hm.calls
      have hlc : w.heap.size < wr.heap.size := by
        obtain ⟨cur, r1, _⟩ := hm.row
        rcases Nat.lt_or_ge (w.heap.size + 1) wr.heap.size with h' | h'
        · omega
        · rw [Array.getElem?_eq_none (by omega)] at r1; cases r1
      have HK : Hid (k = n) := hkn
      clear hkn hm
      go_wp2_with fail
      refine (snapshots_of (w.heap.size + 1) w.heap.size n p I R V _ hn hcalls hpart).mono ?_
      rintro e w2 ⟨rfl, hsn, ⟨tv, hC2, hown2⟩, hx2⟩
      have hp2 : ∀ j, j < n → Part w2 (w.heap.size + 1) w.heap.size p I R V j := fun j hj => (hpart j hj).kept hx2
      have hc2 : w2.cell? ⟨w.heap.size, 0, none⟩ = some tv := by rw [cell_of_row w2 _ 0 _ _ _ hC2]; rfl
      have hb2 : Below w.heap.size w w2 := ⟨hx2.os.trans hbw.os, hx2.tape.trans hbw.tape, hx2.output.trans hbw.output, Nat.le_trans hbw.size hx2.size, fun b hb => (hx2.block b (by omega) (by omega)).trans (hbw.block b hb)⟩
      obtain ⟨ta, tc, rfl⟩ : ∃ ta tc, tv = .slice ta n tc := owns_form hown2
      generalize wr.heap.size = S at *
      clear hpart hcalls hx2 hC2 hbw
      go_wp2_with fail
      go_loopw [10, 12, 37] (fun g q t wr => ∃ (k : Nat), k ≤ n ∧ t = .int .i64 k ∧ wr.ownsRow w2.heap.size 28 1 g k ((List.range k).map V) ∧ Below w2.heap.size w2 wr) (fun _ _ t _ => n - (intOf t).toNat)
      case atStart => exact ⟨0, by omega, rfl, World.ownsRow_nil _ _ _ _, Below.refl _ _⟩
      case round =>
        obtain ⟨k2, hk2, rfl, hog, hbr⟩ := hrel
        by_cases hlt2 : k2 < n
        · obtain ⟨_, _, a, l, c, hao, _, hVk⟩ := hV k2 hlt2
          clear hao
          have hR := (hp2 k2 hlt2).c3
          rw [hVk] at hR
          have hR' : wr.cell? ⟨R k2, 0, none⟩ = some (.slice a l c) := (hbr.cell (p := ⟨R k2, 0, none⟩) (lt_of_cell hR)).trans hR
          obtain ⟨cur, s1, s2, s3⟩ := hsn
          have hS : w2.cell? ⟨S, k2, none⟩ = some (.func (.func 21) #[] #[.pointer (some ⟨R k2, 0, none⟩)]) := by rw [cell_of_row w2 S k2 cur 43 (0, 0) s1]; exact s3 k2 hlt2
          have hS' : wr.cell? ⟨S, k2, none⟩ = some (.func (.func 21) #[] #[.pointer (some ⟨R k2, 0, none⟩)]) := (hbr.cell (p := ⟨S, k2, none⟩) (lt_of_cell hS)).trans hS
          have HV : Hid (V k2 = .slice a l c) := hVk
          clear hVk hR hS s1 s2 s3 hc2
          go_wp2_with fail
          refine (clo21 (R k2) a l c _ hR').mono ?_
          rintro e w3 ⟨rfl, rfl⟩
          have hbs := hbr.size
          go_wp2_with (first | (at_builtin; go_must (refine wpList_append_lies _ rfl _ _ 35 rfl w2.heap.size 28 i1 _ 1 24 Try.underlying35 hi1 hy0 hy1 hy2 rfl (by omega) u10 k2 ((List.range k2).map V) rfl (hog.alloc _) ⟨w3.heap.size, 0, none⟩ 1 1 [.slice a l c] rfl rfl ?d1 ?d2 (by omega) ?d3 ?d4 ?d5 (w3.heap.size + 1) (by simp) ?_)))
          case d1 => exact World.news_of_block (cs := #[.slice a l c]) (t := 28) (fr := (0, 0)) (heap_alloc_new w3 _)
          case d2 => intro u hu; simp at hu; subst hu; rfl
          case d3 => unfold maxLen; omega
          case d4 => omega
          case d5 => simp; omega
          intro g cap3 w4 hown4 hgrow hat hltg
          have hog4 : w4.ownsRow w2.heap.size 28 1 (.slice (some ⟨g, 0, none⟩) (k2 + 1) cap3) (k2 + 1) ((List.range (k2 + 1)).map V) := by
            rw [List.range_succ, List.map_append, List.map_singleton, HV.out]; exact hown4
          have hb4 : Below w2.heap.size w2 w4 := (hbr.alloc hbs _).grown hgrow (by simp; omega) (fun j hj => (hog.lt j hj).1)
          clear hog hown4 hgrow hat hltg hbr hR' hS'
          go_wp2
          go_roundw
          case rel => exact ⟨k2 + 1, by omega, by go_num, hog4, hb4⟩
          case measure => simp [intOf]; omega
        · have hkn : k2 = n := by omega
          have hog' : wr.ownsRow w.heap.size 28 1 u10 n ((List.range n).map V) := by rw [← hkn]; exact owns_base hog hb2.size
          have how' : wr.ownsRow w.heap.size 3 1 (.slice ta n tc) n (upTo n) := owns_base (owns_below hown2 hbr) (by omega)
          have hbf := hb2.trans (hbr.mono hb2.size)
          clear hkn hog hown2 hbr hp2 hc2 hsn
          go_wp2_with fail
          go_ret2
          exact ⟨u10, _, rfl, hog', how', hbf⟩
end Go.Proofs.Qxb6604369a
