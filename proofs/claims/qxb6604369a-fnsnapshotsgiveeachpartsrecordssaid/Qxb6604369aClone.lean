import Derived.Test.Qxb6604369aBig
namespace Go.Proofs.Qxb6604369a
open Go.RowKit
set_option linter.unusedVariables false

theorem Try.info5 : (Try.prog.info? 5).map (fun i => (i.zero, i.size, i.bytes)) = some (some (.int .u8 0), 1, 1) := by kernel_rfl
theorem Try.info22 : (Try.prog.info? 22).map (fun i => (i.zero, i.size, i.bytes)) = some (some (.slice none 0 0), 1, 24) := by kernel_rfl
theorem Try.info28 : (Try.prog.info? 28).map (fun i => (i.zero, i.size, i.bytes)) = some (some (.slice none 0 0), 1, 24) := by kernel_rfl

/-! ### SLICES WHOSE CELLS LIE FROM BLOCK B ON -/
def Shb (w : World) (B : Nat) (E : Value → Prop) (L : Nat) (v : Value) : Prop :=
  ∃ ao len cap, v = .slice ao len cap ∧ len ≤ L ∧ (ao = none → len = 0 ∧ cap = 0) ∧ ∀ i, i < len → ∃ b off u, ao = some ⟨b, off, none⟩ ∧ B ≤ b ∧ w.cell? ⟨b, off + i, none⟩ = some u ∧ E u
def Shb1 (w : World) (B L : Nat) : Value → Prop := Shb w B Byte L
def Shb2 (w : World) (B L M : Nat) : Value → Prop := Shb w B (Shb1 w B M) L
theorem Shb.sh {w : World} {B : Nat} {E E' : Value → Prop} {L : Nat} {v : Value} (h : Shb w B E L v) (he : ∀ u, E u → E' u) : Sh w E' L v := by
  obtain ⟨ao, len, cap, e, hl, hn, hc⟩ := h
  exact ⟨ao, len, cap, e, hl, hn, fun i hi => by obtain ⟨b, off, u, e1, _, e2, e3⟩ := hc i hi; exact ⟨b, off, u, e1, e2, he u e3⟩⟩
/-- From block B on, what was there is as it was. -/
def KB (B : Nat) (w w' : World) : Prop := ∀ k, B ≤ k → k < w.heap.size → w'.heap[k]? = w.heap[k]?
theorem Shb.kept {w w' : World} {B B' : Nat} {E E' : Value → Prop} {L : Nat} {v : Value} (h : Shb w B E L v) (hb : KB B w w') (hB : B' ≤ B) (he : ∀ u, E u → E' u) : Shb w' B' E' L v := by
  obtain ⟨ao, len, cap, e, hl, hn, hc⟩ := h
  refine ⟨ao, len, cap, e, hl, hn, fun i hi => ?_⟩
  obtain ⟨b, off, u, e1, e0, e2, e3⟩ := hc i hi
  exact ⟨b, off, u, e1, by omega, (World.cell?_of_block (w := w) (hb b e0 (lt_of_cell e2))).trans e2, he u e3⟩
theorem Shb1.kept {w w' : World} {B B' L : Nat} {v : Value} (h : Shb1 w B L v) (hb : KB B w w') (hB : B' ≤ B) : Shb1 w' B' L v := Shb.kept h hb hB (fun _ h => h)
theorem Shb2.kept {w w' : World} {B B' L M : Nat} {v : Value} (h : Shb2 w B L M v) (hb : KB B w w') (hB : B' ≤ B) : Shb2 w' B' L M v := Shb.kept h hb hB (fun _ h => h.kept hb hB)
theorem kb_below {B : Nat} {w w' : World} (h : Below w.heap.size w w') : KB B w w' := fun k _ hk => h.block k hk
theorem kb_refl (B : Nat) (w : World) : KB B w w := fun _ _ _ => rfl
theorem kb_setCell {B : Nat} {w : World} {a : Addr} (h : a.block < B) (v : Value) : KB B w (w.setCell a v) := fun k hk _ => Below.heap_setCell w a v k (by omega)

/-- A row that the call made: n cells, each as E says. -/
def RowAll (w : World) (g t n : Nat) (E : Value → Prop) : Prop := ∃ cur : Array Value, w.heap[g]? = some (.cells cur t (0, 0)) ∧ cur.size = n ∧ ∀ i, i < n → ∃ u, cur[i]? = some u ∧ E u
theorem RowAll.at {w : World} {g t n : Nat} {E : Value → Prop} (h : RowAll w g t n E) {i : Nat} (hi : i < n) : ∃ u, w.cell? ⟨g, i, none⟩ = some u ∧ E u ∧ w.frozen? ⟨g, i, none⟩ = false := by
  obtain ⟨cur, h1, h2, h3⟩ := h
  obtain ⟨u, h4, h5⟩ := h3 i hi
  exact ⟨u, by simp [World.cell?, h1, h4], h5, by simp [World.frozen?, h1]⟩
theorem RowAll.lt {w : World} {g t n : Nat} {E : Value → Prop} (h : RowAll w g t n E) : g < w.heap.size := by
  obtain ⟨cur, h1, _⟩ := h
  rcases Nat.lt_or_ge g w.heap.size with h' | h'
  · exact h'
  · rw [Array.getElem?_eq_none (by omega)] at h1; cases h1
theorem RowAll.below {w w' : World} {g t n : Nat} {E E' : Value → Prop} (h : RowAll w g t n E) (hb : w'.heap[g]? = w.heap[g]?) (he : ∀ u, E u → E' u) : RowAll w' g t n E' := by
  obtain ⟨cur, h1, h2, h3⟩ := h
  exact ⟨cur, by rw [hb]; exact h1, h2, fun i hi => by obtain ⟨u, a, b⟩ := h3 i hi; exact ⟨u, a, he u b⟩⟩
theorem RowAll.put {w : World} {g t n : Nat} {E E' : Value → Prop} (h : RowAll w g t n E) (i : Nat) (v : Value) (hv : E' v) (he : ∀ u, E u → E' u) : RowAll (w.setCell ⟨g, i, none⟩ v) g t n E' := by
  obtain ⟨cur, h1, h2, h3⟩ := h
  refine ⟨cur.setIfInBounds i v, ?_, by simpa using h2, fun j hj => ?_⟩
  · simp [World.setCell, Array.getElem?_modify, h1]
  · by_cases e : i = j
    · subst e
      exact ⟨v, by simp [h2, hj], hv⟩
    · obtain ⟨u, a, b⟩ := h3 j hj
      exact ⟨u, by rw [Array.getElem?_setIfInBounds_ne e]; exact a, he u b⟩
theorem rowAll_made {w : World} {base g n : Nat} {e : TypeId} {z : Value} {E : Value → Prop} (hz : E z) (h : w.ownsRow base e 1 (.slice (some ⟨g, 0, none⟩) n n) n (madeCells #[z] n).toList) : RowAll w g e n E := by
  obtain ⟨h1, h2⟩ := h
  rcases h2 with ⟨h2, _⟩ | ⟨g', cap, cur, hv, hb, hh, hle, hm, hs, ht⟩
  · simp at h2
  · simp at hv
    obtain ⟨rfl, rfl⟩ := hv
    simp only [Nat.mul_one] at hs ht
    refine ⟨cur, hh, hs, fun i hi => ⟨z, ?_, hz⟩⟩
    have e1 : cur.toList.take n = cur.toList := List.take_of_length_le (by simp [hs])
    rw [e1] at ht
    have e2 : cur[i]? = cur.toList[i]? := by simp
    rw [e2, ht, toList_madeCells_one]
    simp [hi]

set_option maxRecDepth 100000 in
set_option maxHeartbeats 1600000 in
/-- 'zzCloneBytes': a slice in new memory. -/
theorem clone_bytes (v : Value) (w : World) (h : Sh1 w 1048576 v) :
    Calls Try.prog 9 #[v] w fun e w' => ∃ v', e = .returned v' ∧ Shb1 w' w.heap.size 1048576 v' ∧ Below w.heap.size w w' := by
  obtain ⟨ao, n, cap, rfl, hn, hnil, hc⟩ := h
  have hq := fun wx => Lib.run_eql_slice_nil (P := Try.prog) wx 22 5 ao n cap 0 0 Try.underlying22
  obtain ⟨i0, hi, hz0, hz1, hz2⟩ := info_parts Try.info5
  cases ao with
  | none =>
    obtain ⟨rfl, rfl⟩ := hnil rfl
    clear hnil
    simp only [Option.isNone_none] at hq
    go_enter Try.func9, Try.ntmps9
    go_wp2_with fail
    go_ret
    exact ⟨_, rfl, ⟨none, 0, 0, rfl, by omega, fun _ => ⟨rfl, rfl⟩, fun i hi => by omega⟩, Below.refl _ _⟩
  | some x =>
    clear hnil
    simp only [Option.isNone_some] at hq
    go_enter Try.func9, Try.ntmps9
    go_wp2_with (first | (at_make; go_must (refine wpList_make_full _ rfl _ _ 22 rfl w.heap.size 5 i0 (.int .u8 0) 1 Try.underlying22 hi hz0 hz1 .i64 .i64 _ _ n rfl rfl (by omega) (by omega) ?c1 ?c2 (Nat.le_refl _) ?_)))
    case c1 => rw [hz2]; omega
    case c2 => unfold maxLen; omega
    intro w1 hown hgr
    have hs1 : RowAll w1 w.heap.size 5 n Byte := rowAll_made ⟨0, rfl⟩ hown
    have hb1 : Below w.heap.size w w1 := (Below.refl _ _).grown hgr (Nat.le_refl _) (fun k h => by cases h)
    clear hown hgr hq
    go_wp2
    go_loopw [4] (fun i wr => ∃ k : Nat, k ≤ n ∧ i = .int .i64 k ∧ RowAll wr w.heap.size 5 n Byte ∧ Below w.heap.size w wr) (fun i _ => n - (intOf i).toNat)
    case atStart => exact ⟨0, by omega, rfl, hs1, hb1⟩
    case round =>
      clear hs1 hb1
      obtain ⟨k, hk, rfl, hs, hbw⟩ := hrel
      by_cases hlt : k < n
      · obtain ⟨r, off, u, e, hcell, bt, rfl⟩ := hc k hlt
        cases e
        have hc' : wr.cell? ⟨r, off + k, none⟩ = some (.int .u8 bt) := (hbw.cell (p := ⟨r, off + k, none⟩) (lt_of_cell hcell)).trans hcell
        obtain ⟨u, hu, _, hf⟩ := hs.at hlt
        clear hcell
        go_wp2
        go_roundw
        case rel => exact ⟨k + 1, by omega, by go_num, hs.put k _ ⟨_, rfl⟩ (fun _ h => h), hbw.setCell (Nat.le_refl _) _⟩
        case measure => simp [intOf]; omega
      · go_wp2_with fail
        go_ret
        refine ⟨_, rfl, ⟨some ⟨w.heap.size, 0, none⟩, n, n, rfl, hn, (fun h => by cases h), fun i hi => ?_⟩, hbw⟩
        obtain ⟨u, h1, h2, _⟩ := hs.at hi
        exact ⟨w.heap.size, 0, u, rfl, Nat.le_refl _, by rw [Nat.zero_add]; exact h1, h2⟩

set_option maxRecDepth 100000 in
set_option maxHeartbeats 3200000 in
/-- 'zzCloneNested': a slice in new memory, down to the bytes. -/
theorem clone_nested (v : Value) (w : World) (h : Sh3 w 65536 131072 1048576 v) :
    Calls Try.prog 16 #[v] w fun e w' => ∃ v', e = .returned v' ∧ Sh3 w' 65536 131072 1048576 v' ∧ Below w.heap.size w w' := by
  obtain ⟨ao, n, cap, rfl, hn, hnil, hc⟩ := h
  have hq := fun wx => Lib.run_eql_slice_nil (P := Try.prog) wx 35 28 ao n cap 0 0 Try.underlying35
  obtain ⟨i0, hi, hz0, hz1, hz2⟩ := info_parts Try.info28
  obtain ⟨i1, hi1, hy0, hy1, hy2⟩ := info_parts Try.info22
  cases ao with
  | none =>
    obtain ⟨rfl, rfl⟩ := hnil rfl
    clear hnil
    simp only [Option.isNone_none] at hq
    go_enter Try.func16, Try.ntmps16
    go_wp2_with fail
    go_ret
    exact ⟨_, rfl, ⟨none, 0, 0, rfl, by omega, fun _ => ⟨rfl, rfl⟩, fun i hi => by omega⟩, Below.refl _ _⟩
  | some x =>
    clear hnil
    simp only [Option.isNone_some] at hq
    go_enter Try.func16, Try.ntmps16
    go_wp2_with (first | (at_make; go_must (refine wpList_make_full _ rfl _ _ 35 rfl w.heap.size 28 i0 (.slice none 0 0) 1 Try.underlying35 hi hz0 hz1 .i64 .i64 _ _ n rfl rfl (by omega) (by omega) ?c1 ?c2 (Nat.le_refl _) ?_)))
    case c1 => rw [hz2]; omega
    case c2 => unfold maxLen; omega
    intro w1 hown hgr
    have hs1 : RowAll w1 w.heap.size 28 n (Shb2 w1 (w.heap.size + 1) 131072 1048576) := rowAll_made ⟨none, 0, 0, rfl, by omega, fun _ => ⟨rfl, rfl⟩, fun i hi => by omega⟩ hown
    have hb1 : Below w.heap.size w w1 := (Below.refl _ _).grown hgr (Nat.le_refl _) (fun k h => by cases h)
    clear hown hgr hq
    go_wp2
    go_loopw [4, 5, 6] (fun i c j wr => ∃ k : Nat, k ≤ n ∧ i = .int .i64 k ∧ RowAll wr w.heap.size 28 n (Shb2 wr (w.heap.size + 1) 131072 1048576) ∧ Below w.heap.size w wr) (fun i _ _ _ => n - (intOf i).toNat)
    case atStart => exact ⟨0, by omega, rfl, hs1, hb1⟩
    case round =>
      clear hs1 hb1
      obtain ⟨k, hk, rfl, hs, hbw⟩ := hrel
      by_cases hlt : k < n
      · obtain ⟨r, off, u, e, hcell, a2, n2, c2, rfl, hn2, hnil2, hc2⟩ := hc k hlt
        cases e
        have hc' : wr.cell? ⟨r, off + k, none⟩ = some (.slice a2 n2 c2) := (hbw.cell (p := ⟨r, off + k, none⟩) (lt_of_cell hcell)).trans hcell
        have hq2 := fun wx => Lib.run_eql_slice_nil (P := Try.prog) wx 28 22 a2 n2 c2 0 0 Try.underlying28
        cases a2 with
        | none =>
          obtain ⟨rfl, rfl⟩ := hnil2 rfl
          clear hnil2
          simp only [Option.isNone_none] at hq2
          go_wp2
          go_roundw
          case rel => exact ⟨k + 1, by omega, by go_num, hs, hbw⟩
          case measure => simp [intOf]; omega
        | some x2 =>
          clear hnil2
          simp only [Option.isNone_some] at hq2
          go_wp2_with (first | (at_make; go_must (refine wpList_make_full _ rfl _ _ 28 rfl wr.heap.size 22 i1 (.slice none 0 0) 1 Try.underlying28 hi1 hy0 hy1 .i64 .i64 _ _ n2 rfl rfl (by omega) (by omega) ?d1 ?d2 (Nat.le_refl _) ?_)))
          case d1 => rw [hy2]; omega
          case d2 => unfold maxLen; omega
          intro w2 hown2 hgr2
          have hs2 : RowAll w2 wr.heap.size 22 n2 (Shb1 w2 (wr.heap.size + 1) 1048576) := rowAll_made ⟨none, 0, 0, rfl, by omega, fun _ => ⟨rfl, rfl⟩, fun i hi => by omega⟩ hown2
          have hb2 : Below wr.heap.size wr w2 := (Below.refl _ _).grown hgr2 (Nat.le_refl _) (fun k h => by cases h)
          have hcc : w2.cell? ⟨r, off + k, none⟩ = some (.slice (some x2) n2 c2) := (hb2.cell (p := ⟨r, off + k, none⟩) (lt_of_cell hc')).trans hc'
          obtain ⟨wo, rfl⟩ : ∃ wo : World, wo = wr := ⟨_, rfl⟩
          clear hown2 hgr2 hq2
          go_wp2
          go_loopw [6] (fun j wr2 => ∃ k' : Nat, k' ≤ n2 ∧ j = .int .i64 k' ∧ RowAll wr2 wo.heap.size 22 n2 (Shb1 wr2 (wo.heap.size + 1) 1048576) ∧ Below wo.heap.size wo wr2) (fun j _ => n2 - (intOf j).toNat)
          case atStart => exact ⟨0, by omega, rfl, hs2, hb2⟩
          case round =>
            clear hs2 hb2 hcc
            obtain ⟨k', hk', rfl, hs2, hb2⟩ := hrel
            have hcc : wr.cell? ⟨r, off + k, none⟩ = some (.slice (some x2) n2 c2) := (hb2.cell (p := ⟨r, off + k, none⟩) (lt_of_cell hc')).trans hc'
            by_cases hlt' : k' < n2
            · obtain ⟨r2, off2, u2, e2, hcell2, hsh1⟩ := hc2 k' hlt'
              cases e2
              have hwr : Below w.heap.size w wr := hbw.trans (hb2.mono hbw.size)
              have hc2' : wr.cell? ⟨r2, off2 + k', none⟩ = some u2 := (hwr.cell (p := ⟨r2, off2 + k', none⟩) (lt_of_cell hcell2)).trans hcell2
              have hsh1' : Sh1 wr 1048576 u2 := Sh.below hsh1 (Below.mono (B := w.heap.size) hwr (Nat.le_refl _)) (fun _ h => h)
              clear hc'
              go_wp2_with fail
              refine (clone_bytes u2 _ hsh1').mono ?_
              rintro e w3 ⟨v3, rfl, hv3, hb3⟩
              have hs3 : RowAll w3 wo.heap.size 22 n2 (Shb1 w3 (wo.heap.size + 1) 1048576) := hs2.below (hb3.block _ hs2.lt) (fun _ h => h.kept (kb_below hb3) (Nat.le_refl _))
              obtain ⟨uu, huu, _, hff⟩ := hs3.at hlt'
              have hv3' : Shb1 w3 (wo.heap.size + 1) 1048576 v3 := hv3.kept (kb_refl _ _) hs2.lt
              have hb3' : Below wo.heap.size wo w3 := hb2.trans (hb3.mono hb2.size)
              obtain ⟨ao3, n3, c3, rfl, hv3r⟩ := id hv3'
              clear hv3 hb3 hs2 hb2 hcc hc2' hwr hv3r
              go_wp2
              go_roundw
              case rel => exact ⟨k' + 1, by omega, by go_num, hs3.put k' _ (hv3'.kept (kb_setCell (by simp) _) (Nat.le_refl _)) (fun _ h => h.kept (kb_setCell (by simp) _) (Nat.le_refl _)), hb3'.setCell (Nat.le_refl _) _⟩
              case measure => simp [intOf]; omega
            · have hb4 := hbw.trans (hb2.mono hbw.size)
              have hs4 : RowAll wr w.heap.size 28 n (Shb2 wr (w.heap.size + 1) 131072 1048576) := hs.below (hb2.block _ hs.lt) (fun _ h => h.kept (kb_below hb2) (Nat.le_refl _))
              obtain ⟨uu, huu, _, hff⟩ := hs4.at hlt
              have hlo := hs.lt
              have hnew : Shb2 wr (w.heap.size + 1) 131072 1048576 (.slice (some ⟨wo.heap.size, 0, none⟩) n2 n2) := by
                refine ⟨some ⟨wo.heap.size, 0, none⟩, n2, n2, rfl, hn2, (fun h => by cases h), fun i hi => ?_⟩
                obtain ⟨u, q1, q2, _⟩ := hs2.at hi
                exact ⟨wo.heap.size, 0, u, rfl, by omega, by rw [Nat.zero_add]; exact q1, q2.kept (kb_refl _ _) (by omega)⟩
              clear hs2 hb2 hs hbw hc'
              go_wp2
              go_roundw
              case rel => exact ⟨k + 1, by omega, by go_num, hs4.put k _ (hnew.kept (kb_setCell (by simp) _) (Nat.le_refl _)) (fun _ h => h.kept (kb_setCell (by simp) _) (Nat.le_refl _)), hb4.setCell (Nat.le_refl _) _⟩
              case measure => simp [intOf]; omega
      · go_wp2_with fail
        go_ret
        refine ⟨_, rfl, ⟨some ⟨w.heap.size, 0, none⟩, n, n, rfl, hn, (fun h => by cases h), fun i hi => ?_⟩, hbw⟩
        obtain ⟨u, h1, h2, _⟩ := hs.at hi
        exact ⟨w.heap.size, 0, u, rfl, by rw [Nat.zero_add]; exact h1, Shb.sh h2 (fun _ h => Shb.sh h (fun _ h => h))⟩
end Go.Proofs.Qxb6604369a
