import Derived.Test.Qxb6604369aClone
import Derived.Laws.EntriesVeiled
import Derived.Deep.AppendLies
namespace Go.Proofs.Qxb6604369a
open Go.RowKit
set_option linter.unusedVariables false

theorem Try.info3 : (Try.prog.info? 3).map (fun i => (i.zero, i.size, i.bytes)) = some (some (.int .i64 0), 1, 8) := by kernel_rfl

theorem clo21 (R : Nat) (ao : Option Addr) (len cap : Nat) (w : World) (h : w.cell? ⟨R, 0, none⟩ = some (.slice ao len cap)) :
    Calls Try.prog 21 #[.pointer (some ⟨R, 0, none⟩)] w fun e w' => e = .returned (.slice ao len cap) ∧ w' = w := by
  go_enter Try.func21, Try.ntmps21
  go_wp2
  go_ret
  exact ⟨rfl, rfl⟩

/-- Every block but those of P is as it was. -/
structure Ex (P : Nat → Prop) (w w' : World) : Prop where
  os : w'.os = w.os
  tape : w'.tape = w.tape
  output : w'.output = w.output
  size : w.heap.size ≤ w'.heap.size
  block : ∀ b, b < w.heap.size → ¬ P b → w'.heap[b]? = w.heap[b]?

/-- The ints 0, 1, .., k - 1. -/
def upTo (k : Nat) : List Value := (List.range k).map fun i => .int .i64 (i : Nat)

set_option maxHeartbeats 1600000 in
theorem clo20 (C I R base k : Nat) (v : Value) (w : World) (hC : w.heap[C]? = some (.cells #[v] 24 (0, 0))) (hI : w.cell? ⟨I, 0, none⟩ = some (.int .i64 k)) (hown : w.ownsRow base 3 1 v k (upTo k)) (hCb : C < base) (hbs : base ≤ w.heap.size) (hk : k ≤ 65536) :
    Calls Try.prog 20 #[.pointer (some ⟨C, 0, none⟩), .pointer (some ⟨I, 0, none⟩), .pointer (some ⟨R, 0, none⟩)] w fun e w' =>
      e = .returned (.func (.func 21) #[] #[.pointer (some ⟨R, 0, none⟩)]) ∧ ∃ v', w'.heap[C]? = some (.cells #[v'] 24 (0, 0)) ∧ w'.ownsRow base 3 1 v' (k + 1) (upTo (k + 1)) ∧ Ex (fun b => b = C ∨ v.ownBlock = some b) w w' := by
  obtain ⟨i0, hi, hz0, hz1, hz2⟩ := info_parts Try.info3
  have h0 : w.cell? ⟨C, 0, none⟩ = some v := by rw [cell_of_row w C 0 _ _ _ hC]; rfl
  have hne : v.ownBlock ≠ some C := fun e => by have := hown.lt C e; omega
  go_enter Try.func20, Try.ntmps20
  go_wp2_with (first | (at_builtin; go_must (refine wpList_append_lies _ rfl _ _ 24 rfl base 3 i0 _ 1 8 Try.underlying24 hi hz0 hz1 hz2 rfl (by omega) v k (upTo k) rfl (hown.alloc _) ⟨w.heap.size, 0, none⟩ 1 1 [.int .i64 k] rfl rfl ?d1 ?d2 (by omega) ?d3 ?d4 ?d5 (w.heap.size + 1) (by simp) ?_)))
  case d1 => exact World.news_of_block (cs := #[.int .i64 k]) (t := 3) (fr := (0, 0)) (heap_alloc_new w _)
  case d2 => intro u hu; simp at hu; subst hu; rfl
  case d3 => unfold maxLen; omega
  case d4 => omega
  case d5 => simp; omega
  intro g cap w1 hown1 hgrow hat hlt
  have hb : Below w.heap.size w (w.alloc (.cells #[.int .i64 (k : Int)] 3)) := (Below.refl _ _).alloc (Nat.le_refl _) _
  have hlC : C < w.heap.size := by omega
  have hC1 : w1.heap[C]? = some (.cells #[v] 24 (0, 0)) := by rw [hgrow.block C (Nat.lt_of_lt_of_le hlC hb.size) (Ne.symm hne), hb.block C hlC]; exact hC
  have c1 : w1.cell? ⟨C, 0, none⟩ = some v := by rw [cell_of_row w1 C 0 _ _ _ hC1]; rfl
  have f1 : w1.frozen? ⟨C, 0, none⟩ = false := frozen_of_row w1 C 0 _ _ hC1
  have hfin : (w1.setCell ⟨C, 0, none⟩ (.slice (some ⟨g, 0, none⟩) (k + 1) cap)).heap[C]? = some (.cells #[.slice (some ⟨g, 0, none⟩) (k + 1) cap] 24 (0, 0)) := by rw [heap_setCell_same w1 C 0 _ 24 _ hC1]; rfl
  have hown2 : (w1.setCell ⟨C, 0, none⟩ (.slice (some ⟨g, 0, none⟩) (k + 1) cap)).ownsRow base 3 1 (.slice (some ⟨g, 0, none⟩) (k + 1) cap) (k + 1) (upTo (k + 1)) := by
    have e : upTo (k + 1) = upTo k ++ [.int .i64 (k : Int)] := by simp [upTo, List.range_succ]
    rw [e]
    exact ownsRow_setCell_below hown1 (a := ⟨C, 0, none⟩) hCb _
  have hex : Ex (fun b => b = C ∨ v.ownBlock = some b) w (w1.setCell ⟨C, 0, none⟩ (.slice (some ⟨g, 0, none⟩) (k + 1) cap)) := by
    refine ⟨hgrow.os.trans hb.os, hgrow.tape.trans hb.tape, hgrow.output.trans hb.output, ?_, fun b hb' hn => ?_⟩
    · have h1 := hgrow.size
      have h2 := hb.size
      show w.heap.size ≤ (w1.setCell _ _).heap.size
      simp only [World.setCell, Array.size_modify]
      omega
    · rw [heap_setCell_other w1 ⟨C, 0, none⟩ b _ (fun e => hn (.inl e)), hgrow.block b (Nat.lt_of_lt_of_le hb' hb.size) (fun e => hn (.inr e.symm)), hb.block b hb']
  clear hC1 hown hown1 hgrow hat hlt hC
  go_wp2_with fail
  go_ret
  exact ⟨rfl, _, hfin, hown2, hex⟩

/-! ### 'snapshotsOf' -/
/-- The parts: for each j a part whose Snapshot is the closure over the cells C, I j, R j; cell I j holds j, cell R j the value V j. -/
structure Part (w : World) (Pb C : Nat) (p I R : Nat → Nat) (V : Nat → Value) (j : Nat) : Prop where
  c0 : w.cell? ⟨Pb, j, none⟩ = some (.pointer (some ⟨p j, 0, none⟩))
  c1 : w.cell? ⟨p j, 4, none⟩ = some (.func (.func 20) #[] #[.pointer (some ⟨C, 0, none⟩), .pointer (some ⟨I j, 0, none⟩), .pointer (some ⟨R j, 0, none⟩)])
  c2 : w.cell? ⟨I j, 0, none⟩ = some (.int .i64 j)
  c3 : w.cell? ⟨R j, 0, none⟩ = some (V j)
  n0 : Pb ≠ C
  n1 : p j ≠ C
  n2 : I j ≠ C
  n3 : R j ≠ C
theorem Ex.cell {P : Nat → Prop} {w w' : World} (h : Ex P w w') {a : Addr} {v : Value} (hc : w.cell? a = some v) (hn : ¬ P a.block) : w'.cell? a = some v :=
  (World.cell?_of_block (w := w) (h.block a.block (lt_of_cell hc) hn)).trans hc
theorem Part.kept {w w' : World} {Pb C : Nat} {p I R : Nat → Nat} {V : Nat → Value} {j : Nat} (h : Part w Pb C p I R V j) (hx : Ex (fun b => b = C) w w') : Part w' Pb C p I R V j :=
  ⟨hx.cell h.c0 h.n0, hx.cell h.c1 h.n1, hx.cell h.c2 h.n2, hx.cell h.c3 h.n3, h.n0, h.n1, h.n2, h.n3⟩

/-- The row of functions that were handed back: the first k are there. -/
def Snaps (w : World) (S n k : Nat) (R : Nat → Nat) : Prop := ∃ cur : Array Value, w.heap[S]? = some (.cells cur 43 (0, 0)) ∧ cur.size = n ∧ ∀ j, j < k → cur[j]? = some (.func (.func 21) #[] #[.pointer (some ⟨R j, 0, none⟩)])
theorem Snaps.put {w : World} {S n k : Nat} {R : Nat → Nat} (h : Snaps w S n k R) (hk : k < n) : Snaps (w.setCell ⟨S, k, none⟩ (.func (.func 21) #[] #[.pointer (some ⟨R k, 0, none⟩)])) S n (k + 1) R := by
  obtain ⟨cur, h1, h2, h3⟩ := h
  refine ⟨cur.setIfInBounds k (.func (.func 21) #[] #[.pointer (some ⟨R k, 0, none⟩)]), ?_, by simpa using h2, fun j hj => ?_⟩
  · simp [World.setCell, Array.getElem?_modify, h1]
  · by_cases e : k = j
    · subst e
      simp [h2, hk]
    · rw [Array.getElem?_setIfInBounds_ne e]
      exact h3 j (by omega)
theorem Snaps.free {w : World} {S n k : Nat} {R : Nat → Nat} (h : Snaps w S n k R) (hk : k < n) : w.frozen? ⟨S, k, none⟩ = false ∧ ∃ u, w.cell? ⟨S, k, none⟩ = some u := by
  obtain ⟨cur, h1, h2, h3⟩ := h
  refine ⟨by simp [World.frozen?, h1], cur[k]'(by omega), ?_⟩
  rw [cell_of_row w S k cur 43 (0, 0) h1, Array.getElem?_eq_getElem]
theorem Snaps.block {w w' : World} {S n k : Nat} {R : Nat → Nat} (h : Snaps w S n k R) (hb : w'.heap[S]? = w.heap[S]?) : Snaps w' S n k R := by
  obtain ⟨cur, h1, h2, h3⟩ := h
  exact ⟨cur, by rw [hb]; exact h1, h2, h3⟩
theorem snaps_made {w : World} {base S n : Nat} {R : Nat → Nat} (h : w.ownsRow base 43 1 (.slice (some ⟨S, 0, none⟩) n n) n (madeCells #[Value.nilFunc] n).toList) : Snaps w S n 0 R := by
  obtain ⟨h1, h2⟩ := h
  rcases h2 with ⟨h2, _⟩ | ⟨g', cap, cur, hv, hb, hh, hle, hm, hs, ht⟩
  · simp at h2
  · simp at hv
    obtain ⟨rfl, rfl⟩ := hv
    exact ⟨cur, hh, by simpa using hs, fun i hi => by omega⟩

theorem Try.info43 : (Try.prog.info? 43).map (fun i => (i.zero, i.size, i.bytes)) = some (some .nilFunc, 1, 8) := by kernel_rfl

set_option maxRecDepth 100000 in
set_option maxHeartbeats 1600000 in
theorem snapshots_of (Pb C n : Nat) (p I R : Nat → Nat) (V : Nat → Value) (w : World) (hn : n ≤ 65536) (hC : w.heap[C]? = some (.cells #[.slice none 0 0] 24 (0, 0))) (hP : ∀ j, j < n → Part w Pb C p I R V j) :
    Calls Try.prog 22 #[.slice (some ⟨Pb, 0, none⟩) n n] w fun e w' => e = .returned (.slice (some ⟨w.heap.size, 0, none⟩) n n) ∧ Snaps w' w.heap.size n n R ∧
      (∃ v', w'.heap[C]? = some (.cells #[v'] 24 (0, 0)) ∧ w'.ownsRow (w.heap.size + 1) 3 1 v' n (upTo n)) ∧ Ex (fun b => b = C) w w' := by
  obtain ⟨i0, hi, hz0, hz1, hz2⟩ := info_parts Try.info43
  have lC : C < w.heap.size := by
    rcases Nat.lt_or_ge C w.heap.size with h' | h'
    · exact h'
    · rw [Array.getElem?_eq_none (by omega)] at hC; cases hC
  go_enter Try.func22, Try.ntmps22
  go_wp2_with (first | (at_make; go_must (refine wpList_make_full _ rfl _ _ 51 rfl w.heap.size 43 i0 .nilFunc 1 Try.underlying51 hi hz0 hz1 .i64 .i64 _ _ n rfl rfl (by omega) (by omega) ?c1 ?c2 (Nat.le_refl _) ?_)))
  case c1 => rw [hz2]; omega
  case c2 => unfold maxLen; omega
  intro w1 hown hgr
  have hs1 : Snaps w1 w.heap.size n 0 R := snaps_made hown
  have hx1 : Ex (fun b => b = C) w w1 := ⟨hgr.os, hgr.tape, hgr.output, hgr.size, fun b hb _ => hgr.block b hb (by simp)⟩
  have hC1 : w1.heap[C]? = some (.cells #[.slice none 0 0] 24 (0, 0)) := by rw [hgr.block C lC (by simp)]; exact hC
  have hsz : w.heap.size < w1.heap.size := by
    obtain ⟨cur, q, _⟩ := hs1
    rcases Nat.lt_or_ge w.heap.size w1.heap.size with h' | h'
    · exact h'
    · rw [Array.getElem?_eq_none (by omega)] at q; cases q
  clear hown hgr
  go_wp2
  go_loopw [4, 5, 11] (fun i q t wr => ∃ (k : Nat) (v : Value), k ≤ n ∧ t = .int .i64 k ∧ Snaps wr w.heap.size n k R ∧ wr.heap[C]? = some (.cells #[v] 24 (0, 0)) ∧ wr.ownsRow (w.heap.size + 1) 3 1 v k (upTo k) ∧ Ex (fun b => b = C) w wr ∧ w.heap.size < wr.heap.size) (fun _ _ t _ => n - (intOf t).toNat)
  case atStart => exact ⟨0, _, by omega, rfl, hs1, hC1, World.ownsRow_nil _ _ _ _, hx1, hsz⟩
  case round =>
    clear hs1 hx1 hC1 hsz
    obtain ⟨k, v, hk, rfl, hs, hCr, hown, hx, hsz⟩ := hrel
    by_cases hlt : k < n
    · obtain ⟨c0, c1, c2, c3, _, _, _, _⟩ := (hP k hlt).kept hx
      go_wp2_with fail
      refine (clo20 C (I k) (R k) (w.heap.size + 1) k v _ hCr c2 hown (by omega) (by omega) (by omega)).mono ?_
      rintro e w2 ⟨rfl, v2, hC2, hown2, hx2⟩
      have hneS : ¬ (w.heap.size = C ∨ v.ownBlock = some w.heap.size) := by
        rintro (e | e)
        · omega
        · have := hown.lt _ e; omega
      have hs2 : Snaps w2 w.heap.size n k R := hs.block (hx2.block _ hsz hneS)
      obtain ⟨hf, u, hu⟩ := hs2.free hlt
      have hx3 : Ex (fun b => b = C) w (w2.setCell ⟨w.heap.size, k, none⟩ (.func (.func 21) #[] #[.pointer (some ⟨R k, 0, none⟩)])) := by
        refine ⟨hx2.os.trans hx.os, hx2.tape.trans hx.tape, hx2.output.trans hx.output, ?_, fun b hb hn => ?_⟩
        · have h1 := hx2.size
          show w.heap.size ≤ (w2.setCell _ _).heap.size
          simp only [World.setCell, Array.size_modify]
          omega
        · rw [heap_setCell_other w2 ⟨w.heap.size, k, none⟩ b _ (show b ≠ w.heap.size by omega), hx2.block b (by omega) (by rintro (e | e); exact hn e; have := hown.lt _ e; omega), hx.block b hb hn]
      have hC3 : (w2.setCell ⟨w.heap.size, k, none⟩ (.func (.func 21) #[] #[.pointer (some ⟨R k, 0, none⟩)])).heap[C]? = some (.cells #[v2] 24 (0, 0)) := by rw [heap_setCell_other w2 ⟨w.heap.size, k, none⟩ C _ (show C ≠ w.heap.size by omega)]; exact hC2
      have hown3 := ownsRow_setCell_below hown2 (a := ⟨w.heap.size, k, none⟩) (Nat.lt_succ_self _) (.func (.func 21) #[] #[.pointer (some ⟨R k, 0, none⟩)])
      have hsz3 : w.heap.size < (w2.setCell ⟨w.heap.size, k, none⟩ (.func (.func 21) #[] #[.pointer (some ⟨R k, 0, none⟩)])).heap.size := by
        have h1 := hx2.size
        show w.heap.size < (w2.setCell _ _).heap.size
        simp only [World.setCell, Array.size_modify]
        omega
      have hs3 := hs2.put hlt
      clear hs hCr hown hx hsz hC2 hown2 hx2 hneS c0 c1 c2 c3 hs2
      go_wp2
      go_roundw
      case rel => exact ⟨k + 1, v2, by omega, by go_num, hs3, hC3, hown3, hx3, hsz3⟩
      case measure => simp [intOf]; omega
    · have hkn : k = n := by omega
      have HK : Hid (k = n) := hkn
      clear hkn
      go_wp2_with fail
      go_ret
      exact ⟨rfl, by rw [← HK.out]; rw [HK.out]; rw [← HK.out] at hs ⊢; exact hs, ⟨v, hCr, by rw [← HK.out]; exact hown⟩, hx⟩
end Go.Proofs.Qxb6604369a
