import Derived.Test.Qxb6604404aPicks
import Derived.Deep.RegionHeld3
namespace Go.Proofs.Qxb6604404a
open Go.RowKit
set_option linter.unusedVariables false

theorem Try.info3 : (Try.prog.info? 3).map (fun i => (i.zero, i.size, i.bytes)) = some (some (.int .i64 0), 1, 8) := by kernel_rfl
theorem Try.info52 : (Try.prog.info? 52).map (fun i => (i.zero, i.size, i.bytes)) = some (some (.agg #[.string ⟨#[]⟩, .int .u8 0, .string ⟨#[]⟩, .string ⟨#[]⟩, .slice none 0 0]), 5, 80) := by kernel_rfl
theorem Try.info62 : (Try.prog.info? 62).map (fun i => (i.zero, i.size, i.bytes)) = some (some (.agg #[.string ⟨#[]⟩, .int .u8 0, .string ⟨#[]⟩, .string ⟨#[]⟩, .slice none 0 0]), 5, 80) := by kernel_rfl

/-! ### LISTED ENTRIES AS PLAIN DATA -/
structure Ls where
  mesh : ByteArray
  pk : Pk
  n : Nat
def ls0 : Ls := ⟨⟨#[]⟩, pk0, 0⟩
def IntsAt (w : World) (ao : Option Addr) (n : Nat) : Prop := ∀ i, i < n → ∃ g off u, ao = some ⟨g, off, none⟩ ∧ w.cell? ⟨g, off + i, none⟩ = some (.int .i64 u)
theorem IntsAt.below {w w' : World} {ao : Option Addr} {n : Nat} (h : IntsAt w ao n) (hb : Below w.heap.size w w') : IntsAt w' ao n := fun i hi => by
  obtain ⟨g, off, u, e, h1⟩ := h i hi
  exact ⟨g, off, u, e, (hb.cell (p := ⟨g, off + i, none⟩) (lt_of_cell h1)).trans h1⟩

/-- A row that the call made: n cells that hold something. -/
def RowN (w : World) (g t n : Nat) : Prop := ∃ cur : Array Value, w.heap[g]? = some (.cells cur t (0, 0)) ∧ cur.size = n
theorem rowN_made {w : World} {base g n : Nat} {t : TypeId} {xs : List Value} (h : w.ownsRow base t 1 (.slice (some ⟨g, 0, none⟩) n n) n xs) : RowN w g t n := by
  obtain ⟨h1, h2⟩ := h
  rcases h2 with ⟨h2, _⟩ | ⟨g', cap, cur, hv, hb, hh, hle, hm, hs, ht⟩
  · simp at h2
  · simp at hv
    obtain ⟨rfl, rfl⟩ := hv
    exact ⟨cur, hh, by omega⟩
theorem RowN.free {w : World} {g t n : Nat} (h : RowN w g t n) (j : Nat) (hj : j < n) : w.frozen? ⟨g, j, none⟩ = false ∧ ∃ u, w.cell? ⟨g, j, none⟩ = some u := by
  obtain ⟨cur, h1, h2⟩ := h
  refine ⟨by simp [World.frozen?, h1], cur[j]'(by omega), ?_⟩
  rw [cell_of_row w g j cur t (0, 0) h1, Array.getElem?_eq_getElem]
theorem RowN.put {w : World} {g t n : Nat} (h : RowN w g t n) (j : Nat) (v : Value) : RowN (w.setCell ⟨g, j, none⟩ v) g t n := by
  obtain ⟨cur, h1, h2⟩ := h
  exact ⟨_, heap_setCell_same _ g _ _ t _ h1, by simp [h2]⟩

set_option maxRecDepth 100000 in
set_option maxHeartbeats 1600000 in
/-- 'zzCopyInts': a slice of the same length. -/
theorem copy_ints (ao : Option Addr) (n cap : Nat) (w : World) (hn : n ≤ 1048576) (h : IntsAt w ao n) (hnil : ao = none → n = 0) :
    Calls Try.prog 21 #[.slice ao n cap] w fun e w' => ∃ ao' cap', e = .returned (.slice ao' n cap') ∧ Below w.heap.size w w' := by
  have hq := fun wx => Lib.run_eql_slice_nil (P := Try.prog) wx 44 3 ao n cap 0 0 Try.underlying44
  obtain ⟨i0, hi, hz0, hz1, hz2⟩ := info_parts Try.info3
  cases ao with
  | none =>
    obtain rfl := hnil rfl
    clear hnil h
    simp only [Option.isNone_none] at hq ⊢
    go_enter Try.func21, Try.ntmps21
    go_wp2_with fail
    go_ret
    exact ⟨none, 0, rfl, Below.refl _ _⟩
  | some x =>
    clear hnil
    simp only [Option.isNone_some] at hq
    go_enter Try.func21, Try.ntmps21
    go_wp2_with (first | (at_make; go_must (refine wpList_make_full _ rfl _ _ 44 rfl w.heap.size 3 i0 _ 1 Try.underlying44 hi hz0 hz1 .i64 .i64 _ _ n rfl rfl (by omega) (by omega) ?c1 ?c2 (Nat.le_refl _) ?_)))
    case c1 => rw [hz2]; omega
    case c2 => unfold maxLen; omega
    intro w1 hown hgr
    have hs1 : RowN w1 w.heap.size 3 n := rowN_made hown
    have hb1 : Below w.heap.size w w1 := (Below.refl _ _).grown hgr (Nat.le_refl _) (fun k h => by cases h)
    clear hown hgr hq
    go_wp2
    go_loopw [4] (fun i wr => ∃ k : Nat, k ≤ n ∧ i = .int .i64 k ∧ RowN wr w.heap.size 3 n ∧ Below w.heap.size w wr) (fun i _ => n - (intOf i).toNat)
    case atStart => exact ⟨0, by omega, rfl, hs1, hb1⟩
    case round =>
      clear hs1 hb1
      obtain ⟨k, hk, rfl, hs, hbw⟩ := hrel
      by_cases hlt : k < n
      · obtain ⟨g, off, u, e, hp⟩ := h k hlt
        cases e
        have hp' : wr.cell? ⟨g, off + k, none⟩ = some (.int .i64 u) := (hbw.cell (p := ⟨g, off + k, none⟩) (lt_of_cell hp)).trans hp
        obtain ⟨f0, u0, c0⟩ := hs.free k hlt
        clear hp
        go_wp2
        go_roundw
        case rel => exact ⟨k + 1, by omega, by go_num, hs.put k _, hbw.setCell (Nat.le_refl _) _⟩
        case measure => simp [intOf]; omega
      · go_wp2
        go_ret
        exact ⟨_, _, rfl, hbw⟩

/-- The slice at ao holds the entries ls. -/
def LsAt (w : World) (g o : Nat) (l : Ls) : Prop := w.cell? ⟨g, o, none⟩ = some (.string l.mesh) ∧ PkAt w g (o + 1) l.pk ∧ ∃ a c, w.cell? ⟨g, o + 4, none⟩ = some (.slice a l.n c)
def Lists (w : World) (ao : Option Addr) (ls : List Ls) : Prop := ∀ i, i < ls.length → ∃ g off, ao = some ⟨g, off, none⟩ ∧ LsAt w g (off + i * 5) (ls.getD i ls0)
/-- .. and the proxies' lists can be read. -/
def ListsIn (w : World) (ao : Option Addr) (ls : List Ls) : Prop := ∀ i, i < ls.length → ∃ g off, ao = some ⟨g, off, none⟩ ∧ w.cell? ⟨g, off + i * 5, none⟩ = some (.string (ls.getD i ls0).mesh) ∧ PkAt w g (off + i * 5 + 1) (ls.getD i ls0).pk ∧
  ∃ a c, w.cell? ⟨g, off + i * 5 + 4, none⟩ = some (.slice a (ls.getD i ls0).n c) ∧ IntsAt w a (ls.getD i ls0).n ∧ (a = none → (ls.getD i ls0).n = 0)
theorem LsAt.below {w w' : World} {B g o : Nat} {l : Ls} (h : LsAt w g o l) (hb : Below B w w') (hg : g < B) : LsAt w' g o l := by
  obtain ⟨h1, h2, a, c, h3⟩ := h
  exact ⟨(hb.cell (p := ⟨g, o, none⟩) hg).trans h1, h2.below hb hg, a, c, (hb.cell (p := ⟨g, o + 4, none⟩) hg).trans h3⟩
theorem Lists.below {w w' : World} {ao : Option Addr} {ls : List Ls} (h : Lists w ao ls) (hb : Below w.heap.size w w') : Lists w' ao ls := fun i hi => by
  obtain ⟨g, off, e, h1⟩ := h i hi
  exact ⟨g, off, e, h1.below hb (lt_of_cell h1.1)⟩
theorem ListsIn.below {w w' : World} {ao : Option Addr} {ls : List Ls} (h : ListsIn w ao ls) (hb : Below w.heap.size w w') : ListsIn w' ao ls := fun i hi => by
  obtain ⟨g, off, e, h1, h2, a, c, h3, h4, h5⟩ := h i hi
  have hg := lt_of_cell h1
  exact ⟨g, off, e, (hb.cell (p := ⟨g, off + i * 5, none⟩) hg).trans h1, h2.below hb hg, a, c, (hb.cell (p := ⟨g, off + i * 5 + 4, none⟩) hg).trans h3, h4.below hb, h5⟩

def RowL (w : World) (g t n k : Nat) (ls : List Ls) : Prop := ∃ cur : Array Value, w.heap[g]? = some (.cells cur t (0, 0)) ∧ cur.size = n * 5 ∧
  ∀ i, i < k → cur[i * 5]? = some (.string (ls.getD i ls0).mesh) ∧ cur[i * 5 + 1]? = some (.int .u8 (ls.getD i ls0).pk.b) ∧ cur[i * 5 + 2]? = some (.string (ls.getD i ls0).pk.nm) ∧ cur[i * 5 + 3]? = some (.string (ls.getD i ls0).pk.vl) ∧ ∃ a c, cur[i * 5 + 4]? = some (.slice a (ls.getD i ls0).n c)
theorem rowL_made {w : World} {base g n : Nat} {t : TypeId} {xs : List Value} {ls : List Ls} (h : w.ownsRow base t 5 (.slice (some ⟨g, 0, none⟩) n n) n xs) : RowL w g t n 0 ls := by
  obtain ⟨h1, h2⟩ := h
  rcases h2 with ⟨h2, _⟩ | ⟨g', cap, cur, hv, hb, hh, hle, hm, hs, ht⟩
  · simp at h2
  · simp at hv
    obtain ⟨rfl, rfl⟩ := hv
    exact ⟨cur, hh, hs, fun i hi => by omega⟩
theorem RowL.free {w : World} {g t n k : Nat} {ls : List Ls} (h : RowL w g t n k ls) (j : Nat) (hj : j < n * 5) : w.frozen? ⟨g, j, none⟩ = false ∧ ∃ u, w.cell? ⟨g, j, none⟩ = some u := by
  obtain ⟨cur, h1, h2, h3⟩ := h
  refine ⟨by simp [World.frozen?, h1], cur[j]'(by omega), ?_⟩
  rw [cell_of_row w g j cur t (0, 0) h1, Array.getElem?_eq_getElem]
theorem RowL.lists {w : World} {g t n : Nat} {ls : List Ls} (h : RowL w g t n ls.length ls) : Lists w (some ⟨g, 0, none⟩) ls := fun i hi => by
  obtain ⟨cur, h1, h2, h3⟩ := h
  obtain ⟨q1, q2, q3, q4, a, c, q5⟩ := h3 i hi
  have e : ∀ j, w.cell? ⟨g, 0 + j, none⟩ = cur[j]? := fun j => by rw [cell_of_row w g _ cur t (0, 0) h1, Nat.zero_add]
  exact ⟨g, 0, rfl, (e _).trans q1, ⟨(e (i * 5 + 1)).trans q2, (e (i * 5 + 2)).trans q3, (e (i * 5 + 3)).trans q4⟩, a, c, (e (i * 5 + 4)).trans q5⟩
theorem RowL.below {w w' : World} {g t n k : Nat} {ls : List Ls} (h : RowL w g t n k ls) (hb : Below w.heap.size w w') : RowL w' g t n k ls := by
  obtain ⟨cur, h1, h2, h3⟩ := h
  exact ⟨cur, by rw [hb.block g (lt_of_heap h1)]; exact h1, h2, h3⟩
def put5 (w : World) (g o : Nat) (l : Ls) (a : Option Addr) (c : Nat) : World :=
  ((((w.setCell ⟨g, o, none⟩ (.string l.mesh)).setCell ⟨g, o + 1, none⟩ (.int .u8 l.pk.b)).setCell ⟨g, o + 2, none⟩ (.string l.pk.nm)).setCell ⟨g, o + 3, none⟩ (.string l.pk.vl)).setCell ⟨g, o + 4, none⟩ (.slice a l.n c)
theorem RowL.put {w : World} {g t n k : Nat} {ls : List Ls} (h : RowL w g t n k ls) (hk : k < n) (l : Ls) (a : Option Addr) (c : Nat) (hp : ls.getD k ls0 = l) : RowL (put5 w g (k * 5) l a c) g t n (k + 1) ls := by
  obtain ⟨cur, h1, h2, h3⟩ := h
  refine ⟨_, heap_setCell_same _ g _ _ t _ (heap_setCell_same _ g _ _ t _ (heap_setCell_same _ g _ _ t _ (heap_setCell_same _ g _ _ t _ (heap_setCell_same _ g _ _ t _ h1)))), by simp [h2], fun i hi => ?_⟩
  have e : ∀ j, (((((cur.setIfInBounds (k * 5) (.string l.mesh)).setIfInBounds (k * 5 + 1) (.int .u8 l.pk.b)).setIfInBounds (k * 5 + 2) (.string l.pk.nm)).setIfInBounds (k * 5 + 3) (.string l.pk.vl)).setIfInBounds (k * 5 + 4) (.slice a l.n c))[j]? =
      if k * 5 + 4 = j then some (.slice a l.n c) else if k * 5 + 3 = j then some (.string l.pk.vl) else if k * 5 + 2 = j then some (.string l.pk.nm) else if k * 5 + 1 = j then some (.int .u8 l.pk.b) else if k * 5 = j then some (.string l.mesh) else cur[j]? := fun j => by
    rw [getElem?_put _ _ _ _ (by simp; omega), getElem?_put _ _ _ _ (by simp; omega), getElem?_put _ _ _ _ (by simp; omega), getElem?_put _ _ _ _ (by simp; omega), getElem?_put _ _ _ _ (by omega)]
  simp only [e]
  by_cases hik : i = k
  · subst hik
    rw [hp]
    refine ⟨?_, ?_, ?_, ?_, a, c, ?_⟩
    · rw [if_neg (by omega), if_neg (by omega), if_neg (by omega), if_neg (by omega), if_pos rfl]
    · rw [if_neg (by omega), if_neg (by omega), if_neg (by omega), if_pos rfl]
    · rw [if_neg (by omega), if_neg (by omega), if_pos rfl]
    · rw [if_neg (by omega), if_pos rfl]
    · rw [if_pos rfl]
  · obtain ⟨q1, q2, q3, q4, a', c', q5⟩ := h3 i (by omega)
    refine ⟨?_, ?_, ?_, ?_, a', c', ?_⟩
    · rw [if_neg (by omega), if_neg (by omega), if_neg (by omega), if_neg (by omega), if_neg (by omega)]; exact q1
    · rw [if_neg (by omega), if_neg (by omega), if_neg (by omega), if_neg (by omega), if_neg (by omega)]; exact q2
    · rw [if_neg (by omega), if_neg (by omega), if_neg (by omega), if_neg (by omega), if_neg (by omega)]; exact q3
    · rw [if_neg (by omega), if_neg (by omega), if_neg (by omega), if_neg (by omega), if_neg (by omega)]; exact q4
    · rw [if_neg (by omega), if_neg (by omega), if_neg (by omega), if_neg (by omega), if_neg (by omega)]; exact q5
theorem put5_below {B : Nat} {w0 w : World} (h : Below B w0 w) {g o : Nat} (hg : B ≤ g) (l : Ls) (a : Option Addr) (c : Nat) : Below B w0 (put5 w g o l a c) :=
  ((((h.setCell (p := ⟨g, _, none⟩) hg _).setCell (p := ⟨g, _, none⟩) hg _).setCell (p := ⟨g, _, none⟩) hg _).setCell (p := ⟨g, _, none⟩) hg _).setCell (p := ⟨g, _, none⟩) hg _

def Five (w : World) (g o : Nat) (l : Ls) (a : Option Addr) (c : Nat) : Prop := w.cell? ⟨g, o, none⟩ = some (.string l.mesh) ∧ w.cell? ⟨g, o + 1, none⟩ = some (.int .u8 l.pk.b) ∧ w.cell? ⟨g, o + 1 + 1, none⟩ = some (.string l.pk.nm) ∧ w.cell? ⟨g, o + 1 + 2, none⟩ = some (.string l.pk.vl) ∧ w.cell? ⟨g, o + 4, none⟩ = some (.slice a l.n c)
theorem Five.below {w w' : World} {B g o : Nat} {l : Ls} {a : Option Addr} {c : Nat} (h : Five w g o l a c) (hb : Below B w w') (hg : g < B) : Five w' g o l a c :=
  ⟨(hb.cell (p := ⟨g, o, none⟩) hg).trans h.1, (hb.cell (p := ⟨g, o + 1, none⟩) hg).trans h.2.1, (hb.cell (p := ⟨g, o + 1 + 1, none⟩) hg).trans h.2.2.1, (hb.cell (p := ⟨g, o + 1 + 2, none⟩) hg).trans h.2.2.2.1, (hb.cell (p := ⟨g, o + 4, none⟩) hg).trans h.2.2.2.2⟩
theorem Five.set {w : World} {g o : Nat} {l : Ls} {a : Option Addr} {c : Nat} (h : Five w g o l a c) {x j : Nat} {v : Value} (hx : g ≠ x) : Five (w.setCell ⟨x, j, none⟩ v) g o l a c := by
  have e : ∀ i, (w.setCell ⟨x, j, none⟩ v).cell? ⟨g, i, none⟩ = w.cell? ⟨g, i, none⟩ := fun i => World.cell?_of_block (Below.heap_setCell w ⟨x, j, none⟩ v g hx)
  exact ⟨(e _).trans h.1, (e _).trans h.2.1, (e _).trans h.2.2.1, (e _).trans h.2.2.2.1, (e _).trans h.2.2.2.2⟩

set_option maxRecDepth 100000 in
set_option maxHeartbeats 1600000 in
/-- 'zzCopyListed'. -/
theorem copy_listed (ao : Option Addr) (cap : Nat) (ls : List Ls) (w : World) (hn : ls.length ≤ 4096) (h : ListsIn w ao ls) (hnil : ao = none → cap = 0) (hlen : ∀ i, i < ls.length → (ls.getD i ls0).n ≤ 1048576) :
    Calls Try.prog 9 #[.slice ao ls.length cap] w fun e w' => ∃ ao' cap', e = .returned (.slice ao' ls.length cap') ∧ Lists w' ao' ls ∧ (ao' = none → cap' = 0) ∧ Below w.heap.size w w' := by
  have hq := fun wx => Lib.run_eql_slice_nil (P := Try.prog) wx 22 52 ao ls.length cap 0 0 Try.underlying22
  obtain ⟨i0, hi, hz0, hz1, hz2⟩ := info_parts Try.info52
  cases ao with
  | none =>
    have hlen : ls.length = 0 := by
      rcases Nat.eq_zero_or_pos ls.length with h0 | h0
      · exact h0
      · obtain ⟨_, _, e, _⟩ := h 0 h0; cases e
    obtain rfl := List.eq_nil_of_length_eq_zero hlen
    obtain rfl := hnil rfl
    clear hnil h hlen
    simp only [Option.isNone_none, List.length_nil] at hq ⊢
    go_enter Try.func9, Try.ntmps9
    go_wp2_with fail
    go_ret
    exact ⟨none, 0, rfl, fun i hi => absurd hi (by simp), fun _ => rfl, Below.refl _ _⟩
  | some x =>
    clear hnil
    simp only [Option.isNone_some] at hq
    go_enter Try.func9, Try.ntmps9
    go_wp2_with (first | (at_make; go_must (refine wpList_make_full _ rfl _ _ 22 rfl w.heap.size 52 i0 _ 5 Try.underlying22 hi hz0 hz1 .i64 .i64 _ _ ls.length rfl rfl (by omega) (by omega) ?c1 ?c2 (Nat.le_refl _) ?_)))
    case c1 => rw [hz2]; omega
    case c2 => unfold maxLen; omega
    intro w1 hown hgr
    have hs1 : RowL w1 w.heap.size 52 ls.length 0 ls := rowL_made hown
    have hb1 : Below w.heap.size w w1 := (Below.refl _ _).grown hgr (Nat.le_refl _) (fun k h => by cases h)
    clear hown hgr hq
    go_wp2
    go_loopw [4] (fun i wr => ∃ k : Nat, k ≤ ls.length ∧ i = .int .i64 k ∧ RowL wr w.heap.size 52 ls.length k ls ∧ Below w.heap.size w wr) (fun i _ => ls.length - (intOf i).toNat)
    case atStart => exact ⟨0, by omega, rfl, hs1, hb1⟩
    case round =>
      clear hs1 hb1
      obtain ⟨k, hk, rfl, hs, hbw⟩ := hrel
      by_cases hlt : k < ls.length
      · obtain ⟨g, off, e, q0, hp, a, c, q4, hints, hnl⟩ := h k hlt
        cases e
        have hg := lt_of_cell q0
        have hll := hlen k hlt
        obtain ⟨q1, q2, q3⟩ := hp.below hbw hg
        replace q0 := (hbw.cell (p := ⟨g, off + k * 5, none⟩) hg).trans q0
        replace q4 := (hbw.cell (p := ⟨g, off + k * 5 + 4, none⟩) hg).trans q4
        replace hints := hints.below hbw
        clear hp
        generalize hpk : ls.getD k ls0 = l at q0 q1 q2 q3 q4 hints hnl hll
        have HP : Hid (ls.getD k ls0 = l) := hpk
        clear hpk
        have hz : w.heap.size < wr.heap.size := lt_of_heap hs.choose_spec.1
        have fin : ∀ w2, Below wr.drew.heap.size wr.drew w2 → RowL w2 w.heap.size 52 ls.length k ls ∧ Below w.heap.size w w2 := fun w2 hb2 => ⟨RowL.below (w := wr.drew) hs hb2, below_step (w1 := wr.drew) hbw.drew hb2 (Nat.le_of_lt hz)⟩
        have F0 : Hid (Five wr.drew g (off + k * 5) l a c) := ⟨q0, q1, q2, q3, q4⟩
        have F1 : Hid (∀ w2, Below wr.drew.heap.size wr.drew w2 → Five w2 g (off + k * 5) l a c) := fun w2 hb2 => Five.below F0 hb2 (lt_of_cell q0)
        have F2 : Hid (∀ w2 o0 o1 o2 o3 o4 v0 v1 v2 v3 v4, Below wr.drew.heap.size wr.drew w2 → Five (((((w2.setCell ⟨w.heap.size, o0, none⟩ v0).setCell ⟨w.heap.size, o1, none⟩ v1).setCell ⟨w.heap.size, o2, none⟩ v2).setCell ⟨w.heap.size, o3, none⟩ v3).setCell ⟨w.heap.size, o4, none⟩ v4) g (off + k * 5) l a c) := fun w2 _ _ _ _ _ _ _ _ _ _ hb2 => ((((((Five.below F0 hb2 (lt_of_cell q0)).set (Nat.ne_of_lt hg)).set (Nat.ne_of_lt hg)).set (Nat.ne_of_lt hg)).set (Nat.ne_of_lt hg)).set (Nat.ne_of_lt hg))
        have FIN : Hid (∀ w2, Below wr.drew.heap.size wr.drew w2 → RowL w2 w.heap.size 52 ls.length k ls ∧ Below w.heap.size w w2) := fin
        have HNL : Hid (a = none → l.n = 0) := hnl
        clear fin hnl hlen hi hz0 hz1 hz2
        unfold Five at F0 F1 F2
        go_wp2_with fail
        go_region_held3 (fun w' => w'.cell? ⟨g, off + k * 5, none⟩ = some (.string l.mesh) ∧ w'.cell? ⟨g, off + k * 5 + 1, none⟩ = some (.int .u8 l.pk.b) ∧ w'.cell? ⟨g, off + k * 5 + 1 + 1, none⟩ = some (.string l.pk.nm) ∧ w'.cell? ⟨g, off + k * 5 + 1 + 2, none⟩ = some (.string l.pk.vl) ∧ w'.cell? ⟨g, off + k * 5 + 4, none⟩ = some (.slice a l.n c))
          (first
            | (with_reducible exact F0.out)
            | (with_reducible exact F1.out _ hb2)
            | (with_reducible exact F2.out _ _ _ _ _ _ _ _ _ _ _ hb2))
          ((go_at_call 21; refine (copy_ints a l.n c _ hll (by exact hints) HNL.out).mono ?_; rintro e w2 ⟨a2, c2, rfl, hb2⟩; obtain ⟨hs2, hb3⟩ := FIN.out w2 hb2; obtain ⟨f0, u0, d0⟩ := hs2.free (k * 5) (by omega); obtain ⟨f1, u1, d1⟩ := hs2.free (k * 5 + 1) (by omega); obtain ⟨f2, u2, d2⟩ := hs2.free (k * 5 + 2) (by omega); obtain ⟨f3, u3, d3⟩ := hs2.free (k * 5 + 3) (by omega); obtain ⟨f4, u4, d4⟩ := hs2.free (k * 5 + 4) (by omega)))
        go_wp2
        go_roundw
        case rel => exact ⟨k + 1, by omega, by go_num, hs2.put hlt l a2 c2 HP, put5_below hb3 (Nat.le_refl _) l a2 c2⟩
        case measure => simp [intOf]; omega
      · go_wp2
        go_ret
        obtain rfl : k = ls.length := by omega
        exact ⟨_, _, rfl, hs.lists, fun h => (by cases h), hbw⟩
set_option maxRecDepth 100000 in
set_option maxHeartbeats 1600000 in
/-- 'zzZZListed'. -/
theorem zz_listed (ao : Option Addr) (cap : Nat) (ls : List Ls) (w : World) (hn : ls.length ≤ 4096) (h : Lists w ao ls) (hnil : ao = none → cap = 0) :
    Calls Try.prog 12 #[.slice ao ls.length cap] w fun e w' => ∃ ao' cap', e = .returned (.slice ao' ls.length cap') ∧ Lists w' ao' ls ∧ (ao' = none → cap' = 0) ∧ Below w.heap.size w w' := by
  have hq := fun wx => Lib.run_eql_slice_nil (P := Try.prog) wx 22 52 ao ls.length cap 0 0 Try.underlying22
  obtain ⟨i0, hi, hz0, hz1, hz2⟩ := info_parts Try.info62
  cases ao with
  | none =>
    have hlen : ls.length = 0 := by
      rcases Nat.eq_zero_or_pos ls.length with h0 | h0
      · exact h0
      · obtain ⟨_, _, e, _⟩ := h 0 h0; cases e
    obtain rfl := List.eq_nil_of_length_eq_zero hlen
    obtain rfl := hnil rfl
    clear hnil h hlen
    simp only [Option.isNone_none, List.length_nil] at hq ⊢
    go_enter Try.func12, Try.ntmps12
    go_wp2_with fail
    go_ret
    exact ⟨none, 0, rfl, fun i hi => absurd hi (by simp), fun _ => rfl, Below.refl _ _⟩
  | some x =>
    clear hnil
    simp only [Option.isNone_some] at hq
    go_enter Try.func12, Try.ntmps12
    go_wp2_with (first | (at_make; go_must (refine wpList_make_full _ rfl _ _ 30 rfl w.heap.size 62 i0 _ 5 Try.underlying30 hi hz0 hz1 .i64 .i64 _ _ ls.length rfl rfl (by omega) (by omega) ?c1 ?c2 (Nat.le_refl _) ?_)))
    case c1 => rw [hz2]; omega
    case c2 => unfold maxLen; omega
    intro w1 hown hgr
    have hs1 : RowL w1 w.heap.size 62 ls.length 0 ls := rowL_made hown
    have hb1 : Below w.heap.size w w1 := (Below.refl _ _).grown hgr (Nat.le_refl _) (fun k h => by cases h)
    clear hown hgr hq
    go_wp2
    go_loopw [4] (fun i wr => ∃ k : Nat, k ≤ ls.length ∧ i = .int .i64 k ∧ RowL wr w.heap.size 62 ls.length k ls ∧ Below w.heap.size w wr) (fun i _ => ls.length - (intOf i).toNat)
    case atStart => exact ⟨0, by omega, rfl, hs1, hb1⟩
    case round =>
      clear hs1 hb1
      obtain ⟨k, hk, rfl, hs, hbw⟩ := hrel
      by_cases hlt : k < ls.length
      · obtain ⟨g, off, e, hp⟩ := h k hlt
        cases e
        obtain ⟨q0, ⟨q1, q2, q3⟩, a, c, q4⟩ := hp.below hbw (lt_of_cell hp.1)
        generalize hpk : ls.getD k ls0 = l at q0 q1 q2 q3 q4
        have HP : Hid (ls.getD k ls0 = l) := hpk
        clear hpk hp hi hz0 hz1 hz2
        go_wp2
        have hbA : Below wr.heap.size wr (wr.alloc (.cells #[.int .u8 l.pk.b, .string l.pk.nm, .string l.pk.vl] 38)) := (Below.refl _ _).alloc (Nat.le_refl _) _
        have hs2 := hs.below hbA
        have hb3 := below_step hbw hbA (Nat.le_of_lt (lt_of_heap hs.choose_spec.1))
        have hgr := lt_of_cell q0
        have hL := LsAt.below ⟨q0, ⟨q1, q2, q3⟩, a, c, q4⟩ hbA hgr
        have hnew := heap_alloc_new wr (.cells #[.int .u8 l.pk.b, .string l.pk.nm, .string l.pk.vl] 38)
        generalize wr.alloc (.cells #[.int .u8 l.pk.b, .string l.pk.nm, .string l.pk.vl] 38) = wA at hs2 hb3 hL hnew ⊢
        generalize wr.heap.size = G at hnew ⊢
        have p0 : wA.cell? ⟨G, 0, none⟩ = some (.int .u8 l.pk.b) := by rw [cell_of_row wA G 0 _ 38 _ hnew]; rfl
        have p1 : wA.cell? ⟨G, 1, none⟩ = some (.string l.pk.nm) := by rw [cell_of_row wA G 1 _ 38 _ hnew]; rfl
        have p2 : wA.cell? ⟨G, 2, none⟩ = some (.string l.pk.vl) := by rw [cell_of_row wA G 2 _ 38 _ hnew]; rfl
        clear hnew hgr q0 q1 q2 q3 q4 hbA hs hbw
        obtain ⟨q0, ⟨q1, q2, q3⟩, a, c, q4⟩ := hL
        clear q1 q2 q3
        obtain ⟨f0, u0, d0⟩ := hs2.free (k * 5) (by omega)
        obtain ⟨f1, u1, d1⟩ := hs2.free (k * 5 + 1) (by omega)
        obtain ⟨f2, u2, d2⟩ := hs2.free (k * 5 + 2) (by omega)
        obtain ⟨f3, u3, d3⟩ := hs2.free (k * 5 + 3) (by omega)
        obtain ⟨f4, u4, d4⟩ := hs2.free (k * 5 + 4) (by omega)
        go_region
        go_wp2
        go_roundw
        case rel => exact ⟨k + 1, by omega, by go_num, hs2.put hlt l a c HP, (put5_below hb3 (Nat.le_refl _) l a c).drew⟩
        case measure => simp [intOf]; omega
      · go_wp2
        go_ret
        obtain rfl : k = ls.length := by omega
        exact ⟨_, _, rfl, hs.lists, fun h => (by cases h), hbw⟩
end Go.Proofs.Qxb6604404a
