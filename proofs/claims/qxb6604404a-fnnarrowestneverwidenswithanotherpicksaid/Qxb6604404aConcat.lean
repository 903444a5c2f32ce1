import Derived.Test.Qxb6604404aIndex
import Derived.Laws.OwnMore
import Derived.Lib.AppendZeros
import Derived.Deep.AppendLies
namespace Go.Proofs.Qxb6604404a
open Go.RowKit
set_option linter.unusedVariables false
set_option linter.unusedSectionVars false
variable [DecidableEq Pk]

/-! ### PICKS, LAID FLAT -/
def flatP (ps : List Pk) : List Value := ps.flatMap (fun p => [.int .u8 p.b, .string p.nm, .string p.vl])
theorem flatP_cons (p : Pk) (ps : List Pk) : flatP (p :: ps) = .int .u8 p.b :: .string p.nm :: .string p.vl :: flatP ps := rfl
theorem flatP_append (ps qs : List Pk) : flatP (ps ++ qs) = flatP ps ++ flatP qs := by simp [flatP]
theorem flatP_length (ps : List Pk) : (flatP ps).length = ps.length * 3 := by
  induction ps with
  | nil => rfl
  | cons p ps ih => rw [flatP_cons]; simp only [List.length_cons, ih]; omega
theorem flatP_one (ps : List Pk) : ∀ u ∈ flatP ps, u.oneCell' = true := by
  intro u hu
  simp only [flatP, List.mem_flatMap, List.mem_cons, List.not_mem_nil, or_false] at hu
  obtain ⟨p, _, rfl | rfl | rfl⟩ := hu <;> rfl
theorem flatP_get (ps : List Pk) : ∀ i, i < ps.length → (flatP ps)[i * 3]? = some (.int .u8 (ps.getD i pk0).b) ∧ (flatP ps)[i * 3 + 1]? = some (.string (ps.getD i pk0).nm) ∧ (flatP ps)[i * 3 + 2]? = some (.string (ps.getD i pk0).vl) := by
  induction ps with
  | nil => intro i hi; simp at hi
  | cons p ps ih =>
    intro i hi
    rw [flatP_cons]
    match i with
    | 0 => exact ⟨rfl, rfl, rfl⟩
    | i + 1 =>
      have e : (i + 1) * 3 = i * 3 + 3 := by omega
      rw [e]
      simpa using ih i (by simpa using hi)
theorem news_of_picks {w : World} {g : Nat} (ps : List Pk) : ∀ off, Picks w (some ⟨g, off, none⟩) ps → ∀ j u, (flatP ps)[j]? = some u → w.cell? ⟨g, off + j, none⟩ = some u := by
  induction ps with
  | nil => intro off _ j u h; simp [flatP] at h
  | cons p ps ih =>
    intro off h j u hu
    rw [flatP_cons] at hu
    obtain ⟨g0, off0, e, h0, h1, h2⟩ := h 0 (by simp)
    cases e
    match j, hu with
    | 0, hu => simp at hu; subst hu; simpa using h0
    | 1, hu => simp at hu; subst hu; simpa using h1
    | 2, hu => simp at hu; subst hu; simpa using h2
    | j + 3, hu =>
      have := ih (off + 3) (fun i hi => by
        obtain ⟨g1, off1, e, h3⟩ := h (i + 1) (by simpa using hi)
        cases e
        refine ⟨g, off + 3, rfl, ?_⟩
        have e2 : off + (i + 1) * 3 = off + 3 + i * 3 := by omega
        rw [e2] at h3
        simpa using h3) j u (by simpa using hu)
      rw [show off + (j + 3) = off + 3 + j by omega]
      exact this
theorem own_picks {w : World} {base n : Nat} {v : Value} {ps : List Pk} (h : w.ownsRow base 65 3 v n (flatP ps)) : ∃ ao cap, v = .slice ao ps.length cap ∧ Picks w ao ps ∧ (ao = none → cap = 0) := by
  have hn : n = ps.length := by have := h.1; rw [flatP_length] at this; omega
  subst hn
  rcases id h.2 with ⟨rfl, h0⟩ | ⟨g, cap, cur, rfl, _⟩
  · exact ⟨none, 0, by rw [h0], fun i hi => by omega, fun _ => rfl⟩
  · refine ⟨some ⟨g, 0, none⟩, cap, rfl, fun i hi => ⟨g, 0, rfl, ?_⟩, fun e => by cases e⟩
    obtain ⟨q1, q2, q3⟩ := flatP_get ps i hi
    refine ⟨?_, ?_, ?_⟩
    · rw [Nat.zero_add, h.cellAt _ (by omega)]; exact q1
    · rw [Nat.zero_add, h.cellAt _ (by omega)]; exact q2
    · rw [Nat.zero_add, h.cellAt _ (by omega)]; exact q3
theorem add_none (g off j : Nat) : (⟨g, off, none⟩ : Addr).add j = ⟨g, off + j, none⟩ := by
  unfold Addr.add
  split
  · rename_i h; subst h; rfl
  · rfl
theorem run_cat {w : World} {base n : Nat} {v : Value} {xs : List Value} (hown : w.ownsRow base 65 3 v n xs) (hb : base ≤ w.heap.size) (ao : Option Addr) (c : Nat) (ps : List Pk) (hnil : ao = none → c = 0) (hp : Picks w ao ps) (hlim : n + ps.length ≤ 100000) (hsp : ∀ a, ao = some a → a = ⟨a.block, a.off, none⟩) (ty : TypeId) :
    ∃ v' w', (Builtin.append_ #[71, 71] ty #[v, .slice ao ps.length c]).run Try.prog w = .ok v' w' ∧ w'.ownsRow base 65 3 v' (n + ps.length) (xs ++ flatP ps) ∧ w.grownBy w' v.ownBlock := by
  obtain ⟨i0, hi, hz0, hz1, hz2⟩ := info_parts Try.info65
  cases ao with
  | none =>
    have h0 : ps.length = 0 := by
      rcases Nat.eq_zero_or_pos ps.length with h0 | h0
      · exact h0
      · obtain ⟨_, _, e, _⟩ := hp 0 h0; cases e
    obtain rfl := List.eq_nil_of_length_eq_zero h0
    obtain rfl := hnil rfl
    refine ⟨v, w, run_append_owned_none w base 71 ty 65 i0 3 Try.underlying71 hi v n xs hown, by simpa [flatP] using hown, World.grownBy.refl _ _⟩
  | some a =>
    obtain ⟨g, off, sp⟩ := a
    obtain rfl : sp = none := by have := hsp _ rfl; simpa using this
    obtain ⟨v', w', h1, h2, h3, _⟩ := run_append_own w base 71 ty 65 i0 _ 3 40 Try.underlying71 hi hz0 hz1 hz2 rfl (by omega) v n xs hown ⟨g, off, none⟩ ps.length c (flatP ps) (flatP_length ps) (fun j u hu => by rw [add_none]; exact news_of_picks ps off hp j u hu) (flatP_one ps) (by unfold maxLen; omega) (by omega) hb
    exact ⟨v', w', h1, h2, h3⟩
theorem below_own {B : Nat} {w w1 w2 : World} {v : Value} {n : Nat} {xs : List Value} (h : Below B w w1) (hown : w1.ownsRow B 65 3 v n xs) (hg : w1.grownBy w2 v.ownBlock) (hs : B ≤ w1.heap.size) : Below B w w2 := h.grown hg hs (fun k e => by
  rcases hown.2 with ⟨rfl, _⟩ | ⟨g, cap, cur, rfl, hb, _⟩
  · cases e
  · cases e; exact hb)

set_option maxRecDepth 100000 in
set_option maxHeartbeats 1600000 in
/-- 'slices.Grow(nil, n)'. -/
theorem grow_nil (n : Nat) (w : World) (hn : n ≤ 100000) :
    Calls Try.prog 35 #[.slice none 0 0, .int .i64 n] w fun e w' => ∃ v, e = .returned v ∧ w'.ownsRow w.heap.size 65 3 v 0 [] ∧ Below w.heap.size w w' := by
  by_cases h0 : n = 0
  · subst h0
    go_enter Try.func35, Try.ntmps35
    go_wp2
    go_ret
    exact ⟨_, rfl, ⟨rfl, .inl ⟨rfl, rfl⟩⟩, Below.refl _ _⟩
  · obtain ⟨i0, hi, hz0, hz1, hz2⟩ := info_parts Try.info65
    have hr := fun wx ty => Lib.run_append_nil_zeros (P := Try.prog) wx 71 3 ty 65 i0 _ .i64 .i64 Try.underlying71 Try.underlying3 hi hz0 n (by omega) (by omega) (by omega) (by rw [hz2]; omega)
    have hG := grownCap_ge w n 0 65
    have hG2 := grownCap_le_maxLen w n 0 65 (by unfold maxLen; omega)
    go_enter Try.func35, Try.ntmps35
    go_wp2_with (at_builtin; refine Lib.wpList_append_run _ rfl _ _ _ _ rfl _ _ rfl rfl _ _ (hr _ _) ?_)
    go_ret
    refine ⟨_, rfl, ⟨rfl, .inr ⟨w.heap.size, _, _, rfl, Nat.le_refl _, heap_alloc_new w.drew _, Nat.zero_le _, hG2, ?_, rfl⟩⟩, ((Below.refl _ _).drew).alloc (Nat.le_refl _) _⟩
    simp only [Array.size_append, size_zeroCells]
    generalize grownCap w n 0 65 = G at hG hG2
    simp
    omega

set_option maxRecDepth 100000 in
set_option maxHeartbeats 1600000 in
/-- 'slices.Concat' of two slices. -/
theorem concat2 (a1 a2 : Option Addr) (c1 c2 : Nat) (ps qs : List Pk) (G : Nat) (w : World) (h0 : w.cell? ⟨G, 0, none⟩ = some (.slice a1 ps.length c1)) (h1 : w.cell? ⟨G, 1, none⟩ = some (.slice a2 qs.length c2))
    (hp : Picks w a1 ps) (hq : Picks w a2 qs) (hn1 : a1 = none → c1 = 0) (hn2 : a2 = none → c2 = 0) (s1 : ∀ a, a1 = some a → a = ⟨a.block, a.off, none⟩) (s2 : ∀ a, a2 = some a → a = ⟨a.block, a.off, none⟩) (hlp : ps.length ≤ 5000) (hlq : qs.length ≤ 5000) :
    Calls Try.prog 30 #[.slice (some ⟨G, 0, none⟩) 2 2] w fun e w' => ∃ v, e = .returned v ∧ w'.ownsRow w.heap.size 65 3 v (ps.length + qs.length) (flatP (ps ++ qs)) ∧ Below w.heap.size w w' := by
  have HN1 : Hid (a1 = none → c1 = 0) := hn1
  have HN2 : Hid (a2 = none → c2 = 0) := hn2
  have S1 : Hid (∀ a, a1 = some a → a = ⟨a.block, a.off, none⟩) := s1
  have S2 : Hid (∀ a, a2 = some a → a = ⟨a.block, a.off, none⟩) := s2
  clear hn1 hn2 s1 s2
  go_enter Try.func30, Try.ntmps30
  go_wp2
  go_loop [11, 3] (fun i s => (i = .int .i64 0 ∧ s = .int .i64 0) ∨ (i = .int .i64 1 ∧ s = .int .i64 ps.length) ∨ (i = .int .i64 2 ∧ s = .int .i64 (ps.length + qs.length))) (fun i _ => 2 - (intOf i).toNat)
  case atStart => exact .inl ⟨rfl, rfl⟩
  case round =>
    rcases hrel with ⟨rfl, rfl⟩ | ⟨rfl, rfl⟩ | ⟨rfl, rfl⟩
    · go_wp2
      go_round
      case rel => exact .inr (.inl ⟨by go_num, by simp⟩)
      case measure => simp [intOf]
    · go_wp2
      go_round
      case rel => exact .inr (.inr ⟨by go_num, by simp⟩)
      case measure => simp [intOf]
    · have hgr := grow_nil (ps.length + qs.length) w (by omega)
      rw [Int.natCast_add] at hgr
      go_wp2_with fail
      refine hgr.mono ?_
      rintro e w1 ⟨v0, rfl, hown0, hb0⟩
      clear hgr
      go_wp2
      go_loopw [27, 6] (fun i v wr => ∃ n ts, wr.ownsRow w.heap.size 65 3 v n (flatP ts) ∧ n = ts.length ∧ Below w.heap.size w wr ∧ ((i = .int .i64 0 ∧ ts = []) ∨ (i = .int .i64 1 ∧ ts = ps) ∨ (i = .int .i64 2 ∧ ts = ps ++ qs))) (fun i _ _ => 2 - (intOf i).toNat)
      case atStart => exact ⟨0, [], hown0, rfl, hb0, .inl ⟨rfl, rfl⟩⟩
      case round =>
        clear hown0 hb0
        obtain ⟨n, ts, hown, hnt, hbw, hts⟩ := hrel
        have h0' := (hbw.cell (p := ⟨G, 0, none⟩) (lt_of_cell h0)).trans h0
        have h1' := (hbw.cell (p := ⟨G, 1, none⟩) (lt_of_cell h1)).trans h1
        rcases hts with ⟨rfl, rfl⟩ | ⟨rfl, rfl⟩ | ⟨rfl, rfl⟩
        · obtain ⟨v', w', hr, hown', hg⟩ := run_cat hown hbw.size a1 c1 ps HN1.out (hp.below hbw) (by simp at hnt; omega) S1.out 71
          have hb' := below_own hbw hown hg hbw.size
          have HO : Hid (w'.ownsRow w.heap.size 65 3 v' (n + ps.length) (flatP [] ++ flatP ps)) := hown'
          clear hown' hown hg
          go_wp2_with (at_builtin; refine Lib.wpList_append_run _ rfl _ _ _ _ rfl _ _ rfl rfl _ _ hr ?_)
          go_roundw
          case rel => exact ⟨_, ps, by simpa [flatP] using HO.out, by simp at hnt; omega, hb', .inr (.inl ⟨by go_num, rfl⟩)⟩
          case measure => simp [intOf]
        · obtain ⟨v', w', hr, hown', hg⟩ := run_cat hown hbw.size a2 c2 qs HN2.out (hq.below hbw) (by omega) S2.out 71
          have hb' := below_own hbw hown hg hbw.size
          have HO : Hid (w'.ownsRow w.heap.size 65 3 v' (n + qs.length) (flatP ts ++ flatP qs)) := hown'
          clear hown' hown hg
          go_wp2_with (at_builtin; refine Lib.wpList_append_run _ rfl _ _ _ _ rfl _ _ rfl rfl _ _ hr ?_)
          go_roundw
          case rel => exact ⟨_, ts ++ qs, by rw [flatP_append]; exact HO.out, by simp; omega, hb', .inr (.inr ⟨by go_num, rfl⟩)⟩
          case measure => simp [intOf]
        · obtain rfl : n = ps.length + qs.length := by simpa using hnt
          go_wp2
          go_ret
          exact ⟨_, rfl, hown, hbw⟩
end Go.Proofs.Qxb6604404a
