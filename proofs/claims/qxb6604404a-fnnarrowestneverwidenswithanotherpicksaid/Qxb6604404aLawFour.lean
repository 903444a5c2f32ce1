import Derived.Test.Qxb6604404aZn
import Derived.Test.Qxb6604404aCount
import Derived.Test.Qxb6604404aBytes
namespace Go.Proofs.Qxb6604404a
open Go.RowKit
set_option linter.unusedVariables false
set_option linter.unusedSectionVars false
variable [DecidableEq Pk]

/-! ### WHAT LATER CALLS LEAVE -/
def Kept (w : World) (P : World → Prop) : Prop := ∀ w', Below w.heap.size w w' → P w'
theorem Kept.now {w : World} {P : World → Prop} (h : Kept w P) : P w := h w (Below.refl _ _)
theorem Kept.next {w w1 : World} {P : World → Prop} (h : Kept w P) (hb : Below w.heap.size w w1) : Kept w1 P := fun w' hb' => h w' (below_step hb hb' hb.size)
theorem kept_picks {w : World} {a : Option Addr} {ps : List Pk} (h : Picks w a ps) : Kept w (fun w' => Picks w' a ps) := fun _ hb => h.below hb
theorem kept_lists {w : World} {a : Option Addr} {ls : List Ls} (h : Lists w a ls) : Kept w (fun w' => Lists w' a ls) := fun _ hb => h.below hb
theorem kept_listsIn {w : World} {a : Option Addr} {ls : List Ls} (h : ListsIn w a ls) : Kept w (fun w' => ListsIn w' a ls) := fun _ hb => h.below hb
theorem kept_pk {w : World} {g o : Nat} {p : Pk} (h : PkAt w g o p) : Kept w (fun w' => PkAt w' g o p) := fun _ hb => h.below hb (lt_of_cell h.1)
theorem kept_idx {w : World} {X b1 b2 n1 n2 : Nat} {ls : List Ls} {ks : List Pk} (h : Idx w X b1 b2 n1 n2 ls ks) : Kept w (fun w' => Idx w' X b1 b2 n1 n2 ls ks) := fun _ hb => h.below hb
theorem kept_below {w0 w : World} {B : Nat} (h : Below B w0 w) (hB : B ≤ w.heap.size) : Kept w (fun w' => Below B w0 w') := fun _ hb => below_step h hb hB
theorem ListsIn.lists {w : World} {a : Option Addr} {ls : List Ls} (h : ListsIn w a ls) : Lists w a ls := fun i hi => by
  obtain ⟨g, off, e, h1, h2, a', c', h3, h4⟩ := h i hi
  exact ⟨g, off, e, h1, h2, a', c', h3⟩
theorem pkAt_new (w : World) (p : Pk) (t : TypeId) : PkAt (w.alloc (.cells #[.int .u8 p.b, .string p.nm, .string p.vl] t)) w.heap.size 0 p := by
  have h := heap_alloc_new w (.cells #[.int .u8 p.b, .string p.nm, .string p.vl] t)
  exact ⟨by rw [cell_of_row _ _ 0 _ t _ h]; rfl, by rw [cell_of_row _ _ 1 _ t _ h]; rfl, by rw [cell_of_row _ _ 2 _ t _ h]; rfl⟩

/-! ### THE PLAIN LAW -/
theorem narrow_le (ls : List Ls) (ks : List Pk) (m : ByteArray) : ∀ (L : List Pk) (f : Pk), cnt ls m (L.foldl (step1 ls ks m) f) ≤ cnt ls m f := by
  intro L
  induction L with
  | nil => intro f; exact Nat.le_refl _
  | cons p L ih =>
    intro f
    refine Nat.le_trans (ih _) ?_
    unfold step1
    split
    · rename_i h; exact Nat.le_of_lt h.2
    · exact Nat.le_refl _
theorem narrow_le_mem (ls : List Ls) (ks : List Pk) (m : ByteArray) : ∀ (L : List Pk) (f k : Pk), k ∈ L → lists ks k = true → cnt ls m (L.foldl (step1 ls ks m) f) ≤ cnt ls m k := by
  intro L
  induction L with
  | nil => intro f k h; cases h
  | cons p L ih =>
    intro f k h hk
    rcases List.mem_cons.1 h with rfl | h
    · refine Nat.le_trans (narrow_le ls ks m L _) ?_
      unfold step1
      split
      · exact Nat.le_refl _
      · rename_i h'
        have : ¬ cnt ls m k < cnt ls m f := fun h'' => h' ⟨hk, h''⟩
        omega
    · exact ih _ k h hk
theorem narrow_in (ls : List Ls) (ks : List Pk) (m : ByteArray) : ∀ (L : List Pk) (f : Pk), L.foldl (step1 ls ks m) f = f ∨ (L.foldl (step1 ls ks m) f ∈ L ∧ lists ks (L.foldl (step1 ls ks m) f) = true) := by
  intro L
  induction L with
  | nil => intro f; exact .inl rfl
  | cons p L ih =>
    intro f
    rw [List.foldl_cons]
    rcases ih (step1 ls ks m f p) with h | h
    · rw [h]
      unfold step1
      split
      · rename_i h'; exact .inr ⟨List.mem_cons_self .., h'.1⟩
      · exact .inl rfl
    · exact .inr ⟨List.mem_cons_of_mem _ h.1, h.2⟩
/-- One pick more never widens. -/
theorem never_widens (ls : List Ls) (ks : List Pk) (m : ByteArray) (ps qs os : List Pk) (x : Pk) :
    cnt ls m (narrow ls ks m (ps ++ [x] ++ qs ++ os)) ≤ cnt ls m (narrow ls ks m (ps ++ qs ++ os)) ∧ cnt ls m (narrow ls ks m (ps ++ qs ++ os)) ≤ cnt ls m pk0 ∧ (lists ks x = true → cnt ls m (narrow ls ks m (ps ++ [x] ++ qs ++ os)) ≤ cnt ls m x) := by
  refine ⟨?_, narrow_le ls ks m _ pk0, fun h => narrow_le_mem ls ks m _ pk0 x (by simp) h⟩
  rcases narrow_in ls ks m (ps ++ qs ++ os) pk0 with h | h
  · unfold narrow
    rw [h]
    exact narrow_le ls ks m _ pk0
  · refine narrow_le_mem ls ks m _ pk0 _ ?_ h.2
    have h1 := h.1
    simp only [List.mem_append, List.mem_singleton] at h1 ⊢
    rcases h1 with (h1 | h1) | h1
    · exact .inl (.inl (.inl h1))
    · exact .inl (.inr h1)
    · exact .inr h1
/-- More picks. -/
theorem RowP.all {w : World} {g t n : Nat} {ps qs : List Pk} {k : Nat} (h : RowP w g t n k ps) (hq : ∀ i, i < k → qs.getD i pk0 = ps.getD i pk0) : RowP w g t n k qs := by
  obtain ⟨cur, h1, h2, h3⟩ := h
  exact ⟨cur, h1, h2, fun i hi => by rw [hq i hi]; exact h3 i hi⟩
theorem snoc_get (ps : List Pk) (x : Pk) (k : Nat) (h : k < ps.length) : (ps ++ [x]).getD k pk0 = ps.getD k pk0 := by
  rw [List.getD_eq_getElem?_getD, List.getD_eq_getElem?_getD, List.getElem?_append_left h]
theorem snoc_last (ps : List Pk) (x : Pk) : (ps ++ [x]).getD ps.length pk0 = x := by
  rw [List.getD_eq_getElem?_getD, List.getElem?_append_right (Nat.le_refl _)]
  simp

set_option maxRecDepth 100000 in
set_option maxHeartbeats 6400000 in
theorem law4 (a1 a2 a3 a4 a5 : Option Addr) (c1 c2 c3 c4 c5 : Nat) (ls : List Ls) (ks ps os qs : List Pk) (m : ByteArray) (sl vi : Bool) (x : Pk) (w : World)
    (h1 : ListsIn w a1 ls) (h2 : Picks w a2 ks) (h3 : Picks w a3 ps) (h4 : Picks w a4 os) (h5 : Picks w a5 qs) (hm : m.size ≤ maxLen)
    (l1 : ls.length ≤ maxLen) (l2 : ks.length ≤ maxLen) (l3 : ps.length ≤ maxLen) (l4 : os.length ≤ maxLen) (l5 : qs.length ≤ maxLen)
    (o1 : ∀ i, i < ls.length → (ls.getD i ls0).mesh.size ≤ maxLen ∧ (ls.getD i ls0).pk.ok ∧ (ls.getD i ls0).n ≤ maxLen) (o2 : ∀ p ∈ ks, p.ok) (o3 : ∀ p ∈ ps, p.ok) (o4 : ∀ p ∈ os, p.ok) (o5 : ∀ p ∈ qs, p.ok) (ox : x.ok)
    (e1 : a1 = none → c1 = 0) (e2 : a2 = none → c2 = 0) (e3 : a3 = none → c3 = 0) (e4 : a4 = none → c4 = 0) (e5 : a5 = none → c5 = 0) :
    Calls Try.prog 4 #[.slice a1 ls.length c1, .slice a2 ks.length c2, .string m, .bool sl, .slice a3 ps.length c3, .slice a4 os.length c4, .bool vi, .slice a5 qs.length c5, .agg #[.int .u8 x.b, .string x.nm, .string x.vl]] w fun e w' => e = .returned (.bool true) ∧ Below w.heap.size w w' := by
  have hbA : Below w.heap.size w (w.alloc (.cells #[.int .u8 x.b, .string x.nm, .string x.vl] 38)) := (Below.refl _ _).alloc (Nat.le_refl _) _
  have FX := kept_pk (pkAt_new w x 38)
  have FB := kept_below hbA hbA.size
  have F1 := (kept_listsIn h1).next hbA
  have F2 := (kept_picks h2).next hbA
  have F3 := (kept_picks h3).next hbA
  have F4 := (kept_picks h4).next hbA
  have F5 := (kept_picks h5).next hbA
  have O1 : Hid (∀ i, i < ls.length → (ls.getD i ls0).mesh.size ≤ maxLen ∧ (ls.getD i ls0).pk.ok ∧ (ls.getD i ls0).n ≤ maxLen) := o1
  have O2 : Hid (∀ p ∈ ks, p.ok) := o2
  have O3 : Hid (∀ p ∈ ps, p.ok) := o3
  have O4 : Hid (∀ p ∈ os, p.ok) := o4
  have O5 : Hid (∀ p ∈ qs, p.ok) := o5
  have OX : Hid x.ok := ox
  have E1 : Hid (a1 = none → c1 = 0) := e1
  have E2 : Hid (a2 = none → c2 = 0) := e2
  have E3 : Hid (a3 = none → c3 = 0) := e3
  have E4 : Hid (a4 = none → c4 = 0) := e4
  have E5 : Hid (a5 = none → c5 = 0) := e5
  have ML : maxLen = 9223372036854775807 := rfl
  have HM : Hid (m.size ≤ maxLen) := hm
  have xn := ox.2.1
  have xv := ox.2.2
  have K0 := gate17 a1 a2 a3 a4 a5 c1 c2 c3 c4 c5 ls ks ps os qs m sl vi x (w.alloc (.cells #[.int .u8 x.b, .string x.nm, .string x.vl] 38)) F1.now.lists F2.now F3.now F4.now F5.now hm l1 l2 l3 l4 l5 o1 o2 o3 o4 o5 ox
  have L12345 : Hid (ls.length ≤ maxLen ∧ ks.length ≤ maxLen ∧ ps.length ≤ maxLen ∧ os.length ≤ maxLen ∧ qs.length ≤ maxLen) := ⟨l1, l2, l3, l4, l5⟩
  have LN : Hid (ps.length = ps.length) := rfl
  rw [ML] at l1 l2 l3 l4 l5 xn xv hm
  clear h1 h2 h3 h4 h5 o1 o2 o3 o4 o5 ox e1 e2 e3 e4 e5 hbA ML
  go_enter Try.func4, Try.ntmps4
  go_wp2_with fail
  generalize w.alloc (.cells #[.int .u8 x.b, .string x.nm, .string x.vl] 38) = wA at K0 FX FB F1 F2 F3 F4 F5 ⊢
  refine K0.mono ?_
  rintro e w1 ⟨b, rfl, hb, hb1⟩
  clear K0
  replace FX := FX.next hb1
  replace FB := FB.next hb1
  replace F1 := F1.next hb1
  replace F2 := F2.next hb1
  replace F3 := F3.next hb1
  replace F4 := F4.next hb1
  replace F5 := F5.next hb1
  cases b with
  | false =>
    clear hb
    go_wp2
    go_ret
    exact ⟨rfl, FB.now⟩
  | true =>
    have HLEN : Hid (∀ i, i < ls.length → (ls.getD i ls0).n ≤ 1048576) := hb rfl
    clear hb hb1
    have x1 := FX.now.2.1
    have x2 := FX.now.2.2
    have K1 := zz_narrow_bytes a1 a2 a3 a4 a5 c1 c2 c3 c4 c5 ls ks ps os qs m w1 F1.now.lists F2.now F3.now F4.now F5.now HM.out L12345.out.1 L12345.out.2.1 L12345.out.2.2.1 L12345.out.2.2.2.1 L12345.out.2.2.2.2 O1.out O2.out O3.out O4.out O5.out
    go_wp2_with fail
    refine K1.mono ?_
    rintro e w1' ⟨r1, rfl, hr1, hr1', rfl⟩
    clear K1
    go_wp2_with fail
    refine (zz_add _ _ _ (by omega) (by omega) (by omega) (by omega)).mono ?_
    rintro e w1' ⟨r2, rfl, hr2, hr2', rfl⟩
    go_wp2_with fail
    refine (zz_add _ _ _ (by omega) (by omega) (by omega) (by omega)).mono ?_
    rintro e w1' ⟨r3, rfl, hr3, hr3', rfl⟩
    go_wp2_with fail
    refine (zz_add _ _ _ (by omega) (by omega) (by omega) (by omega)).mono ?_
    rintro e w1' ⟨r4, rfl, hr4, hr4', rfl⟩
    clear x1 x2
    by_cases hbig : 1048576 < r4
    · go_wp2
      go_ret
      exact ⟨rfl, FB.now⟩
    · by_cases n_ls : 4096 < ls.length
      · go_wp2
        go_ret
        exact ⟨rfl, FB.now⟩
      · by_cases n_ks : 4096 < ks.length
        · go_wp2
          go_ret
          exact ⟨rfl, FB.now⟩
        · by_cases n_ps : 4096 < ps.length
          · go_wp2
            go_ret
            exact ⟨rfl, FB.now⟩
          · by_cases n_os : 4096 < os.length
            · go_wp2
              go_ret
              exact ⟨rfl, FB.now⟩
            · by_cases n_qs : 4096 < qs.length
              · go_wp2
                go_ret
                exact ⟨rfl, FB.now⟩
              · have HS : Hid (ls.length ≤ 4096 ∧ ks.length ≤ 4096 ∧ ps.length ≤ 4096 ∧ os.length ≤ 4096 ∧ qs.length ≤ 4096) := ⟨by omega, by omega, by omega, by omega, by omega⟩
                go_wp2_with fail
                refine (copy_listed a1 c1 ls _ HS.out.1 F1.now E1.out HLEN.out).mono ?_
                rintro e w2 ⟨A1, C1, rfl, hq, hn, hb2⟩
                replace FX := FX.next hb2
                replace FB := FB.next hb2
                replace F2 := F2.next hb2
                replace F3 := F3.next hb2
                replace F4 := F4.next hb2
                replace F5 := F5.next hb2
                have G1 := kept_lists hq
                clear hb2 hq F1
                have N1 : Hid (A1 = none → C1 = 0) := hn
                clear hn
                go_wp2_with fail
                refine (copy_picks a2 c2 ks _ (Nat.le_trans HS.out.2.1 (by decide)) F2.now E2.out).mono ?_
                rintro e w3 ⟨A2, C2, rfl, hq, hn, hb2⟩
                replace FX := FX.next hb2
                replace FB := FB.next hb2
                replace F3 := F3.next hb2
                replace F4 := F4.next hb2
                replace F5 := F5.next hb2
                replace G1 := G1.next hb2
                have G2 := kept_picks hq
                clear hb2 hq F2
                have N2 : Hid (A2 = none → C2 = 0) := hn
                clear hn
                go_wp2_with fail
                refine (copy_picks a3 c3 ps _ (Nat.le_trans HS.out.2.2.1 (by decide)) F3.now E3.out).mono ?_
                rintro e w4 ⟨A3, C3, rfl, hq, hn, hb2⟩
                replace FX := FX.next hb2
                replace FB := FB.next hb2
                replace F4 := F4.next hb2
                replace F5 := F5.next hb2
                replace G1 := G1.next hb2
                replace G2 := G2.next hb2
                have G3 := kept_picks hq
                clear hb2 hq F3
                have N3 : Hid (A3 = none → C3 = 0) := hn
                clear hn
                go_wp2_with fail
                refine (copy_picks a4 c4 os _ (Nat.le_trans HS.out.2.2.2.1 (by decide)) F4.now E4.out).mono ?_
                rintro e w5 ⟨A4, C4, rfl, hq, hn, hb2⟩
                replace FX := FX.next hb2
                replace FB := FB.next hb2
                replace F5 := F5.next hb2
                replace G1 := G1.next hb2
                replace G2 := G2.next hb2
                replace G3 := G3.next hb2
                have G4 := kept_picks hq
                clear hb2 hq F4
                have N4 : Hid (A4 = none → C4 = 0) := hn
                clear hn
                go_wp2_with fail
                refine (copy_picks a5 c5 qs _ (Nat.le_trans HS.out.2.2.2.2 (by decide)) F5.now E5.out).mono ?_
                rintro e w6 ⟨A5, C5, rfl, hq, hn, hb2⟩
                replace FX := FX.next hb2
                replace FB := FB.next hb2
                replace G1 := G1.next hb2
                replace G2 := G2.next hb2
                replace G3 := G3.next hb2
                replace G4 := G4.next hb2
                have G5 := kept_picks hq
                clear hb2 hq F5
                have N5 : Hid (A5 = none → C5 = 0) := hn
                clear hn
                obtain ⟨i0, hi, hz0, hz1, hz2⟩ := info_parts Try.info38
                have hps := HS.out.2.2.1
                go_wp2_with (first | (at_make; go_must (refine wpList_make_full _ rfl _ _ 23 rfl w6.heap.size 38 i0 _ 3 Try.underlying23 hi hz0 hz1 .i64 .i64 _ _ (ps.length + 1) rfl rfl (by omega) (by omega) ?c1 ?c2 (Nat.le_refl _) ?_)))
                case c1 => rw [hz2]; omega
                case c2 => unfold maxLen; omega
                intro w7 hown hgr
                have hs1 : RowP w7 w6.heap.size 38 (ps.length + 1) 0 (ps ++ [x]) := rowP_made hown
                have hb7 : Below w6.heap.size w6 w7 := (Below.refl _ _).grown hgr (Nat.le_refl _) (fun k h => by cases h)
                clear hown hgr hi hz0 hz1 hz2
                go_wp2
                go_loopw [21] (fun i wr => ∃ k : Nat, k ≤ ps.length ∧ i = .int .i64 k ∧ Hid (RowP wr w6.heap.size 38 (ps.length + 1) k (ps ++ [x])) ∧ Hid (Below w6.heap.size w6 wr)) (fun i _ => ps.length - (intOf i).toNat)
                case atStart => exact ⟨0, by omega, rfl, hs1, hb7⟩
                case round =>
                  clear hs1 hb7
                  obtain ⟨k, hk, rfl, hs, hbw⟩ := hrel
                  by_cases hlt : k < ps.length
                  · obtain ⟨g, off, e, hp⟩ := (G3.next hbw.out).now k hlt
                    cases e
                    obtain ⟨p0, p1, p2⟩ := hp
                    have HP : Hid ((ps ++ [x]).getD k pk0 = ps.getD k pk0) := snoc_get ps x k hlt
                    generalize ps.getD k pk0 = pk at p0 p1 p2 HP
                    obtain ⟨f0, u0, d0⟩ := hs.out.free (k * 3) (by omega)
                    obtain ⟨f1, u1, d1⟩ := hs.out.free (k * 3 + 1) (by omega)
                    obtain ⟨f2, u2, d2⟩ := hs.out.free (k * 3 + 2) (by omega)
                    go_wp2
                    go_roundw
                    case rel => exact ⟨k + 1, by omega, by go_num, hs.out.put (by omega) pk HP.out, put3_below hbw.out (Nat.le_refl _) _ _ _⟩
                    case measure => simp [intOf]; omega
                  · obtain rfl : k = ps.length := by omega
                    obtain ⟨x0, x1, x2⟩ := (FX.next hbw.out).now
                    obtain ⟨f0, u0, d0⟩ := hs.out.free (ps.length * 3) (by omega)
                    obtain ⟨f1, u1, d1⟩ := hs.out.free (ps.length * 3 + 1) (by omega)
                    obtain ⟨f2, u2, d2⟩ := hs.out.free (ps.length * 3 + 2) (by omega)
                    go_upto_region 22 with fail
                    have hs8 := hs.out.put (by omega) x (snoc_last ps x)
                    have hb8 : Below w6.heap.size w6 (((wr.setCell ⟨w6.heap.size, ps.length * 3, none⟩ (.int .u8 x.b)).setCell ⟨w6.heap.size, ps.length * 3 + 1, none⟩ (.string x.nm)).setCell ⟨w6.heap.size, ps.length * 3 + 2, none⟩ (.string x.vl)) := put3_below hbw.out (Nat.le_refl _) _ _ _
                    clear hs hbw x0 x1 x2 f0 u0 d0 f1 u1 d1 f2 u2 d2
                    generalize ((wr.setCell ⟨w6.heap.size, ps.length * 3, none⟩ (.int .u8 x.b)).setCell ⟨w6.heap.size, ps.length * 3 + 1, none⟩ (.string x.nm)).setCell ⟨w6.heap.size, ps.length * 3 + 2, none⟩ (.string x.vl) = w8 at hs8 hb8 ⊢
                    replace FX := FX.next hb8
                    replace FB := FB.next hb8
                    replace G1 := G1.next hb8
                    replace G2 := G2.next hb8
                    replace G3 := G3.next hb8
                    replace G4 := G4.next hb8
                    replace G5 := G5.next hb8
                    have hpl : (ps ++ [x]).length = ps.length + 1 := by simp
                    rw [← hpl] at hs8
                    have G6 := kept_picks hs8.picks
                    clear hs8 hb8
                    have HS3 : Hid (ps.length ≤ 5000 ∧ os.length ≤ 5000 ∧ qs.length ≤ 5000 ∧ (ps ++ [x]).length ≤ 5000) := ⟨Nat.le_trans HS.out.2.2.1 (by decide), Nat.le_trans HS.out.2.2.2.1 (by decide), Nat.le_trans HS.out.2.2.2.2 (by decide), by rw [hpl]; omega⟩
                    have OPX : Hid (∀ p ∈ ps ++ [x], p.ok) := by
                      intro p hp
                      rcases List.mem_append.1 hp with h | h
                      · exact O3.out p h
                      · rw [List.mem_singleton.1 h]; exact OX.out
                    generalize hzs : ps ++ [x] = zs at G6 hpl OPX HS3
                    have HZS : Hid (ps ++ [x] = zs) := hzs
                    clear hzs
                    rw [← hpl]
                    clear hpl
                    go_wp2_with fail
                    refine (zz_listed A1 C1 ls _ HS.out.1 G1.now N1.out).mono ?_
                    rintro e w9 ⟨B1, D1, rfl, hq, hn, hb2⟩
                    replace FX := FX.next hb2
                    replace FB := FB.next hb2
                    replace G1 := G1.next hb2
                    replace G2 := G2.next hb2
                    replace G3 := G3.next hb2
                    replace G4 := G4.next hb2
                    replace G5 := G5.next hb2
                    replace G6 := G6.next hb2
                    have I1 := kept_lists hq
                    clear hb2 hq hn
                    go_wp2_with fail
                    refine (zz_picks A2 C2 ks _ (Nat.le_trans HS.out.2.1 (by decide)) G2.now N2.out).mono ?_
                    rintro e w10 ⟨B2, D2, rfl, hq, hn, hb2⟩
                    replace FX := FX.next hb2
                    replace FB := FB.next hb2
                    replace G1 := G1.next hb2
                    replace G2 := G2.next hb2
                    replace G3 := G3.next hb2
                    replace G4 := G4.next hb2
                    replace G5 := G5.next hb2
                    replace G6 := G6.next hb2
                    replace I1 := I1.next hb2
                    have I2 := kept_picks hq
                    clear hb2 hq hn
                    go_wp2_with fail
                    refine (new_index B1 B2 D1 D2 ls ks _ HS.out.1 HS.out.2.1 I1.now I2.now (fun i hi => ⟨(O1.out i hi).1, (O1.out i hi).2.1⟩) (fun i hi => O2.out _ (mem_getD hi))).mono ?_
                    rintro e w11 ⟨X, b1, b2, rfl, hq, hb2⟩
                    replace FX := FX.next hb2
                    replace FB := FB.next hb2
                    replace G1 := G1.next hb2
                    replace G2 := G2.next hb2
                    replace G3 := G3.next hb2
                    replace G4 := G4.next hb2
                    replace G5 := G5.next hb2
                    replace G6 := G6.next hb2
                    have IX := kept_idx hq
                    clear hb2 hq I1 I2
                    go_wp2_with fail
                    refine (zz_picks A3 C3 (ps) _ HS3.out.1 G3.now N3.out).mono ?_
                    rintro e w12 ⟨B3, D3, rfl, hq, hn, hb2⟩
                    replace FX := FX.next hb2
                    replace FB := FB.next hb2
                    replace G1 := G1.next hb2
                    replace G2 := G2.next hb2
                    replace G3 := G3.next hb2
                    replace G4 := G4.next hb2
                    replace G5 := G5.next hb2
                    replace G6 := G6.next hb2
                    replace IX := IX.next hb2
                    have I3 := kept_picks hq
                    clear hb2 hq
                    have M3 : Hid (B3 = none → D3 = 0) := hn
                    clear hn
                    go_wp2_with fail
                    refine (zz_picks A4 C4 os _ HS3.out.2.1 G4.now N4.out).mono ?_
                    rintro e w13 ⟨B4, D4, rfl, hq, hn, hb2⟩
                    replace FX := FX.next hb2
                    replace FB := FB.next hb2
                    replace G1 := G1.next hb2
                    replace G2 := G2.next hb2
                    replace G3 := G3.next hb2
                    replace G4 := G4.next hb2
                    replace G5 := G5.next hb2
                    replace G6 := G6.next hb2
                    replace IX := IX.next hb2
                    replace I3 := I3.next hb2
                    have I4 := kept_picks hq
                    clear hb2 hq
                    have M4 : Hid (B4 = none → D4 = 0) := hn
                    clear hn
                    go_wp2_with fail
                    refine (zz_picks A5 C5 qs _ HS3.out.2.2.1 G5.now N5.out).mono ?_
                    rintro e w14 ⟨B5, D5, rfl, hq, hn, hb2⟩
                    replace FX := FX.next hb2
                    replace FB := FB.next hb2
                    replace G1 := G1.next hb2
                    replace G2 := G2.next hb2
                    replace G3 := G3.next hb2
                    replace G4 := G4.next hb2
                    replace G5 := G5.next hb2
                    replace G6 := G6.next hb2
                    replace IX := IX.next hb2
                    replace I3 := I3.next hb2
                    replace I4 := I4.next hb2
                    have I5 := kept_picks hq
                    clear hb2 hq
                    have M5 : Hid (B5 = none → D5 = 0) := hn
                    clear hn
                    go_wp2_with fail
                    refine (zz_narrowest X b1 b2 ls.length ks.length ls ks m sl vi B3 B4 B5 D3 D4 D5 (ps) os qs _ IX.now HM.out I3.now I4.now I5.now HS3.out.1 HS3.out.2.1 HS3.out.2.2.1 M3.out M4.out M5.out O3.out O4.out O5.out).mono ?_
                    rintro e w15 ⟨r1, rfl, hr, hb2⟩
                    replace FX := FX.next hb2
                    replace FB := FB.next hb2
                    replace G1 := G1.next hb2
                    replace G2 := G2.next hb2
                    replace G3 := G3.next hb2
                    replace G4 := G4.next hb2
                    replace G5 := G5.next hb2
                    replace G6 := G6.next hb2
                    replace IX := IX.next hb2
                    clear hb2 M3 M4 M5 I3 I4 I5
                    have Hr1 : Hid (r1 = if sl = true then narrow ls ks m (ps ++ qs ++ oneOfs os) else pk0) := hr
                    clear hr
                    have hbP : Below w15.heap.size w15 (w15.alloc (.cells #[.int .u8 r1.b, .string r1.nm, .string r1.vl] 35)) := (Below.refl _ _).alloc (Nat.le_refl _) _
                    have Pr1 := kept_pk (pkAt_new w15 r1 35)
                    replace FX := FX.next hbP
                    replace FB := FB.next hbP
                    replace G1 := G1.next hbP
                    replace G2 := G2.next hbP
                    replace G3 := G3.next hbP
                    replace G4 := G4.next hbP
                    replace G5 := G5.next hbP
                    replace G6 := G6.next hbP
                    replace IX := IX.next hbP
                    clear hbP
                    go_wp2_with fail
                    generalize w15.heap.size = K1 at Pr1 ⊢
                    generalize w15.alloc (.cells #[.int .u8 r1.b, .string r1.nm, .string r1.vl] 35) = w16 at FX FB G1 G2 G3 G4 G5 G6 IX Pr1 ⊢
                    skip
                    refine (zz_picks (some ⟨w6.heap.size, 0, none⟩) zs.length (zs) _ HS3.out.2.2.2 G6.now (fun h => by cases h)).mono ?_
                    rintro e w17 ⟨B3, D3, rfl, hq, hn, hb2⟩
                    replace FX := FX.next hb2
                    replace FB := FB.next hb2
                    replace G1 := G1.next hb2
                    replace G2 := G2.next hb2
                    replace G3 := G3.next hb2
                    replace G4 := G4.next hb2
                    replace G5 := G5.next hb2
                    replace G6 := G6.next hb2
                    replace IX := IX.next hb2
                    replace Pr1 := Pr1.next hb2
                    have I3 := kept_picks hq
                    clear hb2 hq
                    have M3 : Hid (B3 = none → D3 = 0) := hn
                    clear hn
                    go_wp2_with fail
                    refine (zz_picks A4 C4 os _ HS3.out.2.1 G4.now N4.out).mono ?_
                    rintro e w18 ⟨B4, D4, rfl, hq, hn, hb2⟩
                    replace FX := FX.next hb2
                    replace FB := FB.next hb2
                    replace G1 := G1.next hb2
                    replace G2 := G2.next hb2
                    replace G3 := G3.next hb2
                    replace G4 := G4.next hb2
                    replace G5 := G5.next hb2
                    replace G6 := G6.next hb2
                    replace IX := IX.next hb2
                    replace Pr1 := Pr1.next hb2
                    replace I3 := I3.next hb2
                    have I4 := kept_picks hq
                    clear hb2 hq
                    have M4 : Hid (B4 = none → D4 = 0) := hn
                    clear hn
                    go_wp2_with fail
                    refine (zz_picks A5 C5 qs _ HS3.out.2.2.1 G5.now N5.out).mono ?_
                    rintro e w19 ⟨B5, D5, rfl, hq, hn, hb2⟩
                    replace FX := FX.next hb2
                    replace FB := FB.next hb2
                    replace G1 := G1.next hb2
                    replace G2 := G2.next hb2
                    replace G3 := G3.next hb2
                    replace G4 := G4.next hb2
                    replace G5 := G5.next hb2
                    replace G6 := G6.next hb2
                    replace IX := IX.next hb2
                    replace Pr1 := Pr1.next hb2
                    replace I3 := I3.next hb2
                    replace I4 := I4.next hb2
                    have I5 := kept_picks hq
                    clear hb2 hq
                    have M5 : Hid (B5 = none → D5 = 0) := hn
                    clear hn
                    go_wp2_with fail
                    refine (zz_narrowest X b1 b2 ls.length ks.length ls ks m sl vi B3 B4 B5 D3 D4 D5 (zs) os qs _ IX.now HM.out I3.now I4.now I5.now HS3.out.2.2.2 HS3.out.2.1 HS3.out.2.2.1 M3.out M4.out M5.out OPX.out O4.out O5.out).mono ?_
                    rintro e w20 ⟨r2, rfl, hr, hb2⟩
                    replace FX := FX.next hb2
                    replace FB := FB.next hb2
                    replace G1 := G1.next hb2
                    replace G2 := G2.next hb2
                    replace G3 := G3.next hb2
                    replace G4 := G4.next hb2
                    replace G5 := G5.next hb2
                    replace G6 := G6.next hb2
                    replace IX := IX.next hb2
                    replace Pr1 := Pr1.next hb2
                    clear hb2 M3 M4 M5 I3 I4 I5
                    have Hr2 : Hid (r2 = if sl = true then narrow ls ks m (zs ++ qs ++ oneOfs os) else pk0) := hr
                    clear hr
                    have hbP : Below w20.heap.size w20 (w20.alloc (.cells #[.int .u8 r2.b, .string r2.nm, .string r2.vl] 35)) := (Below.refl _ _).alloc (Nat.le_refl _) _
                    have Pr2 := kept_pk (pkAt_new w20 r2 35)
                    replace FX := FX.next hbP
                    replace FB := FB.next hbP
                    replace G1 := G1.next hbP
                    replace G2 := G2.next hbP
                    replace G3 := G3.next hbP
                    replace G4 := G4.next hbP
                    replace G5 := G5.next hbP
                    replace G6 := G6.next hbP
                    replace IX := IX.next hbP
                    replace Pr1 := Pr1.next hbP
                    clear hbP
                    go_upto_region 25 with fail
                    generalize w20.heap.size = K2 at Pr2 ⊢
                    generalize w20.alloc (.cells #[.int .u8 r2.b, .string r2.nm, .string r2.vl] 35) = w21 at FX FB G1 G2 G3 G4 G5 G6 IX Pr1 Pr2 ⊢
                    obtain ⟨g0, g1, g2⟩ := Pr1.now
                    go_upto_region 26 with fail
                    have hbP : Below w21.heap.size w21 (w21.alloc (.cells #[.int .u8 r1.b, .string r1.nm, .string r1.vl] 38)) := (Below.refl _ _).alloc (Nat.le_refl _) _
                    have Q1 := kept_pk (pkAt_new w21 r1 38)
                    replace FX := FX.next hbP
                    replace FB := FB.next hbP
                    replace G1 := G1.next hbP
                    replace G2 := G2.next hbP
                    replace G3 := G3.next hbP
                    replace G4 := G4.next hbP
                    replace G5 := G5.next hbP
                    replace G6 := G6.next hbP
                    replace IX := IX.next hbP
                    replace Pr1 := Pr1.next hbP
                    replace Pr2 := Pr2.next hbP
                    clear hbP Pr1 g0 g1 g2
                    generalize w21.heap.size = J1 at Q1 ⊢
                    generalize w21.alloc (.cells #[.int .u8 r1.b, .string r1.nm, .string r1.vl] 38) = w22 at FX FB G1 G2 G3 G4 G5 G6 IX Pr2 Q1 ⊢
                    obtain ⟨g0, g1, g2⟩ := Pr2.now
                    go_upto_region 27 with fail
                    have hbP : Below w22.heap.size w22 (w22.alloc (.cells #[.int .u8 r2.b, .string r2.nm, .string r2.vl] 38)) := (Below.refl _ _).alloc (Nat.le_refl _) _
                    have Q2 := kept_pk (pkAt_new w22 r2 38)
                    replace FX := FX.next hbP
                    replace FB := FB.next hbP
                    replace G1 := G1.next hbP
                    replace G2 := G2.next hbP
                    replace G3 := G3.next hbP
                    replace G4 := G4.next hbP
                    replace G5 := G5.next hbP
                    replace G6 := G6.next hbP
                    replace IX := IX.next hbP
                    replace Pr2 := Pr2.next hbP
                    replace Q1 := Q1.next hbP
                    clear hbP Pr2 g0 g1 g2
                    generalize w22.heap.size = J2 at Q2 ⊢
                    generalize w22.alloc (.cells #[.int .u8 r2.b, .string r2.nm, .string r2.vl] 38) = w23 at FX FB G1 G2 G3 G4 G5 G6 IX Q1 Q2 ⊢
                    obtain ⟨u0, u1, u2⟩ := Q1.now
                    obtain ⟨v0, v1, v2⟩ := Q2.now
                    have heg := Try.eg38
                    cases sl with
                    | false =>
                      have e1 : r1 = pk0 := by have := Hr1.out; simpa using this
                      have e2 : r2 = pk0 := by have := Hr2.out; simpa using this
                      have hq1 : ∀ wx, (binOp .eql 38 (.agg #[.int .u8 r1.b, .string r1.nm, .string r1.vl]) (.agg #[.int .u8 0, .string ⟨#[]⟩, .string ⟨#[]⟩])).run Try.prog wx = .ok (.bool true) wx := fun wx => by
                        have := eql38 wx r1 pk0
                        rw [decide_eq_true e1] at this
                        exact this
                      have hq2 : ∀ wx, (binOp .eql 38 (.agg #[.int .u8 r2.b, .string r2.nm, .string r2.vl]) (.agg #[.int .u8 0, .string ⟨#[]⟩, .string ⟨#[]⟩])).run Try.prog wx = .ok (.bool true) wx := fun wx => by
                        have := eql38 wx r2 pk0
                        rw [decide_eq_true e2] at this
                        exact this
                      clear e1 e2 Hr1 Hr2
                      go_wp2
                      go_ret
                      exact ⟨rfl, FB.now⟩
                    | true =>
                      have hw := never_widens ls ks m ps qs (oneOfs os) x
                      have e1 : r1 = narrow ls ks m (ps ++ qs ++ oneOfs os) := by have := Hr1.out; rw [if_pos rfl] at this; exact this
                      have e2 : r2 = narrow ls ks m (ps ++ [x] ++ qs ++ oneOfs os) := by have := Hr2.out; rw [if_pos rfl, ← HZS.out] at this; exact this
                      rw [← e1, ← e2] at hw
                      obtain ⟨le1, le2, le3⟩ := hw
                      have LE3 : Hid (lists ks x = true → cnt ls m r2 ≤ cnt ls m x) := le3
                      clear e1 e2 Hr1 Hr2 le3 HZS
                      go_wp2_with fail
                      refine (zz_count A1 C1 ls m r1 _ G1.now HS.out.1).mono ?_
                      rintro e y1 ⟨rfl, hb2⟩
                      replace FX := FX.next hb2
                      replace FB := FB.next hb2
                      replace G1 := G1.next hb2
                      replace G2 := G2.next hb2
                      replace G3 := G3.next hb2
                      replace G4 := G4.next hb2
                      replace G5 := G5.next hb2
                      replace G6 := G6.next hb2
                      replace IX := IX.next hb2
                      replace Q1 := Q1.next hb2
                      replace Q2 := Q2.next hb2
                      clear hb2 u0 u1 u2 v0 v1 v2
                      obtain ⟨v0, v1, v2⟩ := Q2.now
                      go_wp2_with fail
                      refine (zz_count A1 C1 ls m r2 _ G1.now HS.out.1).mono ?_
                      rintro e y2 ⟨rfl, hb2⟩
                      replace FX := FX.next hb2
                      replace FB := FB.next hb2
                      replace G1 := G1.next hb2
                      replace G2 := G2.next hb2
                      replace G3 := G3.next hb2
                      replace G4 := G4.next hb2
                      replace G5 := G5.next hb2
                      replace G6 := G6.next hb2
                      replace IX := IX.next hb2
                      replace Q1 := Q1.next hb2
                      replace Q2 := Q2.next hb2
                      clear hb2 v0 v1 v2
                      have hd1 : decide ((cnt ls m r1 : Int) < cnt ls m r2) = false := decide_eq_false (by omega)
                      go_wp2_with fail
                      refine (zz_count A1 C1 ls m pk0 _ G1.now HS.out.1).mono ?_
                      rintro e y3 ⟨rfl, hb2⟩
                      replace FX := FX.next hb2
                      replace FB := FB.next hb2
                      replace G1 := G1.next hb2
                      replace G2 := G2.next hb2
                      replace G3 := G3.next hb2
                      replace G4 := G4.next hb2
                      replace G5 := G5.next hb2
                      replace G6 := G6.next hb2
                      replace IX := IX.next hb2
                      replace Q1 := Q1.next hb2
                      replace Q2 := Q2.next hb2
                      clear hb2
                      have hd2 : decide ((cnt ls m pk0 : Int) < cnt ls m r1) = false := decide_eq_false (by omega)
                      obtain ⟨x0, x1, x2⟩ := FX.now
                      by_cases hx : lists ks x = true
                      · have le4 := LE3.out hx
                        have KL := zz_lists A2 C2 ks x _ G2.now HS.out.2.1
                        rw [hx] at KL
                        clear hx
                        go_wp2_with fail
                        refine KL.mono ?_
                        rintro e y4 ⟨rfl, hb2⟩
                        replace FX := FX.next hb2
                        replace FB := FB.next hb2
                        replace G1 := G1.next hb2
                        replace G2 := G2.next hb2
                        replace G3 := G3.next hb2
                        replace G4 := G4.next hb2
                        replace G5 := G5.next hb2
                        replace G6 := G6.next hb2
                        replace IX := IX.next hb2
                        replace Q1 := Q1.next hb2
                        replace Q2 := Q2.next hb2
                        clear hb2 KL x0 x1 x2
                        obtain ⟨x0, x1, x2⟩ := FX.now
                        go_wp2_with fail
                        refine (zz_count A1 C1 ls m x _ G1.now HS.out.1).mono ?_
                        rintro e y5 ⟨rfl, hb2⟩
                        replace FX := FX.next hb2
                        replace FB := FB.next hb2
                        replace G1 := G1.next hb2
                        replace G2 := G2.next hb2
                        replace G3 := G3.next hb2
                        replace G4 := G4.next hb2
                        replace G5 := G5.next hb2
                        replace G6 := G6.next hb2
                        replace IX := IX.next hb2
                        replace Q1 := Q1.next hb2
                        replace Q2 := Q2.next hb2
                        clear hb2
                        have hd3 : decide ((cnt ls m x : Int) < cnt ls m r2) = false := decide_eq_false (by omega)
                        go_wp2
                        go_ret
                        exact ⟨rfl, FB.now⟩
                      · have hx' : lists ks x = false := by simpa using hx
                        have KL := zz_lists A2 C2 ks x _ G2.now HS.out.2.1
                        rw [hx'] at KL
                        clear hx hx'
                        go_wp2_with fail
                        refine KL.mono ?_
                        rintro e y4 ⟨rfl, hb2⟩
                        replace FX := FX.next hb2
                        replace FB := FB.next hb2
                        replace G1 := G1.next hb2
                        replace G2 := G2.next hb2
                        replace G3 := G3.next hb2
                        replace G4 := G4.next hb2
                        replace G5 := G5.next hb2
                        replace G6 := G6.next hb2
                        replace IX := IX.next hb2
                        replace Q1 := Q1.next hb2
                        replace Q2 := Q2.next hb2
                        go_wp2
                        go_ret
                        exact ⟨rfl, FB.now⟩
end Go.Proofs.Qxb6604404a
