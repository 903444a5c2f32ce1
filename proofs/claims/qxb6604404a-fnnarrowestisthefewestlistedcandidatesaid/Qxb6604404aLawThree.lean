import Derived.Test.Qxb6604404aLawFour
import Derived.Test.Qxb6604404aCands
import Derived.Test.Qxb6604404aGate7
namespace Go.Proofs.Qxb6604404a
open Go.RowKit
set_option linter.unusedVariables false
set_option linter.unusedSectionVars false
variable [DecidableEq Pk]

/-! ### THE PLAIN LAW: THE FIRST OF THE FEWEST -/
def best (f : Pk → Nat) (b : Pk) (L : List Pk) : Pk := L.foldl (fun b k => if f k < f b then k else b) b
theorem best_narrow (ls : List Ls) (ks : List Pk) (m : ByteArray) : ∀ (L : List Pk) (b : Pk), L.foldl (step1 ls ks m) b = best (cnt ls m) b (L.filter (lists ks)) := by
  intro L
  induction L with
  | nil => intro b; rfl
  | cons k L ih =>
    intro b
    rw [List.foldl_cons, ih]
    by_cases h : lists ks k = true
    · rw [List.filter_cons_of_pos h]
      unfold best
      rw [List.foldl_cons]
      congr 1
      unfold step1
      by_cases hc : cnt ls m k < cnt ls m b
      · rw [if_pos ⟨h, hc⟩, if_pos hc]
      · rw [if_neg (fun h' => hc h'.2), if_neg hc]
    · rw [List.filter_cons_of_neg h]
      congr 1
      unfold step1
      rw [if_neg (fun h' => h h'.1)]
theorem best_take (f : Pk → Nat) (b : Pk) (L : List Pk) (k : Nat) (h : k < L.length) : best f b (L.take (k + 1)) = if f (L.getD k pk0) < f (best f b (L.take k)) then L.getD k pk0 else best f b (L.take k) := by
  unfold best
  rw [List.take_add_one, List.foldl_append, List.getD_eq_getElem?_getD, List.getElem?_eq_getElem h]
  rfl
/-- The best lies at an index ahead of which all are worse, and no other is better. -/
theorem best_spec (f : Pk → Nat) : ∀ (L : List Pk) (b : Pk), ∃ i, i < (b :: L).length ∧ (b :: L).getD i pk0 = best f b L ∧ (∀ j, j < i → f (best f b L) < f ((b :: L).getD j pk0)) ∧ (f (best f b L) ≤ f b) := by
  intro L
  induction L with
  | nil => intro b; exact ⟨0, by simp, rfl, fun j hj => by omega, Nat.le_refl _⟩
  | cons k L ih =>
    intro b
    have hb : best f b (k :: L) = best f (if f k < f b then k else b) L := rfl
    rw [hb]
    by_cases hc : f k < f b
    · rw [if_pos hc]
      obtain ⟨i, h1, h2, h3, h4⟩ := ih k
      refine ⟨i + 1, by simpa using h1, by simpa using h2, fun j hj => ?_, by omega⟩
      match j, hj with
      | 0, _ => show _ < f b; omega
      | j + 1, hj => simpa using h3 j (by omega)
    · rw [if_neg hc]
      obtain ⟨i, h1, h2, h3, h4⟩ := ih b
      match i, h1, h2, h3 with
      | 0, h1, h2, h3 => exact ⟨0, by simp, by simpa using h2, fun j hj => by omega, h4⟩
      | i + 1, h1, h2, h3 =>
        refine ⟨i + 2, by simp at h1 ⊢; omega, by simpa using h2, fun j hj => ?_, h4⟩
        match j, hj with
        | 0, _ => exact h3 0 (by omega)
        | 1, _ =>
          have := h3 0 (by omega)
          show _ < f k
          have e : f ((b :: L).getD 0 pk0) = f b := rfl
          omega
        | j + 2, hj => simpa using h3 (j + 1) (by omega)
/-- Whoever lists as few as the best, and is the first to, is the best; somebody is. -/
theorem best_first (f : Pk → Nat) (b : Pk) (L : List Pk) (k : Nat) (hk : k ≤ (b :: L).length) (h : ∀ j, j < k → f ((b :: L).getD j pk0) ≠ f (best f b L)) :
    k < (b :: L).length ∧ (f ((b :: L).getD k pk0) = f (best f b L) → (b :: L).getD k pk0 = best f b L) := by
  obtain ⟨i, h1, h2, h3, _⟩ := best_spec f L b
  have hik : k ≤ i := by
    by_cases hc : k ≤ i
    · exact hc
    · exact absurd (by rw [h2]) (h i (by omega))
  refine ⟨by omega, fun he => ?_⟩
  by_cases e : k = i
  · rw [e]; exact h2
  · have := h3 k (by omega)
    omega

set_option maxRecDepth 100000 in
set_option maxHeartbeats 6400000 in
theorem law3 (a1 a2 a3 a4 a5 : Option Addr) (c1 c2 c3 c4 c5 : Nat) (ls : List Ls) (ks ps os qs : List Pk) (m : ByteArray) (sl vi : Bool) (w : World)
    (h1 : ListsIn w a1 ls) (h2 : Picks w a2 ks) (h3 : Picks w a3 ps) (h4 : Picks w a4 os) (h5 : Picks w a5 qs) (hm : m.size ≤ maxLen)
    (l1 : ls.length ≤ maxLen) (l2 : ks.length ≤ maxLen) (l3 : ps.length ≤ maxLen) (l4 : os.length ≤ maxLen) (l5 : qs.length ≤ maxLen)
    (o1 : ∀ i, i < ls.length → (ls.getD i ls0).mesh.size ≤ maxLen ∧ (ls.getD i ls0).pk.ok ∧ (ls.getD i ls0).n ≤ maxLen) (o2 : ∀ p ∈ ks, p.ok) (o3 : ∀ p ∈ ps, p.ok) (o4 : ∀ p ∈ os, p.ok) (o5 : ∀ p ∈ qs, p.ok)
    (e1 : a1 = none → c1 = 0) (e2 : a2 = none → c2 = 0) (e3 : a3 = none → c3 = 0) (e4 : a4 = none → c4 = 0) (e5 : a5 = none → c5 = 0) :
    Calls Try.prog 3 #[.slice a1 ls.length c1, .slice a2 ks.length c2, .string m, .bool sl, .slice a3 ps.length c3, .slice a4 os.length c4, .bool vi, .slice a5 qs.length c5] w fun e w' => e = .returned (.bool true) ∧ Below w.heap.size w w' := by
  have FB := kept_below (Below.refl w.heap.size w) (Nat.le_refl _)
  have F1 := kept_listsIn h1
  have F2 := kept_picks h2
  have F3 := kept_picks h3
  have F4 := kept_picks h4
  have F5 := kept_picks h5
  have O1 : Hid (∀ i, i < ls.length → (ls.getD i ls0).mesh.size ≤ maxLen ∧ (ls.getD i ls0).pk.ok ∧ (ls.getD i ls0).n ≤ maxLen) := o1
  have O2 : Hid (∀ p ∈ ks, p.ok) := o2
  have O3 : Hid (∀ p ∈ ps, p.ok) := o3
  have O4 : Hid (∀ p ∈ os, p.ok) := o4
  have O5 : Hid (∀ p ∈ qs, p.ok) := o5
  have E1 : Hid (a1 = none → c1 = 0) := e1
  have E2 : Hid (a2 = none → c2 = 0) := e2
  have E3 : Hid (a3 = none → c3 = 0) := e3
  have E4 : Hid (a4 = none → c4 = 0) := e4
  have E5 : Hid (a5 = none → c5 = 0) := e5
  have ML : maxLen = 9223372036854775807 := rfl
  have HM : Hid (m.size ≤ maxLen) := hm
  have K0 := gate7 a1 a2 a3 a4 a5 c1 c2 c3 c4 c5 ls ks ps os qs m sl vi w F1.now.lists F2.now F3.now F4.now F5.now hm l1 l2 l3 l4 l5 o1 o2 o3 o4 o5
  have L12345 : Hid (ls.length ≤ maxLen ∧ ks.length ≤ maxLen ∧ ps.length ≤ maxLen ∧ os.length ≤ maxLen ∧ qs.length ≤ maxLen) := ⟨l1, l2, l3, l4, l5⟩
  rw [ML] at l1 l2 l3 l4 l5 hm
  clear h1 h2 h3 h4 h5 o1 o2 o3 o4 o5 e1 e2 e3 e4 e5 ML
  go_enter Try.func3, Try.ntmps3
  go_wp2_with fail
  refine K0.mono ?_
  rintro e w1 ⟨b, rfl, hb, hb1⟩
  clear K0
  replace FB := FB.next hb1
  replace F1 := F1.next hb1
  replace F2 := F2.next hb1
  replace F3 := F3.next hb1
  replace F4 := F4.next hb1
  replace F5 := F5.next hb1
  cases b with
  | false =>
    clear hb
    go_wp2
    go_ret
    exact ⟨rfl, FB.now⟩
  | true =>
    have HLEN : Hid (∀ i, i < ls.length → (ls.getD i ls0).n ≤ 1048576) := hb rfl
    clear hb hb1
    have K1 := zz_narrow_bytes a1 a2 a3 a4 a5 c1 c2 c3 c4 c5 ls ks ps os qs m w1 F1.now.lists F2.now F3.now F4.now F5.now HM.out L12345.out.1 L12345.out.2.1 L12345.out.2.2.1 L12345.out.2.2.2.1 L12345.out.2.2.2.2 O1.out O2.out O3.out O4.out O5.out
    go_wp2_with fail
    refine K1.mono ?_
    rintro e w1' ⟨r4, rfl, hr4, hr4', rfl⟩
    clear K1
    by_cases hbig : 1048576 < r4
    · go_wp2
      go_ret
      exact ⟨rfl, FB.now⟩
    · by_cases n_ls : 4096 < ls.length
      · go_wp2
        go_ret
        exact ⟨rfl, FB.now⟩
      · by_cases n_ks : 4096 < ks.length
        · go_wp2
          go_ret
          exact ⟨rfl, FB.now⟩
        · by_cases n_ps : 4096 < ps.length
          · go_wp2
            go_ret
            exact ⟨rfl, FB.now⟩
          · by_cases n_os : 4096 < os.length
            · go_wp2
              go_ret
              exact ⟨rfl, FB.now⟩
            · by_cases n_qs : 4096 < qs.length
              · go_wp2
                go_ret
                exact ⟨rfl, FB.now⟩
              · have HS : Hid (ls.length ≤ 4096 ∧ ks.length ≤ 4096 ∧ ps.length ≤ 4096 ∧ os.length ≤ 4096 ∧ qs.length ≤ 4096) := ⟨by omega, by omega, by omega, by omega, by omega⟩
                go_wp2_with fail
                refine (copy_listed a1 c1 ls _ HS.out.1 F1.now E1.out HLEN.out).mono ?_
                rintro e w2 ⟨A1, C1, rfl, hq, hn, hb2⟩
                replace FB := FB.next hb2
                replace F2 := F2.next hb2
                replace F3 := F3.next hb2
                replace F4 := F4.next hb2
                replace F5 := F5.next hb2
                have G1 := kept_lists hq
                clear hb2 hq F1
                have N1 : Hid (A1 = none → C1 = 0) := hn
                clear hn
                go_wp2_with fail
                refine (copy_picks a2 c2 ks _ (Nat.le_trans HS.out.2.1 (by decide)) F2.now E2.out).mono ?_
                rintro e w3 ⟨A2, C2, rfl, hq, hn, hb2⟩
                replace FB := FB.next hb2
                replace F3 := F3.next hb2
                replace F4 := F4.next hb2
                replace F5 := F5.next hb2
                replace G1 := G1.next hb2
                have G2 := kept_picks hq
                clear hb2 hq F2
                have N2 : Hid (A2 = none → C2 = 0) := hn
                clear hn
                go_wp2_with fail
                refine (copy_picks a3 c3 ps _ (Nat.le_trans HS.out.2.2.1 (by decide)) F3.now E3.out).mono ?_
                rintro e w4 ⟨A3, C3, rfl, hq, hn, hb2⟩
                replace FB := FB.next hb2
                replace F4 := F4.next hb2
                replace F5 := F5.next hb2
                replace G1 := G1.next hb2
                replace G2 := G2.next hb2
                have G3 := kept_picks hq
                clear hb2 hq F3
                have N3 : Hid (A3 = none → C3 = 0) := hn
                clear hn
                go_wp2_with fail
                refine (copy_picks a4 c4 os _ (Nat.le_trans HS.out.2.2.2.1 (by decide)) F4.now E4.out).mono ?_
                rintro e w5 ⟨A4, C4, rfl, hq, hn, hb2⟩
                replace FB := FB.next hb2
                replace F5 := F5.next hb2
                replace G1 := G1.next hb2
                replace G2 := G2.next hb2
                replace G3 := G3.next hb2
                have G4 := kept_picks hq
                clear hb2 hq F4
                have N4 : Hid (A4 = none → C4 = 0) := hn
                clear hn
                go_wp2_with fail
                refine (copy_picks a5 c5 qs _ (Nat.le_trans HS.out.2.2.2.2 (by decide)) F5.now E5.out).mono ?_
                rintro e w6 ⟨A5, C5, rfl, hq, hn, hb2⟩
                replace FB := FB.next hb2
                replace G1 := G1.next hb2
                replace G2 := G2.next hb2
                replace G3 := G3.next hb2
                replace G4 := G4.next hb2
                have G5 := kept_picks hq
                clear hb2 hq F5
                have N5 : Hid (A5 = none → C5 = 0) := hn
                clear hn
                have HS3 : Hid (ps.length ≤ 5000 ∧ os.length ≤ 5000 ∧ qs.length ≤ 5000) := ⟨Nat.le_trans HS.out.2.2.1 (by decide), Nat.le_trans HS.out.2.2.2.1 (by decide), Nat.le_trans HS.out.2.2.2.2 (by decide)⟩
                have hsz : ls.length ≤ 4096 ∧ ps.length ≤ 4096 ∧ qs.length ≤ 4096 := ⟨HS.out.1, HS.out.2.2.1, HS.out.2.2.2.2⟩
                go_wp2_with fail
                refine (zz_listed A1 C1 ls _ HS.out.1 G1.now N1.out).mono ?_
                rintro e w9 ⟨B1, D1, rfl, hq, hn, hb2⟩
                replace FB := FB.next hb2
                replace G1 := G1.next hb2
                replace G2 := G2.next hb2
                replace G3 := G3.next hb2
                replace G4 := G4.next hb2
                replace G5 := G5.next hb2
                have I1 := kept_lists hq
                clear hb2 hq hn
                go_wp2_with fail
                refine (zz_picks A2 C2 ks _ (Nat.le_trans HS.out.2.1 (by decide)) G2.now N2.out).mono ?_
                rintro e w10 ⟨B2, D2, rfl, hq, hn, hb2⟩
                replace FB := FB.next hb2
                replace G1 := G1.next hb2
                replace G2 := G2.next hb2
                replace G3 := G3.next hb2
                replace G4 := G4.next hb2
                replace G5 := G5.next hb2
                replace I1 := I1.next hb2
                have I2 := kept_picks hq
                clear hb2 hq hn
                go_wp2_with fail
                refine (new_index B1 B2 D1 D2 ls ks _ HS.out.1 HS.out.2.1 I1.now I2.now (fun i hi => ⟨(O1.out i hi).1, (O1.out i hi).2.1⟩) (fun i hi => O2.out _ (mem_getD hi))).mono ?_
                rintro e w11 ⟨X, b1, b2, rfl, hq, hb2⟩
                replace FB := FB.next hb2
                replace G1 := G1.next hb2
                replace G2 := G2.next hb2
                replace G3 := G3.next hb2
                replace G4 := G4.next hb2
                replace G5 := G5.next hb2
                have IX := kept_idx hq
                clear hb2 hq I1 I2
                go_wp2_with fail
                refine (zz_picks A3 C3 ps _ HS3.out.1 G3.now N3.out).mono ?_
                rintro e w12 ⟨B3, D3, rfl, hq, hn, hb2⟩
                replace FB := FB.next hb2
                replace G1 := G1.next hb2
                replace G2 := G2.next hb2
                replace G3 := G3.next hb2
                replace G4 := G4.next hb2
                replace G5 := G5.next hb2
                replace IX := IX.next hb2
                have I3 := kept_picks hq
                clear hb2 hq
                have M3 : Hid (B3 = none → D3 = 0) := hn
                clear hn
                go_wp2_with fail
                refine (zz_picks A4 C4 os _ HS3.out.2.1 G4.now N4.out).mono ?_
                rintro e w13 ⟨B4, D4, rfl, hq, hn, hb2⟩
                replace FB := FB.next hb2
                replace G1 := G1.next hb2
                replace G2 := G2.next hb2
                replace G3 := G3.next hb2
                replace G4 := G4.next hb2
                replace G5 := G5.next hb2
                replace IX := IX.next hb2
                replace I3 := I3.next hb2
                have I4 := kept_picks hq
                clear hb2 hq
                have M4 : Hid (B4 = none → D4 = 0) := hn
                clear hn
                go_wp2_with fail
                refine (zz_picks A5 C5 qs _ HS3.out.2.2 G5.now N5.out).mono ?_
                rintro e w14 ⟨B5, D5, rfl, hq, hn, hb2⟩
                replace FB := FB.next hb2
                replace G1 := G1.next hb2
                replace G2 := G2.next hb2
                replace G3 := G3.next hb2
                replace G4 := G4.next hb2
                replace G5 := G5.next hb2
                replace IX := IX.next hb2
                replace I3 := I3.next hb2
                replace I4 := I4.next hb2
                have I5 := kept_picks hq
                clear hb2 hq
                have M5 : Hid (B5 = none → D5 = 0) := hn
                clear hn
                go_wp2_with fail
                refine (zz_narrowest X b1 b2 ls.length ks.length ls ks m sl vi B3 B4 B5 D3 D4 D5 ps os qs _ IX.now HM.out I3.now I4.now I5.now HS3.out.1 HS3.out.2.1 HS3.out.2.2 M3.out M4.out M5.out O3.out O4.out O5.out).mono ?_
                rintro e w15 ⟨r1, rfl, hr, hb2⟩
                replace FB := FB.next hb2
                replace G1 := G1.next hb2
                replace G2 := G2.next hb2
                replace G3 := G3.next hb2
                replace G4 := G4.next hb2
                replace G5 := G5.next hb2
                clear hb2 M3 M4 M5 I3 I4 I5 IX
                have Hr1 : Hid (r1 = if sl = true then narrow ls ks m (ps ++ qs ++ oneOfs os) else pk0) := hr
                clear hr
                have hbP : Below w15.heap.size w15 (w15.alloc (.cells #[.int .u8 r1.b, .string r1.nm, .string r1.vl] 35)) := (Below.refl _ _).alloc (Nat.le_refl _) _
                have Pr1 := kept_pk (pkAt_new w15 r1 35)
                replace FB := FB.next hbP
                replace G1 := G1.next hbP
                replace G2 := G2.next hbP
                replace G3 := G3.next hbP
                replace G4 := G4.next hbP
                replace G5 := G5.next hbP
                clear hbP
                go_upto_region 14 with fail
                generalize w15.heap.size = K1 at Pr1 ⊢
                generalize w15.alloc (.cells #[.int .u8 r1.b, .string r1.nm, .string r1.vl] 35) = w16 at FB G1 G2 G3 G4 G5 Pr1 ⊢
                obtain ⟨g0, g1, g2⟩ := Pr1.now
                go_upto_region 15 with fail
                have hbP : Below w16.heap.size w16 (w16.alloc (.cells #[.int .u8 r1.b, .string r1.nm, .string r1.vl] 38)) := (Below.refl _ _).alloc (Nat.le_refl _) _
                have Q1 := kept_pk (pkAt_new w16 r1 38)
                replace FB := FB.next hbP
                replace G1 := G1.next hbP
                replace G2 := G2.next hbP
                replace G3 := G3.next hbP
                replace G4 := G4.next hbP
                replace G5 := G5.next hbP
                replace Pr1 := Pr1.next hbP
                clear hbP Pr1 g0 g1 g2
                generalize w16.heap.size = J1 at Q1 ⊢
                generalize w16.alloc (.cells #[.int .u8 r1.b, .string r1.nm, .string r1.vl] 38) = w17 at FB G1 G2 G3 G4 G5 Q1 ⊢
                have heg := Try.eg38
                cases sl with
                | false =>
                  obtain ⟨u0, u1, u2⟩ := Q1.now
                  have e1 : r1 = pk0 := by have := Hr1.out; simpa using this
                  have hq1 : ∀ wx, (binOp .eql 38 (.agg #[.int .u8 r1.b, .string r1.nm, .string r1.vl]) (.agg #[.int .u8 0, .string ⟨#[]⟩, .string ⟨#[]⟩])).run Try.prog wx = .ok (.bool true) wx := fun wx => by
                    have := eql38 wx r1 pk0
                    rw [decide_eq_true e1] at this
                    exact this
                  clear e1 Hr1
                  go_wp2
                  go_ret
                  exact ⟨rfl, FB.now⟩
                | true =>
                  have e1 : r1 = narrow ls ks m (ps ++ qs ++ oneOfs os) := by have := Hr1.out; rw [if_pos rfl] at this; exact this
                  have e2 : r1 = best (cnt ls m) pk0 ((ps ++ qs ++ oneOfs os).filter (lists ks)) := e1.trans (best_narrow ls ks m _ pk0)
                  have HBF : Hid (∀ k, k ≤ (cands ks ps os qs).length → (∀ j, j < k → cnt ls m ((cands ks ps os qs).getD j pk0) ≠ cnt ls m r1) → k < (cands ks ps os qs).length ∧ (cnt ls m ((cands ks ps os qs).getD k pk0) = cnt ls m r1 → (cands ks ps os qs).getD k pk0 = r1)) := by
                    intro k hk h
                    rw [e2] at h ⊢
                    exact best_first _ _ _ k hk h
                  have HBT : Hid (∀ k, k < ((ps ++ qs ++ oneOfs os).filter (lists ks)).length → best (cnt ls m) pk0 (((ps ++ qs ++ oneOfs os).filter (lists ks)).take (k + 1)) = if cnt ls m ((cands ks ps os qs).getD (k + 1) pk0) < cnt ls m (best (cnt ls m) pk0 (((ps ++ qs ++ oneOfs os).filter (lists ks)).take k)) then (cands ks ps os qs).getD (k + 1) pk0 else best (cnt ls m) pk0 (((ps ++ qs ++ oneOfs os).filter (lists ks)).take k)) := fun k hk => best_take (cnt ls m) pk0 _ k hk
                  have HCL : Hid ((cands ks ps os qs).length = ((ps ++ qs ++ oneOfs os).filter (lists ks)).length + 1) := rfl
                  have HC0 : Hid ((cands ks ps os qs).getD 0 pk0 = pk0) := rfl
                  have hcl : (cands ks ps os qs).length ≤ 8200 := by
                    have h1 : ((ps ++ qs ++ oneOfs os).filter (lists ks)).length ≤ (ps ++ qs ++ oneOfs os).length := List.length_filter_le _ _
                    have h2 : (oneOfs os).length ≤ 1 := by unfold oneOfs; split <;> simp
                    rw [HCL.out]
                    simp only [List.length_append] at h1
                    omega
                  have HE2 : Hid (r1 = best (cnt ls m) pk0 ((ps ++ qs ++ oneOfs os).filter (lists ks))) := e2
                  have KC := zz_candidates A2 A3 A4 A5 C2 C3 C4 C5 ks ps os qs w17 G2.now G3.now G4.now G5.now HS.out.2.1 HS.out.2.2.1 HS.out.2.2.2.1 HS.out.2.2.2.2
                  generalize hT : (ps ++ qs ++ oneOfs os).filter (lists ks) = T at HBT HCL HE2
                  generalize cands ks ps os qs = C at HBF HBT HCL HC0 hcl KC
                  clear e1 e2 Hr1 hT
                  go_wp2_with fail
                  refine KC.mono ?_
                  rintro e y1 ⟨ao, cap, rfl, hPC, hb2⟩
                  replace FB := FB.next hb2
                  replace G1 := G1.next hb2
                  replace G2 := G2.next hb2
                  replace G3 := G3.next hb2
                  replace G4 := G4.next hb2
                  replace G5 := G5.next hb2
                  replace Q1 := Q1.next hb2
                  have GC := kept_picks hPC
                  clear hPC hb2 KC
                  have hc1 : 1 ≤ C.length := by rw [HCL.out]; omega
                  obtain ⟨G, g1, gs, ge⟩ : ∃ G : Nat → Nat, G 1 = cnt ls m (C.getD 0 pk0) ∧ (∀ k, 1 ≤ k → k < C.length → G (k + 1) = if cnt ls m (C.getD k pk0) < G k then cnt ls m (C.getD k pk0) else G k) ∧ G C.length = cnt ls m r1 := by
                    refine ⟨fun k => cnt ls m (best (cnt ls m) pk0 (T.take (k - 1))), by rw [HC0.out]; rfl, fun k hk1 hk2 => ?_, ?_⟩
                    · obtain ⟨j, rfl⟩ : ∃ j, k = j + 1 := ⟨k - 1, by omega⟩
                      rw [HCL.out] at hk2
                      simp only [Nat.add_sub_cancel]
                      rw [HBT.out j (by omega)]
                      split <;> rfl
                    · simp only [HCL.out, Nat.add_sub_cancel]
                      rw [List.take_length, HE2.out]
                  have HG1 : Hid (G 1 = cnt ls m (C.getD 0 pk0)) := g1
                  have HGS : Hid (∀ k, 1 ≤ k → k < C.length → G (k + 1) = if cnt ls m (C.getD k pk0) < G k then cnt ls m (C.getD k pk0) else G k) := gs
                  have HGE : Hid (G C.length = cnt ls m r1) := ge
                  clear g1 gs ge HBT HE2 HCL HC0
                  obtain ⟨gC, offC, e, hp0⟩ := GC.now 0 (by omega)
                  cases e
                  obtain ⟨p0, p1, p2⟩ := hp0
                  simp only [Nat.zero_mul, Nat.add_zero] at p0 p1 p2
                  generalize C.getD 0 pk0 = c0v at p0 p1 p2 HG1
                  go_wp2_with fail
                  refine (zz_count A1 C1 ls m c0v _ G1.now HS.out.1).mono ?_
                  rintro e y2 ⟨rfl, hb2⟩
                  replace FB := FB.next hb2
                  replace G1 := G1.next hb2
                  replace G2 := G2.next hb2
                  replace G3 := G3.next hb2
                  replace G4 := G4.next hb2
                  replace G5 := G5.next hb2
                  replace Q1 := Q1.next hb2
                  replace GC := GC.next hb2
                  clear hb2 p0 p1 p2
                  rw [← HG1.out]
                  clear HG1
                  go_wp2
                  go_loopw [22, 23] (fun l i wr => ∃ k : Nat, 1 ≤ k ∧ k ≤ C.length ∧ l = .int .i64 (G k) ∧ i = .int .i64 k ∧ Hid (Below y2.heap.size y2 wr)) (fun _ i _ => C.length - (intOf i).toNat)
                  case atStart => exact ⟨1, by omega, by omega, rfl, rfl, Below.refl _ _⟩
                  case round =>
                    obtain ⟨k, hk1, hkC, rfl, rfl, hbw⟩ := hrel
                    by_cases hlt : k < C.length
                    · obtain ⟨g, off, e, hp⟩ := (GC.next hbw.out).now k hlt
                      cases e
                      obtain ⟨p0, p1, p2⟩ := hp
                      have HGK : Hid (G (k + 1) = if cnt ls m (C.getD k pk0) < G k then cnt ls m (C.getD k pk0) else G k) := HGS.out k hk1 hlt
                      generalize C.getD k pk0 = p at p0 p1 p2 HGK
                      have KN := zz_count A1 C1 ls m p wr (G1.next hbw.out).now HS.out.1
                      generalize cnt ls m p = cp at KN HGK
                      go_wp2_with fail
                      refine KN.mono ?_
                      rintro e y3 ⟨rfl, hb3⟩
                      have HB3 : Hid (Below y2.heap.size y2 y3) := below_step hbw.out hb3 hbw.out.size
                      clear KN hb3 p0 p1 p2
                      by_cases hc : cp < G k
                      · rw [if_pos hc] at HGK
                        go_wp2
                        go_roundw
                        case rel => exact ⟨k + 1, by omega, by omega, by rw [HGK.out], by go_num, HB3⟩
                        case measure => simp [intOf]; omega
                      · rw [if_neg hc] at HGK
                        go_wp2
                        go_roundw
                        case rel => exact ⟨k + 1, by omega, by omega, by rw [HGK.out], by go_num, HB3⟩
                        case measure => simp [intOf]; omega
                    · obtain rfl : k = C.length := by omega
                      rw [HGE.out]
                      obtain ⟨y4, hy4⟩ : ∃ z, z = wr := ⟨wr, rfl⟩
                      subst hy4
                      replace FB := FB.next hbw.out
                      replace G1 := G1.next hbw.out
                      replace G2 := G2.next hbw.out
                      replace G3 := G3.next hbw.out
                      replace G4 := G4.next hbw.out
                      replace G5 := G5.next hbw.out
                      replace Q1 := Q1.next hbw.out
                      replace GC := GC.next hbw.out
                      clear hbw
                      go_wp2
                      go_loopw [25] (fun i wr => ∃ k : Nat, k ≤ C.length ∧ i = .int .i64 k ∧ Hid (∀ j, j < k → cnt ls m (C.getD j pk0) ≠ cnt ls m r1) ∧ Hid (Below y4.heap.size y4 wr)) (fun i _ => C.length - (intOf i).toNat)
                      case atStart => exact ⟨0, by omega, rfl, fun j hj => absurd hj (by omega), Below.refl _ _⟩
                      case round =>
                        obtain ⟨k, hkC, rfl, HN, hbw⟩ := hrel
                        obtain ⟨hlt, hfi⟩ := HBF.out k hkC HN.out
                        obtain ⟨g, off, e, hp⟩ := (GC.next hbw.out).now k hlt
                        cases e
                        obtain ⟨p0, p1, p2⟩ := hp
                        have HFI : Hid (cnt ls m (C.getD k pk0) = cnt ls m r1 → C.getD k pk0 = r1) := hfi
                        have HNK : Hid (∀ j, j < k + 1 → (cnt ls m (C.getD k pk0) ≠ cnt ls m r1) → cnt ls m (C.getD j pk0) ≠ cnt ls m r1) := fun j hj hne => by
                          rcases Nat.lt_or_eq_of_le (Nat.le_of_lt_succ hj) with h | h
                          · exact HN.out j h
                          · rw [h]; exact hne
                        clear hfi
                        generalize C.getD k pk0 = p at p0 p1 p2 HFI HNK
                        have KN := zz_count A1 C1 ls m p wr (G1.next hbw.out).now HS.out.1
                        by_cases hc : cnt ls m p = cnt ls m r1
                        · have hpr : p = r1 := HFI.out hc
                          subst hpr
                          have hq1 : ∀ wx, (binOp .eql 38 (.agg #[.int .u8 p.b, .string p.nm, .string p.vl]) (.agg #[.int .u8 p.b, .string p.nm, .string p.vl])).run Try.prog wx = .ok (.bool true) wx := fun wx => by
                            have := eql38 wx p p
                            rw [decide_eq_true rfl] at this
                            exact this
                          clear hc
                          go_wp2_with fail
                          refine KN.mono ?_
                          rintro e y5 ⟨rfl, hb5⟩
                          have HB5 : Hid (Below w.heap.size w y5) := ((FB.next hbw.out).next hb5).now
                          obtain ⟨u0, u1, u2⟩ := ((Q1.next hbw.out).next hb5).now
                          obtain ⟨s0, s1, s2⟩ : PkAt y5 gC (offC + k * 3) p := PkAt.below ⟨p0, p1, p2⟩ hb5 (lt_of_cell p0)
                          clear KN hb5 p0 p1 p2
                          go_wp2_with fail
                          go_quiet (fail)
                          go_wp2
                          go_ret
                          exact ⟨rfl, below_drewN HB5.out _⟩
                        · have HNN : Hid (∀ j, j < k + 1 → cnt ls m (C.getD j pk0) ≠ cnt ls m r1) := fun j hj => HNK.out j hj hc
                          have hci : decide ((cnt ls m p : Int) = cnt ls m r1) = false := decide_eq_false (by omega)
                          go_wp2_with fail
                          refine KN.mono ?_
                          rintro e y5 ⟨rfl, hb5⟩
                          have HB5 : Hid (Below y4.heap.size y4 y5) := below_step hbw.out hb5 hbw.out.size
                          clear KN hb5 p0 p1 p2
                          go_wp2
                          go_roundw
                          case rel => exact ⟨k + 1, by omega, by go_num, HNN, HB5⟩
                          case measure => simp [intOf]; omega
end Go.Proofs.Qxb6604404a
