import Derived.Test.Qxb6604404aCount
import Derived.Test.Qxb6604404aNarrow
namespace Go.Proofs.Qxb6604404a
open Go.RowKit
set_option linter.unusedVariables false
set_option linter.unusedSectionVars false
variable [DecidableEq Pk]

/-! ### A GROWING SLICE OF PICKS OF THE LAWS' OWN TYPE -/
theorem own38_below {w w' : World} {B n : Nat} {v : Value} {xs : List Value} (h : w.ownsRow B 38 3 v n xs) (hb : Below w.heap.size w w') : w'.ownsRow B 38 3 v n xs := by
  obtain ⟨h1, h2⟩ := h
  refine ⟨h1, ?_⟩
  rcases h2 with h2 | ⟨g, cap, cur, e, hg, hh, hr⟩
  · exact .inl h2
  · exact .inr ⟨g, cap, cur, e, hg, by rw [hb.block g (lt_of_heap hh)]; exact hh, hr⟩
theorem own38_picks {w : World} {base n : Nat} {v : Value} {ps : List Pk} (h : w.ownsRow base 38 3 v n (flatP ps)) : ∃ ao cap, v = .slice ao ps.length cap ∧ Picks w ao ps ∧ n = ps.length := by
  have hn : n = ps.length := by have := h.1; rw [flatP_length] at this; omega
  subst hn
  rcases id h.2 with ⟨rfl, h0⟩ | ⟨g, cap, cur, rfl, _⟩
  · exact ⟨none, 0, by rw [h0], fun i hi => by omega, rfl⟩
  · refine ⟨some ⟨g, 0, none⟩, cap, rfl, fun i hi => ⟨g, 0, rfl, ?_⟩, rfl⟩
    obtain ⟨q1, q2, q3⟩ := flatP_get ps i hi
    refine ⟨?_, ?_, ?_⟩
    · rw [Nat.zero_add, h.cellAt _ (by omega)]; exact q1
    · rw [Nat.zero_add, h.cellAt _ (by omega)]; exact q2
    · rw [Nat.zero_add, h.cellAt _ (by omega)]; exact q3
theorem own38_lt {w : World} {base n : Nat} {v : Value} {xs : List Value} (h : w.ownsRow base 38 3 v n xs) : n * 3 = xs.length := h.1.symm
/-- The first candidate. -/
theorem own38_first (w : World) : (w.alloc (.cells #[.int .u8 0, .string ⟨#[]⟩, .string ⟨#[]⟩] 38)).ownsRow w.heap.size 38 3 (.slice (some ⟨w.heap.size, 0, none⟩) 1 1) 1 (flatP [pk0]) :=
  ⟨rfl, .inr ⟨w.heap.size, 1, _, rfl, Nat.le_refl _, heap_alloc_new w _, Nat.le_refl _, by unfold maxLen; omega, rfl, rfl⟩⟩
/-- One pick is appended. -/
theorem run_cat38 {w : World} {base n : Nat} {v : Value} {ps : List Pk} (hown : w.ownsRow base 38 3 v n (flatP ps)) (hb : base ≤ w.heap.size) (p : Pk) (hlim : ps.length ≤ 100000) (ty : TypeId) :
    ∃ v' w', (Builtin.append_ #[23, 23] ty #[v, .slice (some ⟨w.heap.size, 0, none⟩) 1 1]).run Try.prog (w.alloc (.cells #[.int .u8 p.b, .string p.nm, .string p.vl] 38)) = .ok v' w' ∧ w'.ownsRow base 38 3 v' (n + 1) (flatP (ps ++ [p])) ∧ Below base w w' := by
  obtain ⟨i0, hi, hz0, hz1, hz2⟩ := info_parts Try.info38
  have hbN : Below w.heap.size w (w.alloc (.cells #[.int .u8 p.b, .string p.nm, .string p.vl] 38)) := (Below.refl _ _).alloc (Nat.le_refl _) _
  have hnew := heap_alloc_new w (.cells #[.int .u8 p.b, .string p.nm, .string p.vl] 38)
  have hn : n = ps.length := by have := hown.1; rw [flatP_length] at this; omega
  have hown2 := own38_below hown hbN
  have hpk : Picks (w.alloc (.cells #[.int .u8 p.b, .string p.nm, .string p.vl] 38)) (some ⟨w.heap.size, 0, none⟩) [p] := fun i hi => ⟨w.heap.size, 0, rfl, by
    obtain rfl : i = 0 := by simpa using hi
    exact ⟨by rw [cell_of_row _ _ _ _ 38 _ hnew]; rfl, by rw [cell_of_row _ _ _ _ 38 _ hnew]; rfl, by rw [cell_of_row _ _ _ _ 38 _ hnew]; rfl⟩⟩
  obtain ⟨v', w', h1, h2, h3, _⟩ := run_append_own (w.alloc (.cells #[.int .u8 p.b, .string p.nm, .string p.vl] 38)) base 23 ty 38 i0 _ 3 40 Try.underlying23 hi hz0 hz1 hz2 rfl (by omega) v n (flatP ps) hown2 ⟨w.heap.size, 0, none⟩ 1 1 (flatP [p]) rfl (fun j u hu => by rw [add_none]; exact news_of_picks [p] 0 hpk j u hu) (flatP_one [p]) (by unfold maxLen; omega) (by omega) (Nat.le_trans hb hbN.size)
  refine ⟨v', w', h1, by rw [flatP_append]; exact h2, ?_⟩
  have hb1 : Below base w (w.alloc (.cells #[.int .u8 p.b, .string p.nm, .string p.vl] 38)) := (Below.refl _ _).alloc hb _
  exact hb1.grown h3 (Nat.le_trans hb hbN.size) (fun k e => by
    rcases hown.2 with ⟨rfl, _⟩ | ⟨g, cap, cur, rfl, hbb, _⟩
    · cases e
    · cases e; exact hbb)

/-! ### THE CANDIDATES -/
def cands (ks ps os qs : List Pk) : List Pk := pk0 :: ((ps ++ qs ++ oneOfs os).filter (lists ks))
theorem filter_take (f : Pk → Bool) (L : List Pk) (k : Nat) (h : k < L.length) : (L.take (k + 1)).filter f = (L.take k).filter f ++ (if f (L.getD k pk0) = true then [L.getD k pk0] else []) := by
  rw [List.take_add_one, List.filter_append, List.getD_eq_getElem?_getD, List.getElem?_eq_getElem h]
  simp [List.filter]
  split <;> simp_all
theorem filter_le (f : Pk → Bool) (L : List Pk) (k : Nat) : ((L.take k).filter f).length ≤ L.length := Nat.le_trans (List.length_filter_le _ _) (by rw [List.length_take]; omega)
/-- Is each of the first k the first one? -/
def same (os : List Pk) (k : Nat) : Bool := decide (∀ j, j < k → os.getD j pk0 = os.getD 0 pk0)
theorem same_one (os : List Pk) : same os 1 = true := by
  unfold same
  refine decide_eq_true (fun j hj => ?_)
  obtain rfl : j = 0 := by omega
  rfl
theorem same_succ (os : List Pk) (k : Nat) : same os (k + 1) = (same os k && decide (os.getD k pk0 = os.getD 0 pk0)) := by
  unfold same
  rw [← Bool.decide_and, decide_eq_decide]
  constructor
  · exact fun h => ⟨fun j hj => h j (by omega), h k (by omega)⟩
  · rintro ⟨h1, h2⟩ j hj
    by_cases e : j = k
    · rw [e]; exact h2
    · exact h1 j (by omega)
theorem oneOfs_same (os : List Pk) (h : os.length ≠ 0) : oneOfs os = if same os os.length = true then [os.getD 0 pk0] else [] := by
  unfold oneOfs
  by_cases hs : same os os.length = true
  · rw [if_pos hs, if_neg]
    rintro (h' | ⟨p, hp, hne⟩)
    · exact h h'
    · obtain ⟨j, hj, e⟩ := List.getElem_of_mem hp
      have := of_decide_eq_true hs j hj
      rw [List.getD_eq_getElem?_getD, List.getElem?_eq_getElem hj] at this
      exact hne (e ▸ this)
  · rw [if_neg hs, if_pos]
    right
    by_cases hc : ∃ p ∈ os, p ≠ os.getD 0 pk0
    · exact hc
    · refine absurd (decide_eq_true fun j hj => ?_) hs
      by_cases hne : os.getD j pk0 = os.getD 0 pk0
      · exact hne
      · exact absurd ⟨os.getD j pk0, mem_getD hj, hne⟩ hc

set_option maxRecDepth 100000 in
set_option maxHeartbeats 3200000 in
/-- 'zzCandidates'. -/
theorem zz_candidates (aK aP aO aQ : Option Addr) (cK cP cO cQ : Nat) (ks ps os qs : List Pk) (w : World) (hk : Picks w aK ks) (hp : Picks w aP ps) (ho : Picks w aO os) (hq : Picks w aQ qs) (nk : ks.length ≤ 4096) (np : ps.length ≤ 4096) (no : os.length ≤ 4096) (nq : qs.length ≤ 4096) :
    Calls Try.prog 15 #[.slice aK ks.length cK, .slice aP ps.length cP, .slice aO os.length cO, .slice aQ qs.length cQ] w fun e w' => ∃ ao cap, e = .returned (.slice ao (cands ks ps os qs).length cap) ∧ Picks w' ao (cands ks ps os qs) ∧ Below w.heap.size w w' := by
  have HK : Hid (Picks w aK ks) := hk
  have HP : Hid (Picks w aP ps) := hp
  have HO : Hid (Picks w aO os) := ho
  have HQ : Hid (Picks w aQ qs) := hq
  have hown0 := own38_first w
  have hb0 : Below w.heap.size w (w.alloc (.cells #[.int .u8 0, .string ⟨#[]⟩, .string ⟨#[]⟩] 38)) := (Below.refl _ _).alloc (Nat.le_refl _) _
  generalize hcc : cands ks ps os qs = cc
  have HC : Hid (cands ks ps os qs = cc) := hcc
  clear hcc hk hp ho hq
  go_enter Try.func15, Try.ntmps15
  go_wp2
  go_loopw [9, 10] (fun v i wr => ∃ k n : Nat, k ≤ ps.length ∧ i = .int .i64 k ∧ Hid (wr.ownsRow w.heap.size 38 3 v n (flatP ([pk0] ++ (ps.take k).filter (lists ks)))) ∧ Hid (Below w.heap.size w wr)) (fun _ i _ => ps.length - (intOf i).toNat)
  case atStart => exact ⟨0, _, by omega, rfl, hown0, hb0⟩
  case round =>
    clear hown0 hb0
    obtain ⟨k, n, hk, rfl, HOW, hbw⟩ := hrel
    by_cases hlt : k < ps.length
    · obtain ⟨g, off, e, hp1⟩ := HP.out.below hbw.out k hlt
      cases e
      obtain ⟨q0, q1, q2⟩ := hp1
      have HFT : Hid ((ps.take (k + 1)).filter (lists ks) = (ps.take k).filter (lists ks) ++ (if lists ks (ps.getD k pk0) = true then [ps.getD k pk0] else [])) := filter_take _ ps k hlt
      have hfl := filter_le (lists ks) ps k
      generalize ps.getD k pk0 = p at q0 q1 q2 HFT
      have KL := zz_lists aK cK ks p wr (HK.out.below hbw.out) nk
      by_cases hL : lists ks p = true
      · have HF2 : Hid (flatP ([pk0] ++ (ps.take (k + 1)).filter (lists ks)) = flatP (([pk0] ++ (ps.take k).filter (lists ks)) ++ [p])) := by show _ = _; rw [HFT.out, if_pos hL, List.append_assoc]
        rw [hL] at KL
        clear hL HFT
        go_wp2_with fail
        refine KL.mono ?_
        rintro e w2 ⟨rfl, hb2⟩
        have hown2 := own38_below HOW.out hb2
        have hb2' : Below w.heap.size w w2 := below_step hbw.out hb2 hbw.out.size
        obtain ⟨v', w3, hr, hown3, hb3⟩ := run_cat38 hown2 hb2'.size p (by simp only [List.length_append, List.length_cons, List.length_nil]; omega) 23
        have HO3 : Hid (w3.ownsRow w.heap.size 38 3 v' (n + 1) (flatP ([pk0] ++ (ps.take (k + 1)).filter (lists ks)))) := by
          show World.ownsRow _ _ _ _ _ _ _
          rw [HF2.out]; exact hown3
        have HB3 : Hid (Below w.heap.size w w3) := hb2'.trans hb3
        obtain ⟨q0', q1', q2'⟩ : PkAt w2 g (off + k * 3) p := PkAt.below ⟨q0, q1, q2⟩ hb2 (lt_of_cell q0)
        clear q0 q1 q2 KL hown2 hown3 hb3 hb2 hb2' HF2
        go_wp2_with (at_builtin; refine Lib.wpList_append_run _ rfl _ _ _ _ rfl _ _ rfl rfl _ _ hr ?_)
        go_roundw
        case rel => exact ⟨k + 1, n + 1, by omega, by go_num, HO3, HB3⟩
        case measure => simp [intOf]; omega
      · have HF2 : Hid ((ps.take (k + 1)).filter (lists ks) = (ps.take k).filter (lists ks)) := by show _ = _; rw [HFT.out, if_neg hL, List.append_nil]
        have hL' : lists ks p = false := by simpa using hL
        rw [hL'] at KL
        clear hL hL' HFT
        go_wp2_with fail
        refine KL.mono ?_
        rintro e w2 ⟨rfl, hb2⟩
        have hO3 := own38_below HOW.out hb2
        rw [← HF2.out] at hO3
        have HO3 : Hid (World.ownsRow w2 w.heap.size 38 3 _ n (flatP ([pk0] ++ (ps.take (k + 1)).filter (lists ks)))) := hO3
        clear hO3
        have HB3 : Hid (Below w.heap.size w w2) := below_step hbw.out hb2 hbw.out.size
        clear q0 q1 q2 KL hb2 HF2
        go_wp2
        go_roundw
        case rel => exact ⟨k + 1, n, by omega, by go_num, HO3, HB3⟩
        case measure => simp [intOf]; omega
    · obtain rfl : k = ps.length := by omega
      rw [List.take_length] at HOW
      have hfp : ([pk0] ++ ps.filter (lists ks)).length ≤ 4097 := by
        have := List.length_filter_le (lists ks) ps
        simp only [List.length_append, List.length_cons, List.length_nil]
        omega
      generalize hpre : [pk0] ++ ps.filter (lists ks) = pre at HOW hfp
      have HPRE : Hid ([pk0] ++ ps.filter (lists ks) = pre) := hpre
      clear hpre
      go_wp2
      go_loopw [9, 11] (fun v i wr => ∃ k n : Nat, k ≤ qs.length ∧ i = .int .i64 k ∧ Hid (wr.ownsRow w.heap.size 38 3 v n (flatP (pre ++ (qs.take k).filter (lists ks)))) ∧ Hid (Below w.heap.size w wr)) (fun _ i _ => qs.length - (intOf i).toNat)
      case atStart => exact ⟨0, _, by omega, rfl, (by rw [List.take_zero, List.filter_nil, List.append_nil]; exact HOW.out), hbw⟩
      case round =>
        clear HOW hbw
        obtain ⟨k, n, hkq, rfl, HOW, hbw⟩ := hrel
        by_cases hlt : k < qs.length
        · obtain ⟨g, off, e, hp1⟩ := HQ.out.below hbw.out k hlt
          cases e
          obtain ⟨q0, q1, q2⟩ := hp1
          have HFT : Hid ((qs.take (k + 1)).filter (lists ks) = (qs.take k).filter (lists ks) ++ (if lists ks (qs.getD k pk0) = true then [qs.getD k pk0] else [])) := filter_take _ qs k hlt
          have hfl := filter_le (lists ks) qs k
          generalize qs.getD k pk0 = p at q0 q1 q2 HFT
          have KL := zz_lists aK cK ks p wr (HK.out.below hbw.out) nk
          by_cases hL : lists ks p = true
          · have HF2 : Hid (flatP (pre ++ (qs.take (k + 1)).filter (lists ks)) = flatP ((pre ++ (qs.take k).filter (lists ks)) ++ [p])) := by show _ = _; rw [HFT.out, if_pos hL, List.append_assoc]
            rw [hL] at KL
            clear hL HFT
            go_wp2_with fail
            refine KL.mono ?_
            rintro e w2 ⟨rfl, hb2⟩
            have hown2 := own38_below HOW.out hb2
            have hb2' : Below w.heap.size w w2 := below_step hbw.out hb2 hbw.out.size
            obtain ⟨v', w3, hr, hown3, hb3⟩ := run_cat38 hown2 hb2'.size p (by simp only [List.length_append]; omega) 23
            have HO3 : Hid (w3.ownsRow w.heap.size 38 3 v' (n + 1) (flatP (pre ++ (qs.take (k + 1)).filter (lists ks)))) := by
              show World.ownsRow _ _ _ _ _ _ _
              rw [HF2.out]; exact hown3
            have HB3 : Hid (Below w.heap.size w w3) := hb2'.trans hb3
            obtain ⟨q0', q1', q2'⟩ : PkAt w2 g (off + k * 3) p := PkAt.below ⟨q0, q1, q2⟩ hb2 (lt_of_cell q0)
            clear q0 q1 q2 KL hown2 hown3 hb3 hb2 hb2' HF2
            go_wp2_with (at_builtin; refine Lib.wpList_append_run _ rfl _ _ _ _ rfl _ _ rfl rfl _ _ hr ?_)
            go_roundw
            case rel => exact ⟨k + 1, n + 1, by omega, by go_num, HO3, HB3⟩
            case measure => simp [intOf]; omega
          · have HF2 : Hid ((qs.take (k + 1)).filter (lists ks) = (qs.take k).filter (lists ks)) := by show _ = _; rw [HFT.out, if_neg hL, List.append_nil]
            have hL' : lists ks p = false := by simpa using hL
            rw [hL'] at KL
            clear hL hL' HFT
            go_wp2_with fail
            refine KL.mono ?_
            rintro e w2 ⟨rfl, hb2⟩
            have hO3 := own38_below HOW.out hb2
            rw [← HF2.out] at hO3
            have HO3 : Hid (World.ownsRow w2 w.heap.size 38 3 _ n (flatP (pre ++ (qs.take (k + 1)).filter (lists ks)))) := hO3
            clear hO3
            have HB3 : Hid (Below w.heap.size w w2) := below_step hbw.out hb2 hbw.out.size
            clear q0 q1 q2 KL hb2 HF2
            go_wp2
            go_roundw
            case rel => exact ⟨k + 1, n, by omega, by go_num, HO3, HB3⟩
            case measure => simp [intOf]; omega
        · obtain rfl : k = qs.length := by omega
          rw [List.take_length] at HOW
          have hfp2 : (pre ++ qs.filter (lists ks)).length ≤ 8200 := by
            have := List.length_filter_le (lists ks) qs
            simp only [List.length_append]
            omega
          generalize hpre : pre ++ qs.filter (lists ks) = pre2 at HOW hfp2
          have HPRE2 : Hid (pre ++ qs.filter (lists ks) = pre2) := hpre
          clear hpre
          by_cases ho0 : os.length = 0
          · have HE : Hid (pre2 = cc) := by
              show _ = _
              rw [← HC.out, ← HPRE2.out, ← HPRE.out]
              simp [cands, oneOfs, ho0]
            obtain ⟨ao, cap, rfl, hPc, _⟩ := own38_picks HOW.out
            go_wp2
            go_ret
            refine ⟨ao, cap, by rw [← HE.out]; rfl, by rw [← HE.out]; exact hPc, hbw.out⟩
          · obtain ⟨ao, cap, rfl, hPc, hnc⟩ := own38_picks HOW.out
            clear hPc
            obtain ⟨wq, hwq⟩ : ∃ z, z = wr := ⟨wr, rfl⟩
            subst hwq
            have HOS : Hid (oneOfs os = if same os os.length = true then [os.getD 0 pk0] else []) := oneOfs_same os ho0
            obtain ⟨g0, off0, e, hpo⟩ := HO.out 0 (by omega)
            cases e
            have HO0 : Hid (PkAt wq g0 off0 (os.getD 0 pk0)) := by
              have := hpo.below hbw.out (lt_of_cell hpo.1)
              show PkAt _ _ _ _
              simpa using this
            have HOO : Hid (Picks wq (some ⟨g0, off0, none⟩) os) := HO.out.below hbw.out
            clear hpo
            go_wp2
            go_loopw [12, 13] (fun s i wx => ∃ k : Nat, 1 ≤ k ∧ k ≤ os.length ∧ s = .bool (same os k) ∧ i = .int .i64 k ∧ Hid (Below wq.heap.size wq wx)) (fun _ i _ => os.length - (intOf i).toNat)
            case atStart => exact ⟨1, by omega, by omega, by rw [same_one], rfl, Below.refl _ _⟩
            case round =>
              obtain ⟨k, hk1, hko, rfl, rfl, hbx⟩ := hrel
              by_cases hlt : k < os.length
              · obtain ⟨g1, off1, e, hp1⟩ := HOO.out.below hbx.out k hlt
                cases e
                obtain ⟨q0, q1, q2⟩ := hp1
                obtain ⟨o0, o1, o2⟩ := HO0.out.below hbx.out (lt_of_cell HO0.out.1)
                have HSS : Hid (same os (k + 1) = (same os k && decide (os.getD k pk0 = os.getD 0 pk0))) := same_succ os k
                generalize os.getD k pk0 = p at q0 q1 q2 HSS
                generalize os.getD 0 pk0 = o at o0 o1 o2 HSS
                have heg := Try.eg38
                by_cases hpo : p = o
                · have hne : ∀ wz, (binOp .neq 38 (.agg #[.int .u8 p.b, .string p.nm, .string p.vl]) (.agg #[.int .u8 o.b, .string o.nm, .string o.vl])).run Try.prog wz = .ok (.bool false) wz := fun wz => by
                    have := neq38 wz p o
                    rw [decide_eq_true hpo] at this
                    exact this
                  have HS2 : Hid (same os (k + 1) = same os k) := by show _ = _; rw [HSS.out, decide_eq_true hpo, Bool.and_true]
                  clear hpo
                  go_wp2_with fail
                  go_quiet (fail)
                  go_wp2
                  go_roundw
                  case rel => exact ⟨k + 1, by omega, by omega, by rw [HS2.out], by go_num, below_drewN hbx.out _⟩
                  case measure => simp [intOf]; omega
                · have hne : ∀ wz, (binOp .neq 38 (.agg #[.int .u8 p.b, .string p.nm, .string p.vl]) (.agg #[.int .u8 o.b, .string o.nm, .string o.vl])).run Try.prog wz = .ok (.bool true) wz := fun wz => by
                    have := neq38 wz p o
                    rw [decide_eq_false hpo] at this
                    exact this
                  have HS2 : Hid (same os (k + 1) = false) := by show _ = _; rw [HSS.out, decide_eq_false hpo, Bool.and_false]
                  clear hpo
                  go_wp2_with fail
                  go_quiet (fail)
                  go_wp2
                  go_roundw
                  case rel => exact ⟨k + 1, by omega, by omega, by rw [HS2.out], by go_num, below_drewN hbx.out _⟩
                  case measure => simp [intOf]; omega
              · obtain rfl : k = os.length := by omega
                have HB4 : Hid (Below w.heap.size w wr) := below_step hbw.out hbx.out hbw.out.size
                have HOW4 : Hid (wr.ownsRow w.heap.size 38 3 (.slice ao pre2.length cap) n (flatP pre2)) := own38_below HOW.out hbx.out
                obtain ⟨o0, o1, o2⟩ := HO0.out.below hbx.out (lt_of_cell HO0.out.1)
                have KL := zz_lists aK cK ks (os.getD 0 pk0) wr (HK.out.below HB4.out) nk
                generalize os.getD 0 pk0 = o at o0 o1 o2 HOS KL
                clear HO0 HOO HOW hbw hbx
                by_cases hs : same os os.length = true
                · rw [if_pos hs] at HOS
                  by_cases hL : lists ks o = true
                  · have HE : Hid (pre2 ++ [o] = cc) := by
                      show _ = _
                      rw [← HC.out, ← HPRE2.out, ← HPRE.out]
                      simp [cands, HOS.out, hL]
                    rw [hL] at KL
                    rw [hs]
                    clear hs hL HOS
                    go_wp2_with fail
                    refine KL.mono ?_
                    rintro e w5 ⟨rfl, hb5⟩
                    have hb5' : Below w.heap.size w w5 := below_step HB4.out hb5 HB4.out.size
                    obtain ⟨v', w6, hr, hown6, hb6⟩ := run_cat38 (own38_below HOW4.out hb5) hb5'.size o (by omega) 23
                    obtain ⟨ao6, cap6, rfl, hP6, _⟩ := own38_picks hown6
                    have HP6 : Hid (Picks w6 ao6 (pre2 ++ [o])) := hP6
                    have HB6 : Hid (Below w.heap.size w w6) := hb5'.trans hb6
                    obtain ⟨r0, r1, r2⟩ : PkAt w5 g0 off0 o := PkAt.below ⟨o0, o1, o2⟩ hb5 (lt_of_cell o0)
                    clear KL hb5 hb5' hb6 hown6 hP6 o0 o1 o2 HOW4 HB4
                    go_wp2_with (at_builtin; refine Lib.wpList_append_run _ rfl _ _ _ _ rfl _ _ rfl rfl _ _ hr ?_)
                    go_ret
                    exact ⟨ao6, cap6, by rw [← HE.out]; simp, by rw [← HE.out]; exact HP6.out, HB6.out⟩
                  · have hL' : lists ks o = false := by simpa using hL
                    have HE : Hid (pre2 = cc) := by
                      show _ = _
                      rw [← HC.out, ← HPRE2.out, ← HPRE.out]
                      simp [cands, HOS.out, hL']
                    rw [hL'] at KL
                    rw [hs]
                    clear hs hL hL' HOS
                    go_wp2_with fail
                    refine KL.mono ?_
                    rintro e w5 ⟨rfl, hb5⟩
                    obtain ⟨ao6, cap6, e6, hP6, _⟩ := own38_picks (own38_below HOW4.out hb5)
                    cases e6
                    have HP6 : Hid (Picks w5 ao pre2) := hP6
                    have HB6 : Hid (Below w.heap.size w w5) := below_step HB4.out hb5 HB4.out.size
                    clear KL hb5 hP6 o0 o1 o2 HOW4 HB4
                    go_wp2
                    go_ret
                    exact ⟨ao, cap, by rw [← HE.out]; rfl, by rw [← HE.out]; exact HP6.out, HB6.out⟩
                · rw [if_neg hs] at HOS
                  have hs' : same os os.length = false := by simpa using hs
                  have HE : Hid (pre2 = cc) := by
                    show _ = _
                    rw [← HC.out, ← HPRE2.out, ← HPRE.out]
                    simp [cands, HOS.out]
                  obtain ⟨ao6, cap6, e6, hP6, _⟩ := own38_picks HOW4.out
                  cases e6
                  have HP6 : Hid (Picks wr ao pre2) := hP6
                  rw [hs']
                  clear hs hs' HOS KL hP6 HOW4
                  go_wp2
                  go_ret
                  exact ⟨ao, cap, by rw [← HE.out]; rfl, by rw [← HE.out]; exact HP6.out, HB4.out⟩
end Go.Proofs.Qxb6604404a
