import Derived.Test.Qxb6604404aLists
import Derived.Deep.CutRange
namespace Go.Proofs.Qxb6604404a
open Go.RowKit
set_option linter.unusedVariables false
set_option linter.unusedSectionVars false
variable [DecidableEq Pk]
set_option linter.unusedSimpArgs false
theorem Try.info74 : (Try.prog.info? 74).map (fun i => (i.size, i.bytes)) = some (5, 88) := by kernel_rfl

/-- One round of the search for the pick with the fewest. -/
def step1 (ls : List Ls) (ks : List Pk) (m : ByteArray) (f k : Pk) : Pk := if lists ks k = true ∧ cnt ls m k < cnt ls m f then k else f
def narrow (ls : List Ls) (ks : List Pk) (m : ByteArray) (L : List Pk) : Pk := L.foldl (step1 ls ks m) pk0
def oneOfs (os : List Pk) : List Pk := if os.length = 0 ∨ (∃ p ∈ os, p ≠ os.getD 0 pk0) then [] else [os.getD 0 pk0]

theorem narrow_take (ls : List Ls) (ks : List Pk) (m : ByteArray) (L : List Pk) (k : Nat) (h : k < L.length) : narrow ls ks m (L.take (k + 1)) = step1 ls ks m (narrow ls ks m (L.take k)) (L.getD k pk0) := by
  unfold narrow
  rw [List.take_add_one, List.foldl_append, List.getD_eq_getElem?_getD, List.getElem?_eq_getElem h]
  rfl
theorem narrow_ok (ls : List Ls) (ks : List Pk) (m : ByteArray) (L : List Pk) (h : ∀ p ∈ L, p.ok) : (narrow ls ks m L).ok := by
  unfold narrow
  have : ∀ (L : List Pk) (f : Pk), f.ok → (∀ p ∈ L, p.ok) → (L.foldl (step1 ls ks m) f).ok := by
    intro L
    induction L with
    | nil => intro f hf _; exact hf
    | cons p L ih =>
      intro f hf h
      refine ih _ ?_ (fun q hq => h q (List.mem_cons_of_mem _ hq))
      unfold step1
      split
      · exact h p (List.mem_cons_self ..)
      · exact hf
  exact this L pk0 pk0_ok h
theorem mem_getD {L : List Pk} {k : Nat} (h : k < L.length) : L.getD k pk0 ∈ L := by
  rw [List.getD_eq_getElem?_getD, List.getElem?_eq_getElem h]
  exact List.getElem_mem h
def Held3 (w : World) (X b1 K F : Nat) (p f : Pk) : Prop := w.cell? ⟨X, 1, none⟩ = some (.map (some b1)) ∧ w.cell? ⟨K, 0, none⟩ = some (.int .u8 p.b) ∧ w.cell? ⟨K, 1, none⟩ = some (.string p.nm) ∧ w.cell? ⟨K, 2, none⟩ = some (.string p.vl) ∧ w.cell? ⟨F, 0, none⟩ = some (.int .u8 f.b) ∧ w.cell? ⟨F, 1, none⟩ = some (.string f.nm) ∧ w.cell? ⟨F, 2, none⟩ = some (.string f.vl)
theorem Held3.below {w w' : World} {X b1 K F : Nat} {p f : Pk} (h : Held3 w X b1 K F p f) (hb : Below w.heap.size w w') : Held3 w' X b1 K F p f :=
  have e : ∀ g i, g < w.heap.size → w'.cell? ⟨g, i, none⟩ = w.cell? ⟨g, i, none⟩ := fun g i hg => World.cell?_of_block (hb.block g hg)
  ⟨(e _ _ (lt_of_cell h.1)).trans h.1, (e _ _ (lt_of_cell h.2.1)).trans h.2.1, (e _ _ (lt_of_cell h.2.1)).trans h.2.2.1, (e _ _ (lt_of_cell h.2.1)).trans h.2.2.2.1, (e _ _ (lt_of_cell h.2.2.2.2.1)).trans h.2.2.2.2.1, (e _ _ (lt_of_cell h.2.2.2.2.1)).trans h.2.2.2.2.2.1, (e _ _ (lt_of_cell h.2.2.2.2.1)).trans h.2.2.2.2.2.2⟩
def wC (w : World) (a1 a2 a3 : Option Addr) (c1 c2 c3 np no nq : Nat) (vi : Bool) : World :=
  (((w.alloc (.cells #[.bool true, .slice a1 np c1, .slice a2 no c2, .bool vi, .slice a3 nq c3] 74)).alloc (.cells #[.int .u8 0, .string ⟨#[]⟩, .string ⟨#[]⟩] 65)).alloc (.cells #[.slice a1 np c1, .slice a3 nq c3] 71))
theorem own_below {w w' : World} {B n : Nat} {v : Value} {xs : List Value} (h : w.ownsRow B 65 3 v n xs) (hb : Below w.heap.size w w') : w'.ownsRow B 65 3 v n xs := by
  obtain ⟨h1, h2⟩ := h
  refine ⟨h1, ?_⟩
  rcases h2 with h2 | ⟨g, cap, cur, e, hg, hh, hr⟩
  · exact .inl h2
  · exact .inr ⟨g, cap, cur, e, hg, by rw [hb.block g (lt_of_heap hh)]; exact hh, hr⟩


theorem skipH {P : Program} {md : Region.Mode} {ops : Array Oper} {Q : Exit → Act → World → Prop} {S : World → Prop} {i d : Nat} {oi : Oper} {fuel : Nat} {listed : Array Bool} {a : Act} {w : World} (hi : ops[i]? = some oi) (hd : oi.dst = some d)
    (hs : Region.noSelect ops = true) (hf : Region.free md ops listed i = true) (hr : (Region.ready md ops listed).contains i = true)
    (hQ : ∀ c a w, Q (.panic c) (a.put oi.dst undef) w → Q (.panic c) a w) (hw : Region.wanted oi (yielded ops a.tmps) = false) (hS : S w)
    (h : wpAnyH P md ops Q S fuel (listed.setIfInBounds i true) (a.put (some d) undef) w) : wpAnyH P md ops Q S (fuel + 1) listed a w :=
  wpAnyH_take hi hs hf hr hQ (Or.inr ⟨hw, rfl⟩) hS (by rw [hd]; exact h)
theorem takeH {P : Program} {md : Region.Mode} {ops : Array Oper} {Q : Exit → Act → World → Prop} {S : World → Prop} {i d : Nat} {oi : Oper} {v : Value} {fuel : Nat} {listed : Array Bool} {a : Act} {w : World} (hi : ops[i]? = some oi) (hd : oi.dst = some d)
    (hs : Region.noSelect ops = true) (hf : Region.free md ops listed i = true) (hr : (Region.ready md ops listed).contains i = true)
    (hQ : ∀ c a w, Q (.panic c) (a.put oi.dst v) w → Q (.panic c) a w) (hw : Region.wanted oi (yielded ops a.tmps) = true) (hy : ∀ w, S w → (execOp a.eval oi).run P w = .ok (.value v) w) (hS : S w)
    (h : wpAnyH P md ops Q S fuel (listed.setIfInBounds i true) (a.put (some d) v) w) : wpAnyH P md ops Q S (fuel + 1) listed a w :=
  wpAnyH_take hi hs hf hr hQ (Or.inl ⟨hw, hy⟩) hS (by rw [hd]; exact h)
set_option maxRecDepth 100000 in
set_option maxHeartbeats 3200000 in
theorem narrowest (X b1 b2 n1 n2 : Nat) (ls : List Ls) (ks : List Pk) (m : ByteArray) (sl vi : Bool) (a1 a2 a3 : Option Addr) (c1 c2 c3 : Nat) (ps os qs : List Pk) (w : World) (hI : Idx w X b1 b2 n1 n2 ls ks) (hm : m.size ≤ maxLen)
    (hp : Picks w a1 ps) (ho : Picks w a2 os) (hq : Picks w a3 qs) (hlp : ps.length ≤ 5000) (hlo : os.length ≤ 5000) (hlq : qs.length ≤ 5000) (hn1 : a1 = none → c1 = 0) (hn3 : a3 = none → c3 = 0)
    (s1 : ∀ a, a1 = some a → a = ⟨a.block, a.off, none⟩) (s3 : ∀ a, a3 = some a → a = ⟨a.block, a.off, none⟩)
    (okp : ∀ p ∈ ps, p.ok) (oko : ∀ p ∈ os, p.ok) (okq : ∀ p ∈ qs, p.ok) :
    Calls Try.prog 27 #[.pointer (some ⟨X, 0, none⟩), .string m, .agg #[.bool sl, .slice a1 ps.length c1, .slice a2 os.length c2, .bool vi, .slice a3 qs.length c3]] w fun e w' =>
      ∃ r : Pk, e = .returned (.tuple #[.agg #[.int .u8 r.b, .string r.nm, .string r.vl], .bool sl]) ∧ r = (if sl then narrow ls ks m (ps ++ qs ++ oneOfs os) else pk0) ∧ Below w.heap.size w w' := by
  have HN1 : Hid (a1 = none → c1 = 0) := hn1
  have HN3 : Hid (a3 = none → c3 = 0) := hn3
  have S1 : Hid (∀ a, a1 = some a → a = ⟨a.block, a.off, none⟩) := s1
  have S3 : Hid (∀ a, a3 = some a → a = ⟨a.block, a.off, none⟩) := s3
  have OKP : Hid (∀ p ∈ ps, p.ok) := okp
  have OKO : Hid (∀ p ∈ os, p.ok) := oko
  have OKQ : Hid (∀ p ∈ qs, p.ok) := okq
  clear hn1 hn3 s1 s3 okp oko okq
  cases sl with
  | false =>
    go_enter Try.func27, Try.ntmps27
    go_wp2
    refine bodyPost_ret (v := .tuple #[.agg #[.int .u8 pk0.b, .string pk0.nm, .string pk0.vl], .bool false]) (by simp [results, Try.results27, go_sem, pk0]) rfl ⟨pk0, rfl, by simp, ?_⟩
    exact ((Below.refl _ _).alloc (Nat.le_refl _) _).alloc (by simp) _
  | true =>
    have hbC : Below w.heap.size w (wC w a1 a2 a3 c1 c2 c3 ps.length os.length qs.length vi) := (((Below.refl _ _).alloc (Nat.le_refl _) _).alloc (by simp) _).alloc (by simp; omega) _
    have hzC : (wC w a1 a2 a3 c1 c2 c3 ps.length os.length qs.length vi).heap.size = w.heap.size + 3 := by simp [wC]
    have hS : (wC w a1 a2 a3 c1 c2 c3 ps.length os.length qs.length vi).heap[w.heap.size]? = some (.cells #[.bool true, .slice a1 ps.length c1, .slice a2 os.length c2, .bool vi, .slice a3 qs.length c3] 74 (0, 0)) := by
      unfold wC
      rw [heap_alloc_old _ _ (by simp; omega), heap_alloc_old _ _ (by simp), heap_alloc_new]
    have hR : (wC w a1 a2 a3 c1 c2 c3 ps.length os.length qs.length vi).heap[w.heap.size + 1]? = some (.cells #[.int .u8 0, .string ⟨#[]⟩, .string ⟨#[]⟩] 65 (0, 0)) := by
      unfold wC
      rw [heap_alloc_old _ _ (by simp)]
      exact heap_alloc2_new w _ _
    have hT : (wC w a1 a2 a3 c1 c2 c3 ps.length os.length qs.length vi).heap[w.heap.size + 1 + 1]? = some (.cells #[.slice a1 ps.length c1, .slice a3 qs.length c3] 71 (0, 0)) := by
      have h := heap_alloc_new ((w.alloc (.cells #[.bool true, .slice a1 ps.length c1, .slice a2 os.length c2, .bool vi, .slice a3 qs.length c3] 74)).alloc (.cells #[.int .u8 0, .string ⟨#[]⟩, .string ⟨#[]⟩] 65)) (.cells #[.slice a1 ps.length c1, .slice a3 qs.length c3] 71)
      have e : ((w.alloc (.cells #[.bool true, .slice a1 ps.length c1, .slice a2 os.length c2, .bool vi, .slice a3 qs.length c3] 74)).alloc (.cells #[.int .u8 0, .string ⟨#[]⟩, .string ⟨#[]⟩] 65)).heap.size = w.heap.size + 1 + 1 := by simp
      rw [e] at h
      exact h
    have hcat := concat2 a1 a3 c1 c3 ps qs (w.heap.size + 1 + 1) (wC w a1 a2 a3 c1 c2 c3 ps.length os.length qs.length vi) (by rw [cell_of_row _ _ 0 _ 71 _ hT]; rfl) (by rw [cell_of_row _ _ 1 _ 71 _ hT]; rfl) (hp.below hbC) (hq.below hbC) HN1.out HN3.out S1.out S3.out hlp hlq
    go_enter Try.func27, Try.ntmps27
    go_wp2_with fail
    refine hcat.mono ?_
    rintro e w1 ⟨v, rfl, hown, hbc⟩
    clear hcat
    have hb1 : Below w.heap.size w w1 := below_step hbC hbc (by omega)
    have hR1 : w1.heap[w.heap.size + 1]? = some (.cells #[.int .u8 0, .string ⟨#[]⟩, .string ⟨#[]⟩] 65 (0, 0)) := by rw [hbc.block _ (by omega)]; exact hR
    have hS1 : w1.cell? ⟨w.heap.size, 2, none⟩ = some (.slice a2 os.length c2) := by rw [cell_of_row w1 _ 2 _ 74 (0, 0) (by rw [hbc.block _ (by omega)]; exact hS)]; rfl
    have hz1 : w.heap.size + 3 ≤ w1.heap.size := by rw [← hzC]; exact hbc.size
    have hLn : ps.length + qs.length = (ps ++ qs).length := by simp
    have hLl : (ps ++ qs).length ≤ 10000 := by simp; omega
    have OKL : Hid (∀ p ∈ ps ++ qs, p.ok) := fun p hp => by
      rcases List.mem_append.1 hp with h | h
      · exact OKP.out p h
      · exact OKQ.out p h
    rw [hzC, hLn] at hown
    clear hbc hT hS hR hzC hbC hLn
    generalize hLg : ps ++ qs = L at hown OKL hLl
    have HL : Hid (ps ++ qs = L) := hLg
    clear hLg
    obtain ⟨aoL, capL, rfl, hPL, hnL⟩ := own_picks hown
    have HOW : Hid (w1.ownsRow (w.heap.size + 3) 65 3 (.slice aoL L.length capL) L.length (flatP L)) := hown
    have HO : Hid (Picks w a2 os) := ho
    have HPL : Hid (Picks w1 aoL L) := hPL
    clear hown hPL hnL ho
    go_upto_region 4 with fail
    go_cut [32] from 12 (fun v wc => v = .bool (decide (oneOfs os ≠ [])) ∧ Hid (Below w1.heap.size w1 wc))
    case first =>
      by_cases ho0 : os.length = 0
      · have hd : decide (oneOfs os ≠ []) = false := by simp [oneOfs, ho0]
        have HD : Hid (decide (oneOfs os ≠ []) = false) := hd
        clear hd
        go_wp2
        go_meet
        case rel => exact ⟨by rw [HD.out], Below.refl _ _⟩
      · obtain ⟨g, off, e, hpo⟩ := HO.out 0 (by omega)
        subst e
        have hcon := contains_ne os (os.getD 0 pk0) (some ⟨g, off, none⟩) c2 w.heap.size g off os.length c2 w1 hS1 (by omega) (by simpa using hpo.below hb1 (lt_of_cell hpo.1)) (HO.out.below hb1) hlo
        have hd : oneOfs os ≠ [] ↔ ¬ (∃ p ∈ os, p ≠ os.getD 0 pk0) := by
          unfold oneOfs
          split
          · rename_i h
            rcases h with h | h
            · exact absurd h ho0
            · exact ⟨fun h' => absurd rfl h', fun h' => absurd h h'⟩
          · rename_i h
            exact ⟨fun _ h' => h (.inr h'), fun _ => by simp⟩
        have hd' : decide (oneOfs os ≠ []) = !decide (∃ p ∈ os, p ≠ os.getD 0 pk0) := by rw [decide_eq_decide.2 hd, decide_not]
        have HD : Hid (decide (oneOfs os ≠ []) = !decide (∃ p ∈ os, p ≠ os.getD 0 pk0)) := hd'
        generalize decide (∃ p ∈ os, p ≠ os.getD 0 pk0) = bb at hcon HD
        clear hd hd' hpo
        go_wp2_with fail
        refine hcon.mono ?_
        rintro e w2 ⟨rfl, hb2⟩
        clear hcon
        go_wp2
        go_meet
        case rel => exact ⟨by rw [HD.out], hb2⟩
    case rest =>
      obtain ⟨rfl, hb2⟩ := hcut
      have hb2' : Below w.heap.size w wc := below_step hb1 hb2.out (by omega)
      have hR2 : wc.heap[w.heap.size + 1]? = some (.cells #[.int .u8 0, .string ⟨#[]⟩, .string ⟨#[]⟩] 65 (0, 0)) := by rw [hb2.out.block _ (by omega)]; exact hR1
      have hz2 : w.heap.size + 3 ≤ wc.heap.size := Nat.le_trans hz1 hb2.out.size
      have HPL2 : Hid (Picks wc aoL L) := HPL.out.below hb2.out
      have HOW2 : Hid (wc.ownsRow (w.heap.size + 3) 65 3 (.slice aoL L.length capL) L.length (flatP L)) := own_below HOW.out hb2.out
      have hS2 : wc.cell? ⟨w.heap.size, 2, none⟩ = some (.slice a2 os.length c2) := (hb2.out.cell (p := ⟨w.heap.size, 2, none⟩) (lt_of_cell hS1)).trans hS1
      have HR2 : Hid (wc.heap[w.heap.size + 1]? = some (.cells #[.int .u8 0, .string ⟨#[]⟩, .string ⟨#[]⟩] 65 (0, 0))) := hR2
      have HB2 : Hid (Below w.heap.size w wc) := hb2'
      have HO2 : Hid (Picks wc a2 os) := HO.out.below hb2'
      generalize hLg : ps ++ qs ++ oneOfs os = LL
      have HLL : Hid (L ++ oneOfs os = LL) := by show _ = _; rw [← HL.out]; exact hLg
      have HG : Hid (ps ++ (qs ++ oneOfs os) = LL) := by show _ = _; rw [← hLg, List.append_assoc]
      clear hLg hb2 hb2' hR2 HPL HOW hS1 hb1 hR1 hz1 HO HL
      go_upto_if 32 with fail
      go_cut [8] from 12 (fun v wd => ∃ ao cap, v = .slice ao LL.length cap ∧ Hid (Picks wd ao LL) ∧ Hid (wd.heap[w.heap.size + 1]? = some (.cells #[.int .u8 0, .string ⟨#[]⟩, .string ⟨#[]⟩] 65 (0, 0))) ∧ Hid (Below w.heap.size w wd) ∧ w.heap.size + 3 ≤ wd.heap.size ∧ LL.length ≤ 15000 ∧ Hid (∀ p ∈ LL, p.ok))
      case first =>
        by_cases hbb : oneOfs os = []
        · have hd : decide (oneOfs os ≠ []) = false := by simp [hbb]
          have HE : Hid (L = LL) := by show _ = _; rw [← HLL.out, hbb, List.append_nil]
          rw [hd]
          clear hd hbb HLL
          go_wp2
          go_meet
          case rel => exact ⟨aoL, capL, by rw [HE.out], by rw [← HE.out]; exact HPL2, HR2, HB2, hz2, by rw [← HE.out]; omega, by rw [← HE.out]; exact OKL⟩
        · have hd : decide (oneOfs os ≠ []) = true := by simp [hbb]
          have hos : oneOfs os = [os.getD 0 pk0] ∧ os.length ≠ 0 := by
            unfold oneOfs at hbb ⊢
            split at hbb
            · exact absurd rfl hbb
            · rename_i h
              rw [if_neg h]
              exact ⟨rfl, fun h' => h (.inl h')⟩
          have HE : Hid (L ++ [os.getD 0 pk0] = LL) := by show _ = _; rw [← HLL.out, hos.1]
          obtain ⟨g, off, e, hpo⟩ := HO2.out 0 (by omega)
          subst e
          obtain ⟨o0, o1, o2⟩ := hpo
          simp only [Nat.zero_mul, Nat.add_zero] at o0 o1 o2
          have hoo := OKO.out (os.getD 0 pk0) (mem_getD (by omega))
          have ho1 : 0 < os.length := by omega
          generalize os.getD 0 pk0 = o at o0 o1 o2 hoo HE
          rw [hd]
          clear hd hbb HLL hos
          have hbN : Below wc.heap.size wc (wc.alloc (.cells #[.int .u8 o.b, .string o.nm, .string o.vl] 65)) := (Below.refl _ _).alloc (Nat.le_refl _) _
          have hnew := heap_alloc_new wc (.cells #[.int .u8 o.b, .string o.nm, .string o.vl] 65)
          have hown2 := own_below HOW2.out hbN
          obtain ⟨v', w3, hr, hown3, hg3⟩ := run_cat hown2 (Nat.le_trans hz2 hbN.size) (some ⟨wc.heap.size, 0, none⟩) 1 [o] (fun e => by cases e) (fun i hi => ⟨wc.heap.size, 0, rfl, by
            obtain rfl : i = 0 := by simpa using hi
            exact ⟨by rw [cell_of_row _ _ _ _ 65 _ hnew]; rfl, by rw [cell_of_row _ _ _ _ 65 _ hnew]; rfl, by rw [cell_of_row _ _ _ _ 65 _ hnew]; rfl⟩⟩) (by simp; omega) (fun a e => by cases e; rfl) 71
          have hb3 : Below (w.heap.size + 3) (wc.alloc (.cells #[.int .u8 o.b, .string o.nm, .string o.vl] 65)) w3 := below_own (Below.refl _ _) hown2 hg3 (Nat.le_trans hz2 hbN.size)
          rw [← flatP_append, HE.out] at hown3
          obtain ⟨ao, cap, rfl, hPl, _⟩ := own_picks hown3
          have HPl : Hid (Picks w3 ao LL) := hPl
          have HB3 : Hid (Below w.heap.size w w3) := (below_step HB2.out hbN (by omega)).trans ⟨hb3.os, hb3.tape, hb3.output, hb3.size, fun b hb => hb3.block b (by omega)⟩
          have HR3 : Hid (w3.heap[w.heap.size + 1]? = some (.cells #[.int .u8 0, .string ⟨#[]⟩, .string ⟨#[]⟩] 65 (0, 0))) := by show _ = _; rw [hb3.block _ (by omega), hbN.block _ (by omega)]; exact HR2.out
          have hz3 : w.heap.size + 3 ≤ w3.heap.size := Nat.le_trans (Nat.le_trans hz2 hbN.size) hb3.size
          have hLLl : LL.length ≤ 15000 := by rw [← HE.out]; simp; omega
          have HOK : Hid (∀ p ∈ LL, p.ok) := by
            intro p hp
            rw [← HE.out] at hp
            rcases List.mem_append.1 hp with h | h
            · exact OKL.out p h
            · rw [List.mem_singleton.1 h]; exact hoo
          rw [List.length_singleton] at hr
          clear hown3 hg3 hown2 hnew hbN hb3 hPl
          go_wp2_with (at_builtin; refine Lib.wpList_append_run _ rfl _ _ _ _ rfl _ _ rfl rfl _ _ hr ?_)
          go_meet
          case rel => exact ⟨ao, cap, rfl, HPl, HR3, HB3, hz3, hLLl, HOK⟩
      case rest =>
        obtain ⟨ao, cap, rfl, HPl, HR3, HB3, hz3, hLLl, HOK⟩ := hcut
        clear HPL2 HOW2 hS2 HR2 HB2 HO2 hz2 HLL OKP OKO OKQ OKL S1 S3 HN1 HN3 hp hq
        obtain ⟨wd, hwd⟩ : ∃ x, x = wc := ⟨wc, rfl⟩
        subst hwd
        go_wp2
        have hFnew := heap_alloc_new wd (.cells #[.int .u8 0, .string ⟨#[]⟩, .string ⟨#[]⟩] 65)
        have hFb : Below wd.heap.size wd (wd.alloc (.cells #[.int .u8 0, .string ⟨#[]⟩, .string ⟨#[]⟩] 65)) := (Below.refl _ _).alloc (Nat.le_refl _) _
        go_loopw [43] (fun i wr => ∃ k : Nat, k ≤ LL.length ∧ i = .int .i64 k ∧ Hid (wr.heap[wd.heap.size]? = some (.cells #[.int .u8 (narrow ls ks m (LL.take k)).b, .string (narrow ls ks m (LL.take k)).nm, .string (narrow ls ks m (LL.take k)).vl] 65 (0, 0))) ∧ Hid (Below wd.heap.size wd wr)) (fun i _ => LL.length - (intOf i).toNat)
        case atStart => exact ⟨0, by omega, rfl, hFnew, hFb⟩
        case round =>
          clear hFnew hFb
          obtain ⟨k, hk, rfl, hF, hbw⟩ := hrel
          by_cases hlt : k < LL.length
          · obtain ⟨g1, off1, e, hp1⟩ := HPl.out k hlt
            cases e
            obtain ⟨q0, q1, q2⟩ := hp1.below hbw.out (lt_of_cell hp1.1)
            have hok := HOK.out _ (mem_getD hlt)
            have hnt := narrow_take ls ks m LL k hlt
            have hfk := narrow_ok ls ks m (LL.take k) (fun p hp => HOK.out p (List.mem_of_mem_take hp))
            generalize LL.getD k pk0 = pk at q0 q1 q2 hok hnt
            generalize narrow ls ks m (LL.take k) = f at hnt hF hfk
            have HNT : Hid (narrow ls ks m (LL.take (k + 1)) = step1 ls ks m f pk) := hnt
            clear hnt hp1
            go_upto_region 10 with fail
            have hbA : Below wr.heap.size wr (wr.alloc (.cells #[.int .u8 pk.b, .string pk.nm, .string pk.vl] 65)) := (Below.refl _ _).alloc (Nat.le_refl _) _
            have hnew := heap_alloc_new wr (.cells #[.int .u8 pk.b, .string pk.nm, .string pk.vl] 65)
            have hFl : wd.heap.size < wr.heap.size := lt_of_heap hF.out
            have hFA : (wr.alloc (.cells #[.int .u8 pk.b, .string pk.nm, .string pk.vl] 65)).heap[wd.heap.size]? = some (.cells #[.int .u8 f.b, .string f.nm, .string f.vl] 65 (0, 0)) := by rw [hbA.block _ hFl]; exact hF.out
            have hbX : Below wd.heap.size wd (wr.alloc (.cells #[.int .u8 pk.b, .string pk.nm, .string pk.vl] 65)) := below_step hbw.out hbA (by omega)
            have hbX' : Below w.heap.size w (wr.alloc (.cells #[.int .u8 pk.b, .string pk.nm, .string pk.vl] 65)) := below_step HB3.out hbX (by omega)
            have hIA := hI.below hbX'
            generalize wr.alloc (.cells #[.int .u8 pk.b, .string pk.nm, .string pk.vl] 65) = wA at hnew hFA hbX hbX' hIA ⊢
            generalize wr.heap.size = K at hnew hFl ⊢
            clear hbA hbw hF q0 q1 q2
            go_cut [43, 70] from 43 to 72 (fun i v we => i = .int .i64 k ∧ v = .bool (decide (lists ks pk = true ∧ cnt ls m pk < cnt ls m f)) ∧ Hid (we.heap[wd.heap.size]? = some (.cells #[.int .u8 f.b, .string f.nm, .string f.vl] 65 (0, 0))) ∧ Hid (we.heap[K]? = some (.cells #[.int .u8 pk.b, .string pk.nm, .string pk.vl] 65 (0, 0))) ∧ Hid (Below wd.heap.size wd we))
            case first =>
              have F0 : Hid (Held3 wA.drew X b1 K wd.heap.size pk f) := ⟨hIA.c1, by rw [cell_of_row wA.drew K 0 _ 65 _ hnew]; rfl, by rw [cell_of_row wA.drew K 1 _ 65 _ hnew]; rfl, by rw [cell_of_row wA.drew K 2 _ 65 _ hnew]; rfl, by rw [cell_of_row wA.drew wd.heap.size 0 _ 65 _ hFA]; rfl, by rw [cell_of_row wA.drew wd.heap.size 1 _ 65 _ hFA]; rfl, by rw [cell_of_row wA.drew wd.heap.size 2 _ 65 _ hFA]; rfl⟩
              have FIN : Hid (∀ w2, Below wA.drew.heap.size wA.drew w2 → ∃ A C A' C', (Instr.lookup 55 (.map (some b1)) (.agg #[.string m, .int .u8 pk.b, .string pk.nm, .string pk.vl]) false).run Try.prog w2 = .ok (.slice A (cnt ls m pk) C) w2 ∧ (Instr.lookup 55 (.map (some b1)) (.agg #[.string m, .int .u8 f.b, .string f.nm, .string f.vl]) false).run Try.prog w2 = .ok (.slice A' (cnt ls m f) C') w2 ∧ Hid (Held3 w2 X b1 K wd.heap.size pk f) ∧ Hid (w2.heap[wd.heap.size]? = some (.cells #[.int .u8 f.b, .string f.nm, .string f.vl] 65 (0, 0))) ∧ Hid (w2.heap[K]? = some (.cells #[.int .u8 pk.b, .string pk.nm, .string pk.vl] 65 (0, 0))) ∧ Hid (Below wd.heap.size wd w2)) := fun w2 hb2 => by
                have hI2 := Idx.below (w := wA.drew) hIA hb2
                obtain ⟨A, C, r1⟩ := hI2.2.1.lookup hm hok
                obtain ⟨A', C', r2⟩ := hI2.2.1.lookup hm hfk
                have hFA' := lt_of_heap hFA
                have hK' := lt_of_heap hnew
                exact ⟨A, C, A', C', r1, r2, Held3.below F0 hb2, by show _ = _; rw [hb2.block _ hFA']; exact hFA, by show _ = _; rw [hb2.block _ hK']; exact hnew, below_step (w1 := wA.drew) hbX.drew hb2 (Nat.le_of_lt hFA')⟩
              have hcall := lists_walk pk X b1 b2 n1 n2 ls ks wA.drew hIA hok
              unfold Held3 at F0 FIN
              clear hnew hFA hbX hbX' hIA
              by_cases hL : lists ks pk = true
              · rw [hL] at hcall
                by_cases hc : cnt ls m pk < cnt ls m f
                · have HD : Hid (decide (lists ks pk = true ∧ cnt ls m pk < cnt ls m f) = true) := decide_eq_true ⟨hL, hc⟩
                  clear hL
                  generalize cnt ls m pk = cp at FIN hc
                  generalize cnt ls m f = cf at FIN hc
                  go_region_held3 (fun w' => w'.cell? ⟨X, 1, none⟩ = some (.map (some b1)) ∧ w'.cell? ⟨K, 0, none⟩ = some (.int .u8 pk.b) ∧ w'.cell? ⟨K, 1, none⟩ = some (.string pk.nm) ∧ w'.cell? ⟨K, 2, none⟩ = some (.string pk.vl) ∧ w'.cell? ⟨wd.heap.size, 0, none⟩ = some (.int .u8 f.b) ∧ w'.cell? ⟨wd.heap.size, 1, none⟩ = some (.string f.nm) ∧ w'.cell? ⟨wd.heap.size, 2, none⟩ = some (.string f.vl))
                  (first
                    | (with_reducible exact F0.out)
                    | (with_reducible exact HS2.out))
                  ((go_at_call 33; refine hcall.mono ?_; rintro e w2 ⟨rfl, hb2⟩; obtain ⟨A, C, A', C', r1, r2, HS2, HF2, HK2, HB2⟩ := FIN.out w2 hb2))
                  all_goals
                    clear hcall
                    go_wp2_with fail
                    go_meet
                    case rel => exact ⟨rfl, by rw [HD.out], HF2, HK2, HB2⟩
                · have HD : Hid (decide (lists ks pk = true ∧ cnt ls m pk < cnt ls m f) = false) := decide_eq_false (fun h => hc h.2)
                  clear hL
                  generalize cnt ls m pk = cp at FIN hc
                  generalize cnt ls m f = cf at FIN hc
                  go_region_held3 (fun w' => w'.cell? ⟨X, 1, none⟩ = some (.map (some b1)) ∧ w'.cell? ⟨K, 0, none⟩ = some (.int .u8 pk.b) ∧ w'.cell? ⟨K, 1, none⟩ = some (.string pk.nm) ∧ w'.cell? ⟨K, 2, none⟩ = some (.string pk.vl) ∧ w'.cell? ⟨wd.heap.size, 0, none⟩ = some (.int .u8 f.b) ∧ w'.cell? ⟨wd.heap.size, 1, none⟩ = some (.string f.nm) ∧ w'.cell? ⟨wd.heap.size, 2, none⟩ = some (.string f.vl))
                  (first
                    | (with_reducible exact F0.out)
                    | (with_reducible exact HS2.out))
                  ((go_at_call 33; refine hcall.mono ?_; rintro e w2 ⟨rfl, hb2⟩; obtain ⟨A, C, A', C', r1, r2, HS2, HF2, HK2, HB2⟩ := FIN.out w2 hb2))
                  all_goals
                    clear hcall
                    go_wp2_with fail
                    go_meet
                    case rel => exact ⟨rfl, by rw [HD.out], HF2, HK2, HB2⟩
              · have HD : Hid (decide (lists ks pk = true ∧ cnt ls m pk < cnt ls m f) = false) := decide_eq_false (fun h => hL h.1)
                have hL' : lists ks pk = false := by simpa using hL
                rw [hL'] at hcall
                clear hL hL'
                generalize cnt ls m pk = cp at FIN
                generalize cnt ls m f = cf at FIN
                obtain ⟨_, k0, k1, k2, _⟩ := F0.out
                refine wp_region_held_drew (S := fun w' => w'.cell? ⟨K, 0, none⟩ = some (.int .u8 pk.b) ∧ w'.cell? ⟨K, 1, none⟩ = some (.string pk.nm) ∧ w'.cell? ⟨K, 2, none⟩ = some (.string pk.vl)) (by kernel_rfl) ⟨k0, k1, k2⟩ (fun hHeld => ?_)
                refine takeH (i := 0) (d := 47) (v := ?_) rfl rfl (by kernel_rfl) (by kernel_rfl) (by kernel_rfl) (fun _ _ _ h => h) (by rfl) ?_ (by assumption) ?_
                rotate_left
                · intro w' hSw
                  go_simp
                  rfl
                simp only [Act.put, List.setIfInBounds_toArray, List.set_cons_zero, List.set_cons_succ]
                refine takeH (i := 1) (d := 48) (v := ?_) rfl rfl (by kernel_rfl) (by kernel_rfl) (by kernel_rfl) (fun _ _ _ h => h) (by rfl) ?_ (by assumption) ?_
                rotate_left
                · intro w' hSw
                  go_simp
                  rfl
                simp only [Act.put, List.setIfInBounds_toArray, List.set_cons_zero, List.set_cons_succ]
                refine wpAnyH_ready (rs := [2]) (by kernel_rfl) (by simp) ?_
                refine AllReadyH.cons rfl (fun K' hK => ?_) AllReadyH.nil
                go_simp
                go_at_call 33
                refine hcall.mono ?_
                rintro e w2 ⟨rfl, hb2⟩
                obtain ⟨A, C, A', C', r1, r2, HS2, HF2, HK2, HB2⟩ := FIN.out w2 hb2
                show K' _ _
                refine hK.out _ _ ⟨HS2.out.2.1, HS2.out.2.2.1, HS2.out.2.2.2.1⟩ (fun hHeld => ?_)
                clear hK K'
                refine takeH (i := 3) (d := 50) (v := ?_) rfl rfl (by kernel_rfl) (by kernel_rfl) (by kernel_rfl) (fun _ _ _ h => h) (by rfl) ?_ (by assumption) ?_
                rotate_left
                · intro w' hSw
                  go_simp
                  rfl
                simp only [Act.put, List.setIfInBounds_toArray, List.set_cons_zero, List.set_cons_succ]
                refine skipH (i := 4) (d := 51) rfl rfl (by kernel_rfl) (by kernel_rfl) (by kernel_rfl) (fun _ _ _ h => h) (by rfl) (by assumption) ?_
                simp only [Act.put, List.setIfInBounds_toArray, List.set_cons_zero, List.set_cons_succ]
                refine skipH (i := 5) (d := 52) rfl rfl (by kernel_rfl) (by kernel_rfl) (by kernel_rfl) (fun _ _ _ h => h) (by rfl) (by assumption) ?_
                simp only [Act.put, List.setIfInBounds_toArray, List.set_cons_zero, List.set_cons_succ]
                refine skipH (i := 6) (d := 53) rfl rfl (by kernel_rfl) (by kernel_rfl) (by kernel_rfl) (fun _ _ _ h => h) (by rfl) (by assumption) ?_
                simp only [Act.put, List.setIfInBounds_toArray, List.set_cons_zero, List.set_cons_succ]
                refine skipH (i := 7) (d := 54) rfl rfl (by kernel_rfl) (by kernel_rfl) (by kernel_rfl) (fun _ _ _ h => h) (by rfl) (by assumption) ?_
                simp only [Act.put, List.setIfInBounds_toArray, List.set_cons_zero, List.set_cons_succ]
                refine skipH (i := 8) (d := 55) rfl rfl (by kernel_rfl) (by kernel_rfl) (by kernel_rfl) (fun _ _ _ h => h) (by rfl) (by assumption) ?_
                simp only [Act.put, List.setIfInBounds_toArray, List.set_cons_zero, List.set_cons_succ]
                refine skipH (i := 9) (d := 56) rfl rfl (by kernel_rfl) (by kernel_rfl) (by kernel_rfl) (fun _ _ _ h => h) (by rfl) (by assumption) ?_
                simp only [Act.put, List.setIfInBounds_toArray, List.set_cons_zero, List.set_cons_succ]
                refine skipH (i := 10) (d := 57) rfl rfl (by kernel_rfl) (by kernel_rfl) (by kernel_rfl) (fun _ _ _ h => h) (by rfl) (by assumption) ?_
                simp only [Act.put, List.setIfInBounds_toArray, List.set_cons_zero, List.set_cons_succ]
                refine skipH (i := 11) (d := 58) rfl rfl (by kernel_rfl) (by kernel_rfl) (by kernel_rfl) (fun _ _ _ h => h) (by rfl) (by assumption) ?_
                simp only [Act.put, List.setIfInBounds_toArray, List.set_cons_zero, List.set_cons_succ]
                refine skipH (i := 12) (d := 59) rfl rfl (by kernel_rfl) (by kernel_rfl) (by kernel_rfl) (fun _ _ _ h => h) (by rfl) (by assumption) ?_
                simp only [Act.put, List.setIfInBounds_toArray, List.set_cons_zero, List.set_cons_succ]
                refine skipH (i := 13) (d := 60) rfl rfl (by kernel_rfl) (by kernel_rfl) (by kernel_rfl) (fun _ _ _ h => h) (by rfl) (by assumption) ?_
                simp only [Act.put, List.setIfInBounds_toArray, List.set_cons_zero, List.set_cons_succ]
                refine skipH (i := 14) (d := 61) rfl rfl (by kernel_rfl) (by kernel_rfl) (by kernel_rfl) (fun _ _ _ h => h) (by rfl) (by assumption) ?_
                simp only [Act.put, List.setIfInBounds_toArray, List.set_cons_zero, List.set_cons_succ]
                refine skipH (i := 15) (d := 62) rfl rfl (by kernel_rfl) (by kernel_rfl) (by kernel_rfl) (fun _ _ _ h => h) (by rfl) (by assumption) ?_
                simp only [Act.put, List.setIfInBounds_toArray, List.set_cons_zero, List.set_cons_succ]
                refine skipH (i := 16) (d := 63) rfl rfl (by kernel_rfl) (by kernel_rfl) (by kernel_rfl) (fun _ _ _ h => h) (by rfl) (by assumption) ?_
                simp only [Act.put, List.setIfInBounds_toArray, List.set_cons_zero, List.set_cons_succ]
                refine skipH (i := 17) (d := 64) rfl rfl (by kernel_rfl) (by kernel_rfl) (by kernel_rfl) (fun _ _ _ h => h) (by rfl) (by assumption) ?_
                simp only [Act.put, List.setIfInBounds_toArray, List.set_cons_zero, List.set_cons_succ]
                refine skipH (i := 18) (d := 65) rfl rfl (by kernel_rfl) (by kernel_rfl) (by kernel_rfl) (fun _ _ _ h => h) (by rfl) (by assumption) ?_
                simp only [Act.put, List.setIfInBounds_toArray, List.set_cons_zero, List.set_cons_succ]
                refine skipH (i := 19) (d := 66) rfl rfl (by kernel_rfl) (by kernel_rfl) (by kernel_rfl) (fun _ _ _ h => h) (by rfl) (by assumption) ?_
                simp only [Act.put, List.setIfInBounds_toArray, List.set_cons_zero, List.set_cons_succ]
                refine skipH (i := 20) (d := 67) rfl rfl (by kernel_rfl) (by kernel_rfl) (by kernel_rfl) (fun _ _ _ h => h) (by rfl) (by assumption) ?_
                simp only [Act.put, List.setIfInBounds_toArray, List.set_cons_zero, List.set_cons_succ]
                refine skipH (i := 21) (d := 68) rfl rfl (by kernel_rfl) (by kernel_rfl) (by kernel_rfl) (fun _ _ _ h => h) (by rfl) (by assumption) ?_
                simp only [Act.put, List.setIfInBounds_toArray, List.set_cons_zero, List.set_cons_succ]
                refine skipH (i := 22) (d := 69) rfl rfl (by kernel_rfl) (by kernel_rfl) (by kernel_rfl) (fun _ _ _ h => h) (by rfl) (by assumption) ?_
                simp only [Act.put, List.setIfInBounds_toArray, List.set_cons_zero, List.set_cons_succ]
                refine takeH (i := 23) (d := 70) (v := ?_) rfl rfl (by kernel_rfl) (by kernel_rfl) (by kernel_rfl) (fun _ _ _ h => h) (by rfl) ?_ (by assumption) ?_
                rotate_left
                · intro w' hSw
                  go_simp
                  rfl
                simp only [Act.put, List.setIfInBounds_toArray, List.set_cons_zero, List.set_cons_succ]
                refine wpAnyH_done (by kernel_rfl) ?_ _
                go_wp2_with fail
                go_meet
                case rel => exact ⟨rfl, by rw [HD.out], HF2, HK2, HB2⟩
            case rest =>
              obtain ⟨rfl, rfl, HF2, HK2, HB2⟩ := hcut
              by_cases hst : lists ks pk = true ∧ cnt ls m pk < cnt ls m f
              · have HST : Hid (step1 ls ks m f pk = pk) := if_pos hst
                rw [decide_eq_true hst]
                clear hst
                have k0 : wc.cell? ⟨K, 0, none⟩ = some (.int .u8 pk.b) := by rw [cell_of_row wc _ 0 _ 65 _ HK2.out]; rfl
                have k1 : wc.cell? ⟨K, 1, none⟩ = some (.string pk.nm) := by rw [cell_of_row wc _ 1 _ 65 _ HK2.out]; rfl
                have k2 : wc.cell? ⟨K, 2, none⟩ = some (.string pk.vl) := by rw [cell_of_row wc _ 2 _ 65 _ HK2.out]; rfl
                have f0 : wc.cell? ⟨wd.heap.size, 0, none⟩ = some (.int .u8 f.b) := by rw [cell_of_row wc _ 0 _ 65 _ HF2.out]; rfl
                have f1 : wc.cell? ⟨wd.heap.size, 1, none⟩ = some (.string f.nm) := by rw [cell_of_row wc _ 1 _ 65 _ HF2.out]; rfl
                have f2 : wc.cell? ⟨wd.heap.size, 2, none⟩ = some (.string f.vl) := by rw [cell_of_row wc _ 2 _ 65 _ HF2.out]; rfl
                have z0 : wc.frozen? ⟨wd.heap.size, 0, none⟩ = false := by simp [World.frozen?, HF2.out]
                have z1 : wc.frozen? ⟨wd.heap.size, 1, none⟩ = false := by simp [World.frozen?, HF2.out]
                have z2 : wc.frozen? ⟨wd.heap.size, 2, none⟩ = false := by simp [World.frozen?, HF2.out]
                go_wp2
                go_roundw
                case rel => exact ⟨k + 1, by omega, by go_num, by show _ = _; rw [HNT.out, HST.out]; exact heap_setCell_same _ _ _ _ _ _ (heap_setCell_same _ _ _ _ _ _ (heap_setCell_same _ _ _ _ _ _ HF2.out)), put3_below HB2.out (Nat.le_refl _) _ _ _⟩
                case measure => simp [intOf]; omega
              · have HST : Hid (step1 ls ks m f pk = f) := if_neg hst
                rw [decide_eq_false hst]
                clear hst
                go_wp2
                go_roundw
                case rel =>
                  exact ⟨k + 1, by omega, by go_num, by show _ = _; rw [HNT.out, HST.out]; exact HF2.out, HB2⟩
                case measure => simp [intOf]; omega
          · obtain rfl : k = LL.length := by omega
            rw [List.take_length] at hF
            generalize hff : narrow ls ks m LL = f at hF ⊢
            have HFF : Hid (narrow ls ks m LL = f) := hff
            clear hff
            have hR4 : wr.heap[w.heap.size + 1]? = some (.cells #[.int .u8 0, .string ⟨#[]⟩, .string ⟨#[]⟩] 65 (0, 0)) := by rw [hbw.out.block _ (by omega)]; exact HR3.out
            have hb4 : Below w.heap.size w wr := below_step HB3.out hbw.out (by omega)
            have f0 : wr.cell? ⟨wd.heap.size, 0, none⟩ = some (.int .u8 f.b) := by rw [cell_of_row wr _ 0 _ 65 _ hF.out]; rfl
            have f1 : wr.cell? ⟨wd.heap.size, 1, none⟩ = some (.string f.nm) := by rw [cell_of_row wr _ 1 _ 65 _ hF.out]; rfl
            have f2 : wr.cell? ⟨wd.heap.size, 2, none⟩ = some (.string f.vl) := by rw [cell_of_row wr _ 2 _ 65 _ hF.out]; rfl
            have z0 : wr.frozen? ⟨w.heap.size + 1, 0, none⟩ = false := by simp [World.frozen?, hR4]
            have z1 : wr.frozen? ⟨w.heap.size + 1, 1, none⟩ = false := by simp [World.frozen?, hR4]
            have z2 : wr.frozen? ⟨w.heap.size + 1, 2, none⟩ = false := by simp [World.frozen?, hR4]
            have t0 : wr.cell? ⟨w.heap.size + 1, 0, none⟩ = some (.int .u8 0) := by rw [cell_of_row wr _ 0 _ 65 _ hR4]; rfl
            have t1 : wr.cell? ⟨w.heap.size + 1, 1, none⟩ = some (.string ⟨#[]⟩) := by rw [cell_of_row wr _ 1 _ 65 _ hR4]; rfl
            have t2 : wr.cell? ⟨w.heap.size + 1, 2, none⟩ = some (.string ⟨#[]⟩) := by rw [cell_of_row wr _ 2 _ 65 _ hR4]; rfl
            clear HPl HR3 HB3 HOK hF hbw
            go_wp2
            have hbZ := put3_below (g := w.heap.size + 1) (a := 0) (b := 1) (c := 2) hb4 (by omega) (.int .u8 f.b) (.string f.nm) (.string f.vl)
            have hZ : (((wr.setCell ⟨w.heap.size + 1, 0, none⟩ (.int .u8 f.b)).setCell ⟨w.heap.size + 1, 1, none⟩ (.string f.nm)).setCell ⟨w.heap.size + 1, 2, none⟩ (.string f.vl)).heap[w.heap.size + 1]? = some (.cells #[.int .u8 f.b, .string f.nm, .string f.vl] 65 (0, 0)) := heap_setCell_same _ _ _ _ _ _ (heap_setCell_same _ _ _ _ _ _ (heap_setCell_same _ _ _ _ _ _ hR4))
            generalize ((wr.setCell ⟨w.heap.size + 1, 0, none⟩ (.int .u8 f.b)).setCell ⟨w.heap.size + 1, 1, none⟩ (.string f.nm)).setCell ⟨w.heap.size + 1, 2, none⟩ (.string f.vl) = wZ at hZ hbZ ⊢
            have y0 : wZ.cell? ⟨w.heap.size + 1, 0, none⟩ = some (.int .u8 f.b) := by rw [cell_of_row wZ _ 0 _ 65 _ hZ]; rfl
            have y1 : wZ.cell? ⟨w.heap.size + 1, 1, none⟩ = some (.string f.nm) := by rw [cell_of_row wZ _ 1 _ 65 _ hZ]; rfl
            have y2 : wZ.cell? ⟨w.heap.size + 1, 2, none⟩ = some (.string f.vl) := by rw [cell_of_row wZ _ 2 _ 65 _ hZ]; rfl
            refine bodyPost_ret (v := .tuple #[.agg #[.int .u8 f.b, .string f.nm, .string f.vl], .bool true]) (by simp [results, Try.results27, go_sem, y0, y1, y2]) rfl ⟨f, rfl, by rw [HG.out]; exact HFF.out.symm, hbZ⟩
end Go.Proofs.Qxb6604404a
