import Derived.Test.Qxb6604404aLists
import Derived.Deep.CutRange
namespace Go.Proofs.Qxb6604404a
open Go.RowKit
set_option linter.unusedVariables false
set_option linter.unusedSectionVars false
variable [DecidableEq Pk]

theorem cnt_take (ls : List Ls) (m : ByteArray) (p : Pk) (k : Nat) (h : k < ls.length) : cnt (ls.take (k + 1)) m p = if (ls.getD k ls0).mesh = m ∧ (ls.getD k ls0).pk = p then (ls.getD k ls0).n else cnt (ls.take k) m p := by
  rw [List.take_add_one, List.getElem?_eq_getElem h, List.getD_eq_getElem?_getD, List.getElem?_eq_getElem h]
  exact cnt_snoc _ _ _ _
theorem cnt_le (ls : List Ls) (m : ByteArray) (p : Pk) (B : Nat) (h : ∀ i, i < ls.length → (ls.getD i ls0).n ≤ B) : ∀ k, k ≤ ls.length → cnt (ls.take k) m p ≤ B := by
  intro k
  induction k with
  | zero => intro _; exact Nat.zero_le _
  | succ k ih =>
    intro hk
    rw [cnt_take ls m p k hk]
    split
    · exact h k hk
    · exact ih (by omega)

set_option maxRecDepth 100000 in
set_option maxHeartbeats 1600000 in
/-- 'zzCount'. -/
theorem zz_count (aL : Option Addr) (cL : Nat) (ls : List Ls) (m : ByteArray) (p : Pk) (w : World) (hl : Lists w aL ls) (hn : ls.length ≤ 4096) :
    Calls Try.prog 16 #[.slice aL ls.length cL, .string m, .agg #[.int .u8 p.b, .string p.nm, .string p.vl]] w fun e w' => e = .returned (.int .i64 (cnt ls m p)) ∧ Below w.heap.size w w' := by
  have hbA : Below w.heap.size w (w.alloc (.cells #[.int .u8 p.b, .string p.nm, .string p.vl] 38)) := (Below.refl _ _).alloc (Nat.le_refl _) _
  have hnew := heap_alloc_new w (.cells #[.int .u8 p.b, .string p.nm, .string p.vl] 38)
  have heg := Try.eg38
  go_enter Try.func16, Try.ntmps16
  go_wp2
  generalize w.alloc (.cells #[.int .u8 p.b, .string p.nm, .string p.vl] 38) = wA at hbA hnew ⊢
  have p0 : wA.cell? ⟨w.heap.size, 0, none⟩ = some (.int .u8 p.b) := by rw [cell_of_row wA _ 0 _ 38 _ hnew]; rfl
  have p1 : wA.cell? ⟨w.heap.size, 1, none⟩ = some (.string p.nm) := by rw [cell_of_row wA _ 1 _ 38 _ hnew]; rfl
  have p2 : wA.cell? ⟨w.heap.size, 2, none⟩ = some (.string p.vl) := by rw [cell_of_row wA _ 2 _ 38 _ hnew]; rfl
  have hz : w.heap.size < wA.heap.size := lt_of_heap hnew
  have HL : Hid (Lists wA aL ls) := hl.below hbA
  have HB : Hid (Below w.heap.size w wA) := hbA
  clear hl hbA hnew
  go_loopw [8, 7] (fun i c wr => ∃ k : Nat, k ≤ ls.length ∧ i = .int .i64 k ∧ c = .int .i64 (cnt (ls.take k) m p) ∧ Hid (Below wA.heap.size wA wr)) (fun i _ _ => ls.length - (intOf i).toNat)
  case atStart => exact ⟨0, by omega, rfl, rfl, Below.refl _ _⟩
  case round =>
    obtain ⟨k, hk, rfl, rfl, hbw⟩ := hrel
    have p0' := (hbw.out.cell (p := ⟨w.heap.size, 0, none⟩) hz).trans p0
    have p1' := (hbw.out.cell (p := ⟨w.heap.size, 1, none⟩) hz).trans p1
    have p2' := (hbw.out.cell (p := ⟨w.heap.size, 2, none⟩) hz).trans p2
    clear p0 p1 p2
    by_cases hlt : k < ls.length
    · obtain ⟨g, off, e, hp⟩ := HL.out k hlt
      cases e
      have HG := lt_of_cell hp.1
      obtain ⟨q0, ⟨q1, q2, q3⟩, a, c, q4⟩ := hp.below hbw.out (lt_of_cell hp.1)
      obtain ⟨_, _, a', c', q4'⟩ := hp
      obtain ⟨rfl, rfl⟩ : a' = a ∧ c' = c := by
        have := (hbw.out.cell (p := ⟨g, off + k * 5 + 4, none⟩) HG).trans q4'
        rw [q4] at this
        simp at this
        exact ⟨this.1.symm, this.2.symm⟩
      have HC : Hid (cnt (ls.take (k + 1)) m p = if (ls.getD k ls0).mesh = m ∧ (ls.getD k ls0).pk = p then (ls.getD k ls0).n else cnt (ls.take k) m p) := cnt_take ls m p k hlt
      generalize ls.getD k ls0 = l at q0 q1 q2 q3 q4 q4' HC
      have heq := fun wx => eql38 wx l.pk p
      go_upto_region 5 with fail
      go_cut [30] from 9 to 36 (fun v wc => v = .bool (decide (l.mesh = m ∧ l.pk = p)) ∧ Hid (Below wA.heap.size wA wc))
      case first =>
        by_cases hm : l.mesh = m
        · have HD : Hid (decide (l.mesh = m ∧ l.pk = p) = decide (l.pk = p)) := by show _ = _; rw [decide_eq_decide]; exact ⟨fun h => h.2, fun h => ⟨hm, h⟩⟩
          go_quiet (fail)
          go_wp2_with fail
          go_meet
          case rel => exact ⟨by rw [HD.out], below_drewN hbw.out _⟩
        · have HD : Hid (decide (l.mesh = m ∧ l.pk = p) = false) := decide_eq_false (fun h => hm h.1)
          have hmt : (l.mesh.toList == m.toList) = false := by rw [beq_list_bytes]; exact decide_eq_false hm
          clear hm
          go_quiet (fail)
          go_wp2_with fail
          go_meet
          case rel => exact ⟨by rw [HD.out], below_drewN hbw.out _⟩
      case rest =>
        obtain ⟨rfl, hb2⟩ := hcut
        have e4 : wc.cell? ⟨g, off + k * 5 + 4, none⟩ = some (.slice a' l.n c') := (hb2.out.cell (p := ⟨g, off + k * 5 + 4, none⟩) (HG)).trans q4'
        by_cases hst : l.mesh = m ∧ l.pk = p
        · rw [decide_eq_true hst]
          have HC2 : Hid (cnt (ls.take (k + 1)) m p = l.n) := by show _ = _; rw [HC.out, if_pos hst]
          clear hst
          go_wp2
          go_roundw
          case rel => exact ⟨k + 1, by omega, by go_num, by rw [HC2.out], hb2⟩
          case measure => simp [intOf]; omega
        · rw [decide_eq_false hst]
          have HC2 : Hid (cnt (ls.take (k + 1)) m p = cnt (ls.take k) m p) := by show _ = _; rw [HC.out, if_neg hst]
          clear hst
          go_wp2
          go_roundw
          case rel => exact ⟨k + 1, by omega, by go_num, by rw [HC2.out], hb2⟩
          case measure => simp [intOf]; omega
    · obtain rfl : k = ls.length := by omega
      rw [List.take_length]
      go_wp2
      go_ret
      exact ⟨rfl, below_step HB.out hbw.out (by omega)⟩

set_option maxRecDepth 100000 in
set_option maxHeartbeats 1600000 in
/-- 'zzLists' at a tag or a label. -/
theorem zz_lists_tag (aK : Option Addr) (cK : Nat) (ks : List Pk) (b : Int) (nm vl : ByteArray) (w : World) (hl : Picks w aK ks) (hn : ks.length ≤ 4096) (hb : b = 2 ∨ b = 5) :
    Calls Try.prog 19 #[.slice aK ks.length cK, .agg #[.int .u8 b, .string nm, .string vl]] w fun e w' => e = .returned (.bool (decide ((⟨b, nm, ⟨#[]⟩⟩ : Pk) ∈ ks))) ∧ Below w.heap.size w w' := by
  have hbA : Below w.heap.size w (w.alloc (.cells #[.int .u8 b, .string nm, .string vl] 38)) := (Below.refl _ _).alloc (Nat.le_refl _) _
  have hnew := heap_alloc_new w (.cells #[.int .u8 b, .string nm, .string vl] 38)
  generalize hr : (decide ((⟨b, nm, ⟨#[]⟩⟩ : Pk) ∈ ks)) = r
  have HR : Hid ((decide ((⟨b, nm, ⟨#[]⟩⟩ : Pk) ∈ ks)) = r) := hr
  clear hr
  rcases hb with rfl | rfl
  · go_enter Try.func19, Try.ntmps19
    go_wp2
    generalize w.alloc (.cells #[.int .u8 2, .string nm, .string vl] 38) = wA at hbA hnew ⊢
    have p0 : wA.cell? ⟨w.heap.size, 0, none⟩ = some (.int .u8 2) := by rw [cell_of_row wA _ 0 _ 38 _ hnew]; rfl
    have p1 : wA.cell? ⟨w.heap.size, 1, none⟩ = some (.string nm) := by rw [cell_of_row wA _ 1 _ 38 _ hnew]; rfl
    have hz : w.heap.size < wA.heap.size := lt_of_heap hnew
    have HL : Hid (Picks wA aK ks) := hl.below hbA
    have HB : Hid (Below w.heap.size w wA) := hbA
    clear hl hbA hnew
    go_loopw [4, 5] (fun t i wr => ∃ k : Nat, k ≤ ks.length ∧ t = .bool false ∧ i = .int .i64 k ∧ Hid (∀ j, j < k → ks.getD j pk0 ≠ ⟨2, nm, ⟨#[]⟩⟩) ∧ Hid (Below wA.heap.size wA wr)) (fun _ i _ => ks.length - (intOf i).toNat)
    case atStart => exact ⟨0, by omega, rfl, rfl, fun j hj => absurd hj (by omega), Below.refl _ _⟩
    case round =>
      obtain ⟨k, hk, rfl, rfl, HN, hbw⟩ := hrel
      have p0' := (hbw.out.cell (p := ⟨w.heap.size, 0, none⟩) hz).trans p0
      have p1' := (hbw.out.cell (p := ⟨w.heap.size, 1, none⟩) hz).trans p1
      clear p0 p1
      by_cases hlt : k < ks.length
      · obtain ⟨g, off, e, hp⟩ := HL.out k hlt
        cases e
        obtain ⟨q0, q1, q2⟩ := hp.below hbw.out (lt_of_cell hp.1)
        have HM : Hid (ks.getD k pk0 ∈ ks) := by
          show _ ∈ _
          rw [List.getD_eq_getElem?_getD, List.getElem?_eq_getElem hlt]
          exact List.getElem_mem hlt
        generalize hgl : ks.getD k pk0 = l at q0 q1 q2 HM
        have HGl : Hid (ks.getD k pk0 = l) := hgl
        clear hp hgl
        go_upto_region 9 with fail
        go_cut [44] from 13 to 44 (fun v wc => v = .bool (decide (l = (⟨2, nm, ⟨#[]⟩⟩ : Pk))) ∧ Hid (Below wA.heap.size wA wc))
        case first =>
          have hdp := dec_pk l ⟨2, nm, ⟨#[]⟩⟩
          by_cases hb : l.b = 2
          · by_cases hm : l.nm = nm
            · have HD : Hid (decide (l = (⟨2, nm, ⟨#[]⟩⟩ : Pk)) = (l.vl.toList == (⟨#[]⟩ : ByteArray).toList)) := by show _ = _; rw [hdp, beq_list_bytes]; simp [hb, hm]
              have hmt : (l.nm.toList == nm.toList) = true := by rw [beq_list_bytes]; exact decide_eq_true hm
              have hbt : decide (l.b = 2) = true := decide_eq_true hb
              clear hdp hm
              go_quiet (fail)
              go_wp2_with fail
              go_meet
              case rel => exact ⟨by rw [HD.out]; simp, below_drewN hbw.out _⟩
            · have HD : Hid (decide (l = (⟨2, nm, ⟨#[]⟩⟩ : Pk)) = false) := by show _ = _; rw [hdp]; simp [hm]
              have hmt : (l.nm.toList == nm.toList) = false := by rw [beq_list_bytes]; exact decide_eq_false hm
              have hbt : decide (l.b = 2) = true := decide_eq_true hb
              clear hdp hm
              go_quiet (fail)
              go_wp2_with fail
              go_meet
              case rel => exact ⟨by rw [HD.out], below_drewN hbw.out _⟩
          · have HD : Hid (decide (l = (⟨2, nm, ⟨#[]⟩⟩ : Pk)) = false) := by show _ = _; rw [hdp]; simp [hb]
            have hbt : decide (l.b = 2) = false := decide_eq_false hb
            have hbe : (l.b == 2) = false := by simpa using hb
            clear hdp
            go_quiet (fail)
            go_wp2_with fail
            go_meet
            case rel => exact ⟨by rw [HD.out], below_drewN hbw.out _⟩
        case rest =>
          obtain ⟨rfl, hb2⟩ := hcut
          by_cases hst : l = (⟨2, nm, ⟨#[]⟩⟩ : Pk)
          · rw [decide_eq_true hst]
            have HT : Hid (r = true) := by show _ = _; rw [← HR.out]; exact decide_eq_true (hst ▸ HM.out)
            clear hst
            go_wp2
            go_ret
            exact ⟨by rw [HT.out]; rfl, below_step HB.out hb2.out (by omega)⟩
          · rw [decide_eq_false hst]
            have HN2 : Hid (∀ j, j < k + 1 → ks.getD j pk0 ≠ ⟨2, nm, ⟨#[]⟩⟩) := by
              intro j hj
              rcases Nat.lt_or_eq_of_le (Nat.le_of_lt_succ hj) with h | h
              · exact HN.out j h
              · rw [h, HGl.out]; exact hst
            clear hst
            go_wp2
            go_roundw
            case rel => exact ⟨k + 1, by omega, rfl, by go_num, HN2, hb2⟩
            case measure => simp [intOf]; omega
      · obtain rfl : k = ks.length := by omega
        have HT : Hid (r = false) := by
          show _ = _
          rw [← HR.out]
          refine decide_eq_false (fun h => ?_)
          obtain ⟨j, hj, e⟩ := List.getElem_of_mem h
          refine HN.out j hj ?_
          rw [List.getD_eq_getElem?_getD, List.getElem?_eq_getElem hj]
          exact e
        go_wp2
        go_ret
        exact ⟨by rw [HT.out]; rfl, below_step HB.out hbw.out (by omega)⟩
  · go_enter Try.func19, Try.ntmps19
    go_wp2
    generalize w.alloc (.cells #[.int .u8 5, .string nm, .string vl] 38) = wA at hbA hnew ⊢
    have p0 : wA.cell? ⟨w.heap.size, 0, none⟩ = some (.int .u8 5) := by rw [cell_of_row wA _ 0 _ 38 _ hnew]; rfl
    have p1 : wA.cell? ⟨w.heap.size, 1, none⟩ = some (.string nm) := by rw [cell_of_row wA _ 1 _ 38 _ hnew]; rfl
    have hz : w.heap.size < wA.heap.size := lt_of_heap hnew
    have HL : Hid (Picks wA aK ks) := hl.below hbA
    have HB : Hid (Below w.heap.size w wA) := hbA
    clear hl hbA hnew
    go_loopw [4, 5] (fun t i wr => ∃ k : Nat, k ≤ ks.length ∧ t = .bool false ∧ i = .int .i64 k ∧ Hid (∀ j, j < k → ks.getD j pk0 ≠ ⟨5, nm, ⟨#[]⟩⟩) ∧ Hid (Below wA.heap.size wA wr)) (fun _ i _ => ks.length - (intOf i).toNat)
    case atStart => exact ⟨0, by omega, rfl, rfl, fun j hj => absurd hj (by omega), Below.refl _ _⟩
    case round =>
      obtain ⟨k, hk, rfl, rfl, HN, hbw⟩ := hrel
      have p0' := (hbw.out.cell (p := ⟨w.heap.size, 0, none⟩) hz).trans p0
      have p1' := (hbw.out.cell (p := ⟨w.heap.size, 1, none⟩) hz).trans p1
      clear p0 p1
      by_cases hlt : k < ks.length
      · obtain ⟨g, off, e, hp⟩ := HL.out k hlt
        cases e
        obtain ⟨q0, q1, q2⟩ := hp.below hbw.out (lt_of_cell hp.1)
        have HM : Hid (ks.getD k pk0 ∈ ks) := by
          show _ ∈ _
          rw [List.getD_eq_getElem?_getD, List.getElem?_eq_getElem hlt]
          exact List.getElem_mem hlt
        generalize hgl : ks.getD k pk0 = l at q0 q1 q2 HM
        have HGl : Hid (ks.getD k pk0 = l) := hgl
        clear hp hgl
        go_upto_region 9 with fail
        go_cut [44] from 13 to 44 (fun v wc => v = .bool (decide (l = (⟨5, nm, ⟨#[]⟩⟩ : Pk))) ∧ Hid (Below wA.heap.size wA wc))
        case first =>
          have hdp := dec_pk l ⟨5, nm, ⟨#[]⟩⟩
          by_cases hb : l.b = 5
          · by_cases hm : l.nm = nm
            · have HD : Hid (decide (l = (⟨5, nm, ⟨#[]⟩⟩ : Pk)) = (l.vl.toList == (⟨#[]⟩ : ByteArray).toList)) := by show _ = _; rw [hdp, beq_list_bytes]; simp [hb, hm]
              have hmt : (l.nm.toList == nm.toList) = true := by rw [beq_list_bytes]; exact decide_eq_true hm
              have hbt : decide (l.b = 5) = true := decide_eq_true hb
              clear hdp hm
              go_quiet (fail)
              go_wp2_with fail
              go_meet
              case rel => exact ⟨by rw [HD.out]; simp, below_drewN hbw.out _⟩
            · have HD : Hid (decide (l = (⟨5, nm, ⟨#[]⟩⟩ : Pk)) = false) := by show _ = _; rw [hdp]; simp [hm]
              have hmt : (l.nm.toList == nm.toList) = false := by rw [beq_list_bytes]; exact decide_eq_false hm
              have hbt : decide (l.b = 5) = true := decide_eq_true hb
              clear hdp hm
              go_quiet (fail)
              go_wp2_with fail
              go_meet
              case rel => exact ⟨by rw [HD.out], below_drewN hbw.out _⟩
          · have HD : Hid (decide (l = (⟨5, nm, ⟨#[]⟩⟩ : Pk)) = false) := by show _ = _; rw [hdp]; simp [hb]
            have hbt : decide (l.b = 5) = false := decide_eq_false hb
            have hbe : (l.b == 5) = false := by simpa using hb
            clear hdp
            go_quiet (fail)
            go_wp2_with fail
            go_meet
            case rel => exact ⟨by rw [HD.out], below_drewN hbw.out _⟩
        case rest =>
          obtain ⟨rfl, hb2⟩ := hcut
          by_cases hst : l = (⟨5, nm, ⟨#[]⟩⟩ : Pk)
          · rw [decide_eq_true hst]
            have HT : Hid (r = true) := by show _ = _; rw [← HR.out]; exact decide_eq_true (hst ▸ HM.out)
            clear hst
            go_wp2
            go_ret
            exact ⟨by rw [HT.out]; rfl, below_step HB.out hb2.out (by omega)⟩
          · rw [decide_eq_false hst]
            have HN2 : Hid (∀ j, j < k + 1 → ks.getD j pk0 ≠ ⟨5, nm, ⟨#[]⟩⟩) := by
              intro j hj
              rcases Nat.lt_or_eq_of_le (Nat.le_of_lt_succ hj) with h | h
              · exact HN.out j h
              · rw [h, HGl.out]; exact hst
            clear hst
            go_wp2
            go_roundw
            case rel => exact ⟨k + 1, by omega, rfl, by go_num, HN2, hb2⟩
            case measure => simp [intOf]; omega
      · obtain rfl : k = ks.length := by omega
        have HT : Hid (r = false) := by
          show _ = _
          rw [← HR.out]
          refine decide_eq_false (fun h => ?_)
          obtain ⟨j, hj, e⟩ := List.getElem_of_mem h
          refine HN.out j hj ?_
          rw [List.getD_eq_getElem?_getD, List.getElem?_eq_getElem hj]
          exact e
        go_wp2
        go_ret
        exact ⟨by rw [HT.out]; rfl, below_step HB.out hbw.out (by omega)⟩

set_option maxRecDepth 100000 in
set_option maxHeartbeats 1600000 in
/-- 'zzLists'. -/
theorem zz_lists (aK : Option Addr) (cK : Nat) (ks : List Pk) (p : Pk) (w : World) (hl : Picks w aK ks) (hn : ks.length ≤ 4096) :
    Calls Try.prog 19 #[.slice aK ks.length cK, .agg #[.int .u8 p.b, .string p.nm, .string p.vl]] w fun e w' => e = .returned (.bool (lists ks p)) ∧ Below w.heap.size w w' := by
  obtain ⟨b, nm, vl⟩ := p
  simp only
  by_cases h3 : b = 3
  · subst h3
    go_enter Try.func19, Try.ntmps19
    go_wp2
    go_ret
    exact ⟨by simp [lists], (Below.refl _ _).alloc (Nat.le_refl _) _⟩
  · by_cases h25 : b = 2 ∨ b = 5
    · have hL : lists ks ⟨b, nm, vl⟩ = decide ((⟨b, nm, ⟨#[]⟩⟩ : Pk) ∈ ks) := by simp only [lists]; rw [if_neg h3, if_pos h25]
      rw [hL]
      exact zz_lists_tag aK cK ks b nm vl w hl hn h25
    · have h2 : b ≠ 2 := fun e => h25 (.inl e)
      have h5 : b ≠ 5 := fun e => h25 (.inr e)
      have hL : lists ks ⟨b, nm, vl⟩ = true := by simp only [lists]; rw [if_neg h3, if_neg h25]
      clear h25
      go_enter Try.func19, Try.ntmps19
      go_wp2
      go_ret
      exact ⟨by rw [hL]; rfl, (Below.refl _ _).alloc (Nat.le_refl _) _⟩
end Go.Proofs.Qxb6604404a
