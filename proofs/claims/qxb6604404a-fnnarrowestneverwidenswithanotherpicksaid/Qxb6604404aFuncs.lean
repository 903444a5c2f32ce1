import Derived.Test.Qxb6604404aConcat
namespace Go.Proofs.Qxb6604404a
open Go.RowKit
set_option linter.unusedVariables false
set_option linter.unusedSectionVars false
variable [DecidableEq Pk]
theorem Try.st65 : Try.prog.underlying 65 = some (.struct (Try.prog.fieldsOf 65)) := by kernel_rfl
theorem Try.st38 : Try.prog.underlying 38 = some (.struct (Try.prog.fieldsOf 38)) := by kernel_rfl
theorem Try.sh65 : Try.prog.stoodInHeld 65 = false := by kernel_rfl
theorem Try.sh38 : Try.prog.stoodInHeld 38 = false := by kernel_rfl
theorem Try.eg65 : Try.prog.eqGuardType Try.prog.depth 65 = false := by kernel_rfl
theorem Try.eg38 : Try.prog.eqGuardType Try.prog.depth 38 = false := by kernel_rfl
theorem beq_list_bytes (a b : ByteArray) : (a.toList == b.toList) = decide (a = b) := by
  by_cases h : a = b
  · subst h; simp
  · rw [decide_eq_false h, beq_eq_false_iff_ne]
    intro e
    rw [ByteArray.toList_eq, ByteArray.toList_eq] at e
    obtain ⟨⟨x⟩⟩ := a
    obtain ⟨⟨y⟩⟩ := b
    simp at e
    exact h (by rw [e])
theorem dec_pk (p q : Pk) : decide (p = q) = (decide (p.b = q.b) && (decide (p.nm = q.nm) && decide (p.vl = q.vl))) := by
  obtain ⟨a, b, c⟩ := p; obtain ⟨a', b', c'⟩ := q
  simp only [Pk.mk.injEq, Bool.decide_and]
theorem eqIn65 (w : World) (p q : Pk) : (Op.equalIn 10000 65 (.agg #[.int .u8 p.b, .string p.nm, .string p.vl]) (.agg #[.int .u8 q.b, .string q.nm, .string q.vl])).run Try.prog w = .ok (decide (p = q)) w := by
  rw [run_equalIn_struct w 9999 65 _ _ Try.st65 Try.sh65]
  rw [dec_pk]
  simp only [Program.fieldsOf, Try.underlying65, Op.eqFields]
  simp [part, go_sem, beq_list_bytes]
  by_cases h1 : p.b = q.b <;> by_cases h2 : p.nm = q.nm <;> by_cases h3 : p.vl = q.vl <;> simp [h1, h2, h3]
theorem eql65 (w : World) (p q : Pk) : (binOp .eql 65 (.agg #[.int .u8 p.b, .string p.nm, .string p.vl]) (.agg #[.int .u8 q.b, .string q.nm, .string q.vl])).run Try.prog w = .ok (.bool (decide (p = q))) w := by
  rw [run_eql_struct, eqIn65]; rfl
theorem neq65 (w : World) (p q : Pk) : (binOp .neq 65 (.agg #[.int .u8 p.b, .string p.nm, .string p.vl]) (.agg #[.int .u8 q.b, .string q.nm, .string q.vl])).run Try.prog w = .ok (.bool (!decide (p = q))) w := by
  rw [run_neq_struct, eqIn65]; rfl
theorem eqIn38 (w : World) (p q : Pk) : (Op.equalIn 10000 38 (.agg #[.int .u8 p.b, .string p.nm, .string p.vl]) (.agg #[.int .u8 q.b, .string q.nm, .string q.vl])).run Try.prog w = .ok (decide (p = q)) w := by
  rw [run_equalIn_struct w 9999 38 _ _ Try.st38 Try.sh38]
  rw [dec_pk]
  simp only [Program.fieldsOf, Try.underlying38, Op.eqFields]
  simp [part, go_sem, beq_list_bytes]
  by_cases h1 : p.b = q.b <;> by_cases h2 : p.nm = q.nm <;> by_cases h3 : p.vl = q.vl <;> simp [h1, h2, h3]
theorem eql38 (w : World) (p q : Pk) : (binOp .eql 38 (.agg #[.int .u8 p.b, .string p.nm, .string p.vl]) (.agg #[.int .u8 q.b, .string q.nm, .string q.vl])).run Try.prog w = .ok (.bool (decide (p = q))) w := by
  rw [run_eql_struct, eqIn38]; rfl
theorem neq38 (w : World) (p q : Pk) : (binOp .neq 38 (.agg #[.int .u8 p.b, .string p.nm, .string p.vl]) (.agg #[.int .u8 q.b, .string q.nm, .string q.vl])).run Try.prog w = .ok (.bool (!decide (p = q))) w := by
  rw [run_neq_struct, eqIn38]; rfl

set_option maxRecDepth 100000 in
set_option maxHeartbeats 1600000 in
/-- The closure of 'narrowest': is the pick another than the first of oneOf? -/
theorem clos_ne (p o : Pk) (S g off n c : Nat) (w : World) (hs : w.cell? ⟨S, 2, none⟩ = some (.slice (some ⟨g, off, none⟩) n c)) (hn : 0 < n) (ho : PkAt w g off o) :
    Calls Try.prog 32 #[.agg #[.int .u8 p.b, .string p.nm, .string p.vl], .pointer (some ⟨S, 0, none⟩)] w fun e w' => e = .returned (.bool (decide (p ≠ o))) ∧ Below w.heap.size w w' := by
  have hbA : Below w.heap.size w (w.alloc (.cells #[.int .u8 p.b, .string p.nm, .string p.vl] 65)) := (Below.refl _ _).alloc (Nat.le_refl _) _
  have hnew := heap_alloc_new w (.cells #[.int .u8 p.b, .string p.nm, .string p.vl] 65)
  have hs' := (hbA.cell (p := ⟨S, 2, none⟩) (lt_of_cell hs)).trans hs
  obtain ⟨q0, q1, q2⟩ := ho.below hbA (lt_of_cell ho.1)
  have hne := fun wx => neq65 wx p o
  have heg := Try.eg65
  go_enter Try.func32, Try.ntmps32
  go_wp2
  generalize w.alloc (.cells #[.int .u8 p.b, .string p.nm, .string p.vl] 65) = wA at hbA hnew hs' q0 q1 q2 ⊢
  have p0 : wA.cell? ⟨w.heap.size, 0, none⟩ = some (.int .u8 p.b) := by rw [cell_of_row wA _ 0 _ 65 _ hnew]; rfl
  have p1 : wA.cell? ⟨w.heap.size, 1, none⟩ = some (.string p.nm) := by rw [cell_of_row wA _ 1 _ 65 _ hnew]; rfl
  have p2 : wA.cell? ⟨w.heap.size, 2, none⟩ = some (.string p.vl) := by rw [cell_of_row wA _ 2 _ 65 _ hnew]; rfl
  clear hs ho hnew
  go_quiet (fail)
  go_wp2
  go_ret
  refine ⟨by simp, ?_⟩
  first | exact hbA | exact below_drewN hbA _

set_option maxRecDepth 100000 in
set_option maxHeartbeats 1600000 in
/-- 'slices.IndexFunc' with that closure. -/
theorem index_ne (ps : List Pk) (o : Pk) (ao : Option Addr) (c : Nat) (S g off n c' : Nat) (w : World) (hs : w.cell? ⟨S, 2, none⟩ = some (.slice (some ⟨g, off, none⟩) n c')) (hn : 0 < n) (ho : PkAt w g off o) (hp : Picks w ao ps) (hl : ps.length ≤ 5000) :
    Calls Try.prog 36 #[.slice ao ps.length c, .func (.func 32) #[] #[.pointer (some ⟨S, 0, none⟩)]] w fun e w' => (∃ r : Int, e = .returned (.int .i64 r) ∧ (0 ≤ r ↔ ∃ p ∈ ps, p ≠ o)) ∧ Below w.heap.size w w' := by
  go_enter Try.func36, Try.ntmps36
  go_wp2
  go_loopw [8, 4] (fun i r wr => ∃ k : Nat, k ≤ ps.length ∧ i = .int .i64 k ∧ r = .int .i64 0 ∧ (∀ j, j < k → ps.getD j pk0 = o) ∧ Below w.heap.size w wr) (fun i _ _ => ps.length - (intOf i).toNat)
  case atStart => exact ⟨0, by omega, rfl, rfl, fun j hj => by omega, Below.refl _ _⟩
  case round =>
    obtain ⟨k, hk, rfl, rfl, hall, hbw⟩ := hrel
    have HALL : Hid (∀ j, j < k → ps.getD j pk0 = o) := hall
    clear hall
    by_cases hlt : k < ps.length
    · obtain ⟨g1, off1, e, hp1⟩ := hp k hlt
      cases e
      have hs' := (hbw.cell (p := ⟨S, 2, none⟩) (lt_of_cell hs)).trans hs
      have ho' := ho.below hbw (lt_of_cell ho.1)
      obtain ⟨q0, q1, q2⟩ := hp1.below hbw (lt_of_cell hp1.1)
      generalize hpk : ps.getD k pk0 = pk at q0 q1 q2
      have HP : Hid (ps.getD k pk0 = pk) := hpk
      clear hpk hp1
      have HB : Hid (w.heap.size ≤ wr.heap.size) := hbw.size
      by_cases hpo : pk = o
      · subst hpo
        have hcl := clos_ne pk pk S g off n c' wr hs' hn ho'
        go_wp2_with fail
        refine hcl.mono ?_
        rintro e w2 ⟨rfl, hb2⟩
        clear hcl
        have hb3 : Below w.heap.size w w2 := below_step hbw hb2 HB.out
        go_wp2
        go_roundw
        case rel => exact ⟨k + 1, by omega, by go_num, rfl, fun j hj => by
          rcases Nat.lt_or_ge j k with h | h
          · exact HALL.out j h
          · obtain rfl : j = k := by omega
            exact HP.out, hb3⟩
        case measure => simp [intOf]; omega
      · have hcl := clos_ne pk o S g off n c' wr hs' hn ho'
        have HPO : Hid (pk ≠ o) := hpo
        rw [decide_eq_true hpo] at hcl
        clear hpo
        go_wp2_with fail
        refine hcl.mono ?_
        rintro e w2 ⟨rfl, hb2⟩
        clear hcl
        have hb3 : Below w.heap.size w w2 := below_step hbw hb2 HB.out
        go_wp2
        go_ret
        refine ⟨⟨k, rfl, ⟨fun _ => ⟨pk, ?_, HPO.out⟩, fun _ => by omega⟩⟩, hb3⟩
        rw [← HP.out, List.getD_eq_getElem?_getD, List.getElem?_eq_getElem hlt]
        exact List.getElem_mem hlt
    · go_wp2
      go_ret
      refine ⟨⟨-1, rfl, ⟨fun h => by omega, ?_⟩⟩, hbw⟩
      rintro ⟨p, hm, hne⟩
      obtain ⟨j, hj, rfl⟩ := List.getElem_of_mem hm
      have := HALL.out j (by omega)
      rw [List.getD_eq_getElem?_getD, List.getElem?_eq_getElem hj] at this
      exact absurd this hne

set_option maxRecDepth 100000 in
set_option maxHeartbeats 1600000 in
/-- 'slices.ContainsFunc' with that closure. -/
theorem contains_ne (ps : List Pk) (o : Pk) (ao : Option Addr) (c : Nat) (S g off n c' : Nat) (w : World) (hs : w.cell? ⟨S, 2, none⟩ = some (.slice (some ⟨g, off, none⟩) n c')) (hn : 0 < n) (ho : PkAt w g off o) (hp : Picks w ao ps) (hl : ps.length ≤ 5000) :
    Calls Try.prog 31 #[.slice ao ps.length c, .func (.func 32) #[] #[.pointer (some ⟨S, 0, none⟩)]] w fun e w' => e = .returned (.bool (decide (∃ p ∈ ps, p ≠ o))) ∧ Below w.heap.size w w' := by
  have hix := index_ne ps o ao c S g off n c' w hs hn ho hp hl
  go_enter Try.func31, Try.ntmps31
  go_wp2_with fail
  refine hix.mono ?_
  rintro e w2 ⟨⟨r, rfl, hr⟩, hb2⟩
  have HR : Hid (0 ≤ r ↔ ∃ p ∈ ps, p ≠ o) := hr
  clear hix hr
  go_wp2
  go_ret
  refine ⟨?_, hb2⟩
  simp only [HR.out.symm]
  rfl
end Go.Proofs.Qxb6604404a
