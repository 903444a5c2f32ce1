import Derived.Test.Qxb6604369aLawSix
namespace Go.Proofs.Qxb6604369a
open Go.RowKit
set_option linter.unusedVariables false

set_option maxRecDepth 100000 in
set_option maxHeartbeats 1600000 in
/-- 'zzSameBytes' of a slice and itself. -/
theorem same_bytes (ao : Option Addr) (n cap : Nat) (w : World) (hn : n ≤ 1048576) (hc : ∀ i, i < n → ∃ b off u, ao = some ⟨b, off, none⟩ ∧ w.cell? ⟨b, off + i, none⟩ = some u ∧ Byte u) :
    Calls Try.prog 12 #[.slice ao n cap, .slice ao n cap] w fun e w' => e = .returned (.bool true) ∧ ∃ m, w' = w.drewN m := by
  go_enter Try.func12, Try.ntmps12
  go_wp2_with fail
  go_loopw [4, 5] (fun r i wr => ∃ (k m : Nat), k ≤ n ∧ r = .bool false ∧ i = .int .i64 k ∧ wr = w.drewN m) (fun _ i _ => n - (intOf i).toNat)
  case atStart => exact ⟨0, 0, by omega, rfl, rfl, rfl⟩
  case round =>
    obtain ⟨k, m, hk, rfl, rfl, rfl⟩ := hrel
    by_cases hlt : k < n
    · obtain ⟨b, off, u, e, hcell, bt, rfl⟩ := hc k hlt
      cases e
      have h0 : (0 : Int) ≤ (k : Int) := by omega
      have h1 : (k : Int) < (n : Int) := by omega
      go_wp2_with fail
      go_quiet (fail)
      go_wp2
      go_roundw
      case rel => exact ⟨k + 1, _, by omega, rfl, by go_num, rfl⟩
      case measure => simp [intOf]; omega
    · go_wp2_with fail
      go_ret
      exact ⟨rfl, m, rfl⟩

set_option maxRecDepth 100000 in
set_option maxHeartbeats 3200000 in
theorem law5 (v : Value) (w : World) (h : Sh3 w 9223372036854775807 9223372036854775807 9223372036854775807 v) :
    Calls Try.prog 5 #[v] w fun e w' => e = .returned (.bool true) ∧ Below w.heap.size w w' := by
  go_enter Try.func5, Try.ntmps5
  go_wp2_with fail
  refine (gate14 v _ h).mono ?_
  rintro e w0 ⟨⟨b, rfl, _⟩, rfl⟩
  cases b
  · go_wp2_with fail
    go_ret
    exact ⟨rfl, Below.refl _ _⟩
  go_wp2_with fail
  refine (tooBig v _ h).mono ?_
  rintro e w1 ⟨⟨b, rfl, hs⟩, rfl⟩
  cases b
  rotate_left
  · go_wp2_with fail
    go_ret
    exact ⟨rfl, Below.refl _ _⟩
  have hs3 := hs rfl
  clear hs h
  go_wp2_with fail
  refine (clone_nested v _ hs3).mono ?_
  rintro e w2 ⟨v2, rfl, hs2, hb2⟩
  obtain ⟨ao, n, cap, V, rfl, hn, hnil, hel, hsh⟩ := elems_of hs2
  clear hs3 hs2 hnil
  go_wp2_with fail
  refine (zz_snapshots ao n cap V _ hn hel).mono ?_
  rintro e w3 ⟨gv, tv, rfl, hg, ht, hb3⟩
  obtain ⟨ga, gc, rfl⟩ := owns_form hg
  have hbf := hb2.trans (hb3.mono hb2.size)
  clear ht hb2
  go_wp2_with fail
  go_loopw [2, 5, 6, 7, 8] (fun r i g q j wr => ∃ (k m : Nat), k ≤ n ∧ r = .bool false ∧ i = .int .i64 k ∧ wr = w3.drewN m) (fun _ i _ _ _ _ => n - (intOf i).toNat)
  case atStart => exact ⟨0, 0, by omega, rfl, rfl, rfl⟩
  case round =>
    obtain ⟨k, m, hk, rfl, rfl, rfl⟩ := hrel
    by_cases hlt : k < n
    · obtain ⟨g, c0, e1, hc⟩ := owns_some hg hlt
      simp only [Value.slice.injEq] at e1
      obtain ⟨rfl, _, rfl⟩ := e1
      obtain ⟨b, off, a, l, c, rfl, hcell, hVk⟩ := hel k hlt
      have hc' : w3.cell? ⟨g, k, none⟩ = some (.slice a l c) := by rw [hc]; simp [hlt, hVk]
      have hr' : w3.cell? ⟨b, off + k, none⟩ = some (.slice a l c) := (hb3.cell (p := ⟨b, off + k, none⟩) (lt_of_cell hcell)).trans hcell
      have hs := hsh k hlt
      rw [hVk] at hs
      obtain ⟨a', l', c', e2, hl, hnil2, hc2⟩ := hs
      simp only [Value.slice.injEq] at e2
      obtain ⟨rfl, rfl, rfl⟩ := e2
      have hq := fun wx => Lib.run_eql_slice_nil (P := Try.prog) wx 28 22 a l c 0 0 Try.underlying28
      clear hc hVk hcell hnil2 hg
      cases ha : a.isNone
      all_goals
        rw [ha] at hq
        clear ha
        go_wp2_with fail
        go_loopw [2, 8] (fun r j wr => ∃ (k' m : Nat), k' ≤ l ∧ r = .bool false ∧ j = .int .i64 k' ∧ wr = w3.drewN m) (fun _ j _ => l - (intOf j).toNat)
        case atStart => exact ⟨0, m, by omega, rfl, rfl, rfl⟩
        case round =>
          obtain ⟨k', m', hk', rfl, rfl, rfl⟩ := hrel
          by_cases hlt' : k' < l
          · obtain ⟨b2, off2, u2, e2, hcell2, a3, l3, c3, rfl, hl3, hnil3, hc3⟩ := hc2 k' hlt'
            cases e2
            have hr2 : w3.cell? ⟨b2, off2 + k', none⟩ = some (.slice a3 l3 c3) := (hb3.cell (p := ⟨b2, off2 + k', none⟩) (lt_of_cell hcell2)).trans hcell2
            have hq3 := fun wx => Lib.run_eql_slice_nil (P := Try.prog) wx 22 5 a3 l3 c3 0 0 Try.underlying22
            have h0 : (0 : Int) ≤ (k' : Int) := by omega
            have h1 : (k' : Int) < (l : Int) := by omega
            obtain ⟨wq, hwq⟩ : ∃ wq, wq = w3.drewN m' := ⟨_, rfl⟩
            have hrq : wq.cell? ⟨b2, off2 + k', none⟩ = some (.slice a3 l3 c3) := by rw [hwq]; exact hr2
            have hsb : ∀ mm, Calls Try.prog 12 #[.slice a3 l3 c3, .slice a3 l3 c3] (wq.drewN mm) fun e w' => e = .returned (.bool true) ∧ ∃ m, w' = (wq.drewN mm).drewN m := fun mm => same_bytes a3 l3 c3 (wq.drewN mm) hl3 (fun i hi => by
              obtain ⟨b4, off4, u4, e4, hcell4, hby⟩ := hc3 i hi
              refine ⟨b4, off4, u4, e4, ?_, hby⟩
              rw [hwq]
              exact (hb3.cell (p := ⟨b4, off4 + i, none⟩) (lt_of_cell hcell4)).trans hcell4)
            rw [← hwq]
            have HWQ : Hid (wq = w3.drewN m') := hwq
            clear hwq hr2
            clear hcell2 hc3 hnil3
            cases ha3 : a3.isNone
            all_goals
              rw [ha3] at hq3
              clear ha3
              go_wp2_with fail
              go_quiet ((go_at_call 12; exact Calls.quiet_of (hsb _)))
              go_wp2
              go_roundw
              case rel => exact ⟨k' + 1, _, by omega, rfl, by go_num, by rw [HWQ.out, World.drewN_drewN]⟩
              case measure => simp [intOf]; omega
          · go_wp2
            go_roundw
            case rel => exact ⟨k + 1, _, by omega, rfl, by go_num, rfl⟩
            case measure => simp [intOf]; omega
    · go_wp2_with fail
      go_ret
      exact ⟨rfl, below_drewN hbf _⟩
end Go.Proofs.Qxb6604369a
