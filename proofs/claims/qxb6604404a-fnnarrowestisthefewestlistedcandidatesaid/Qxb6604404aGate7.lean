import Derived.Test.Qxb6604404aGate
namespace Go.Proofs.Qxb6604404a
open Go.RowKit
set_option linter.unusedVariables false

set_option maxRecDepth 100000 in
set_option maxHeartbeats 6400000 in
/-- The gate: it answers, and what it lets by has short lists. -/
theorem gate7 (a1 a2 a3 a4 a5 : Option Addr) (c1 c2 c3 c4 c5 : Nat) (ls : List Ls) (ks ps os qs : List Pk) (m : ByteArray) (sl vi : Bool) (w : World)
    (h1 : Lists w a1 ls) (h2 : Picks w a2 ks) (h3 : Picks w a3 ps) (h4 : Picks w a4 os) (h5 : Picks w a5 qs) (hm : m.size ≤ maxLen)
    (l1 : ls.length ≤ maxLen) (l2 : ks.length ≤ maxLen) (l3 : ps.length ≤ maxLen) (l4 : os.length ≤ maxLen) (l5 : qs.length ≤ maxLen)
    (o1 : ∀ i, i < ls.length → (ls.getD i ls0).mesh.size ≤ maxLen ∧ (ls.getD i ls0).pk.ok ∧ (ls.getD i ls0).n ≤ maxLen) (o2 : ∀ p ∈ ks, p.ok) (o3 : ∀ p ∈ ps, p.ok) (o4 : ∀ p ∈ os, p.ok) (o5 : ∀ p ∈ qs, p.ok) :
    Calls Try.prog 7 #[.slice a1 ls.length c1, .slice a2 ks.length c2, .string m, .bool sl, .slice a3 ps.length c3, .slice a4 os.length c4, .bool vi, .slice a5 qs.length c5] w fun e w' => GateOk ls w e w' := by
  unfold maxLen at hm l1 l2 l3 l4 l5
  have O1 : Hid (∀ i, i < ls.length → (ls.getD i ls0).mesh.size ≤ maxLen ∧ (ls.getD i ls0).pk.ok ∧ (ls.getD i ls0).n ≤ maxLen) := o1
  have O2 : Hid (∀ p ∈ ks, p.ok) := o2
  have H2 : Hid (Picks w a2 ks) := h2
  have O3 : Hid (∀ p ∈ ps, p.ok) := o3
  have H3 : Hid (Picks w a3 ps) := h3
  have O4 : Hid (∀ p ∈ os, p.ok) := o4
  have H4 : Hid (Picks w a4 os) := h4
  have O5 : Hid (∀ p ∈ qs, p.ok) := o5
  have H5 : Hid (Picks w a5 qs) := h5
  have H1 : Hid (Lists w a1 ls) := h1
  clear h1 h2 h3 h4 h5 o1 o2 o3 o4 o5
  have HBB : Hid (Below w.heap.size w w) := Below.refl _ _
  go_enter Try.func7, Try.ntmps7
  go_wp2
  all_goals first | (go_ret; exact GateOk.no HBB.out) | skip
  go_loop [16, 17, 18] (fun r z i => ∃ (k : Nat) (zn : Int), k ≤ ls.length ∧ 0 ≤ zn ∧ zn ≤ 1048576 ∧ r = .bool false ∧ z = .int .i64 zn ∧ i = .int .i64 k ∧ Hid (∀ j, j < k → (ls.getD j ls0).n ≤ 1048576)) (fun _ _ i => ls.length - (intOf i).toNat)
  case atStart => exact ⟨0, ls.length, by omega, by omega, by omega, rfl, by first | rfl | simp, rfl, fun j hj => absurd hj (by omega)⟩
  case round =>
    obtain ⟨k1, z1, hk1, hz1a, hz1b, rfl, rfl, rfl, HN⟩ := hrel
    by_cases hlt1 : k1 < ls.length
    · obtain ⟨g, off, e, hp⟩ := H1.out k1 hlt1
      cases e
      obtain ⟨q0, ⟨q1, q2, q3⟩, a, c, q4⟩ := hp
      obtain ⟨oa, ob, oc⟩ := O1.out k1 hlt1
      have od := ob.2.1
      have oe := ob.2.2
      unfold maxLen at oa oc od oe
      clear ob
      generalize hgl : ls.getD k1 ls0 = l at q0 q1 q2 q3 q4 oa oc od oe
      have HG : Hid (ls.getD k1 ls0 = l) := hgl
      clear hgl
      go_wp2
      all_goals first
        | (go_ret; exact GateOk.no HBB.out)
        | (go_round
           case rel => exact ⟨k1 + 1, _, by omega, by omega, by omega, rfl, rfl, by go_num, fun j hj => by
             rcases Nat.lt_or_eq_of_le (Nat.le_of_lt_succ hj) with h | h
             · exact HN.out j h
             · rw [h, HG.out]; omega⟩
           case measure => simp [intOf]; omega)
    · obtain rfl : k1 = ls.length := by omega
      go_wp2
      all_goals first | (go_ret; exact GateOk.no HBB.out) | skip
      go_loop [16, 17, 19] (fun r z i => ∃ (k : Nat) (zn : Int), k ≤ ks.length ∧ 0 ≤ zn ∧ zn ≤ 1048576 ∧ r = .bool false ∧ z = .int .i64 zn ∧ i = .int .i64 k) (fun _ _ i => ks.length - (intOf i).toNat)
      case atStart => exact ⟨0, z1 + ks.length, by omega, by omega, by omega, rfl, by first | rfl | simp, rfl⟩
      case round =>
        obtain ⟨k2, z2, hk2, hz2a, hz2b, rfl, rfl, rfl⟩ := hrel
        by_cases hlt2 : k2 < ks.length
        · obtain ⟨g, off, e, hp⟩ := H2.out k2 hlt2
          cases e
          obtain ⟨q0, q1, q2⟩ := hp
          have ob := O2.out _ (mem_getD' hlt2)
          have od := ob.2.1
          have oe := ob.2.2
          unfold maxLen at od oe
          clear ob
          generalize ks.getD k2 pk0 = l at q0 q1 q2 od oe
          go_wp2
          all_goals first
            | (go_ret; exact GateOk.no HBB.out)
            | (go_round
               case rel => exact ⟨k2 + 1, _, by omega, by omega, by omega, rfl, rfl, by go_num⟩
               case measure => simp [intOf]; omega)
        · obtain rfl : k2 = ks.length := by omega
          go_wp2
          all_goals first | (go_ret; exact GateOk.no HBB.out) | skip
          go_loop [16, 17, 20] (fun r z i => ∃ (k : Nat) (zn : Int), k ≤ ps.length ∧ 0 ≤ zn ∧ zn ≤ 1048576 ∧ r = .bool false ∧ z = .int .i64 zn ∧ i = .int .i64 k) (fun _ _ i => ps.length - (intOf i).toNat)
          case atStart => exact ⟨0, z2 + m.size + ps.length, by omega, by omega, by omega, rfl, by first | rfl | simp, rfl⟩
          case round =>
            obtain ⟨k3, z3, hk3, hz3a, hz3b, rfl, rfl, rfl⟩ := hrel
            by_cases hlt3 : k3 < ps.length
            · obtain ⟨g, off, e, hp⟩ := H3.out k3 hlt3
              cases e
              obtain ⟨q0, q1, q2⟩ := hp
              have ob := O3.out _ (mem_getD' hlt3)
              have od := ob.2.1
              have oe := ob.2.2
              unfold maxLen at od oe
              clear ob
              generalize ps.getD k3 pk0 = l at q0 q1 q2 od oe
              go_wp2
              all_goals first
                | (go_ret; exact GateOk.no HBB.out)
                | (go_round
                   case rel => exact ⟨k3 + 1, _, by omega, by omega, by omega, rfl, rfl, by go_num⟩
                   case measure => simp [intOf]; omega)
            · obtain rfl : k3 = ps.length := by omega
              go_wp2
              all_goals first | (go_ret; exact GateOk.no HBB.out) | skip
              go_loop [16, 17, 21] (fun r z i => ∃ (k : Nat) (zn : Int), k ≤ os.length ∧ 0 ≤ zn ∧ zn ≤ 1048576 ∧ r = .bool false ∧ z = .int .i64 zn ∧ i = .int .i64 k) (fun _ _ i => os.length - (intOf i).toNat)
              case atStart => exact ⟨0, z3 + os.length, by omega, by omega, by omega, rfl, by first | rfl | simp, rfl⟩
              case round =>
                obtain ⟨k4, z4, hk4, hz4a, hz4b, rfl, rfl, rfl⟩ := hrel
                by_cases hlt4 : k4 < os.length
                · obtain ⟨g, off, e, hp⟩ := H4.out k4 hlt4
                  cases e
                  obtain ⟨q0, q1, q2⟩ := hp
                  have ob := O4.out _ (mem_getD' hlt4)
                  have od := ob.2.1
                  have oe := ob.2.2
                  unfold maxLen at od oe
                  clear ob
                  generalize os.getD k4 pk0 = l at q0 q1 q2 od oe
                  go_wp2
                  all_goals first
                    | (go_ret; exact GateOk.no HBB.out)
                    | (go_round
                       case rel => exact ⟨k4 + 1, _, by omega, by omega, by omega, rfl, rfl, by go_num⟩
                       case measure => simp [intOf]; omega)
                · obtain rfl : k4 = os.length := by omega
                  go_wp2
                  all_goals first | (go_ret; exact GateOk.no HBB.out) | skip
                  go_loop [16, 17, 22] (fun r z i => ∃ (k : Nat) (zn : Int), k ≤ qs.length ∧ 0 ≤ zn ∧ zn ≤ 1048576 ∧ r = .bool false ∧ z = .int .i64 zn ∧ i = .int .i64 k) (fun _ _ i => qs.length - (intOf i).toNat)
                  case atStart => exact ⟨0, z4 + qs.length, by omega, by omega, by omega, rfl, by first | rfl | simp, rfl⟩
                  case round =>
                    obtain ⟨k5, z5, hk5, hz5a, hz5b, rfl, rfl, rfl⟩ := hrel
                    by_cases hlt5 : k5 < qs.length
                    · obtain ⟨g, off, e, hp⟩ := H5.out k5 hlt5
                      cases e
                      obtain ⟨q0, q1, q2⟩ := hp
                      have ob := O5.out _ (mem_getD' hlt5)
                      have od := ob.2.1
                      have oe := ob.2.2
                      unfold maxLen at od oe
                      clear ob
                      generalize qs.getD k5 pk0 = l at q0 q1 q2 od oe
                      go_wp2
                      all_goals first
                        | (go_ret; exact GateOk.no HBB.out)
                        | (go_round
                           case rel => exact ⟨k5 + 1, _, by omega, by omega, by omega, rfl, rfl, by go_num⟩
                           case measure => simp [intOf]; omega)
                    · obtain rfl : k5 = qs.length := by omega
                      go_wp2
                      all_goals first | (go_ret; exact GateOk.no HBB.out) | (go_ret; exact GateOk.yes HN.out HBB.out)
end Go.Proofs.Qxb6604404a
