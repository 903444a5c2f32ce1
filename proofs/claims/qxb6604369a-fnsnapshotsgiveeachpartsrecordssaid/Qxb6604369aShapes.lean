import Derived.Test.Qxb6604369aProg
import Derived.WalkKit
import Derived.ProofKit
import Derived.RegionTactic
import Derived.ChangeAlike
import Derived.Deep.QuietTactic
import Derived.BigQuiet
import Derived.WalkSmall
import Derived.WalkSpells
import Derived.WalkLawsBesides
import Derived.Lib.SliceRun
namespace Go.Proofs.Qxb6604369a
open Go.RowKit
set_option linter.unusedVariables false

/-! ### THE SHAPE OF A SLICE THAT CAN BE READ: at most L elements, each of them in a cell, each as E says -/
def Sh (w : World) (E : Value → Prop) (L : Nat) (v : Value) : Prop :=
  ∃ ao len cap, v = .slice ao len cap ∧ len ≤ L ∧ (ao = none → len = 0 ∧ cap = 0) ∧ ∀ i, i < len → ∃ b off u, ao = some ⟨b, off, none⟩ ∧ w.cell? ⟨b, off + i, none⟩ = some u ∧ E u
def Byte (u : Value) : Prop := ∃ n, u = .int .u8 n
def Sh1 (w : World) (L : Nat) : Value → Prop := Sh w Byte L
def Sh2 (w : World) (L M : Nat) : Value → Prop := Sh w (Sh1 w M) L
def Sh3 (w : World) (L M N : Nat) : Value → Prop := Sh w (Sh2 w M N) L

/-- It answers a bool of which R holds. -/
def Ans (e : Ending) (R : Bool → Prop) : Prop := ∃ b, e = .returned (.bool b) ∧ R b

theorem lt_of_cell {w : World} {a : Addr} {u : Value} (h : w.cell? a = some u) : a.block < w.heap.size := block_lt_of_cell h
theorem Sh.below {w w' : World} {E E' : Value → Prop} {L : Nat} {v : Value} (h : Sh w E L v) (hb : Below w.heap.size w w') (he : ∀ u, E u → E' u) : Sh w' E' L v := by
  obtain ⟨ao, len, cap, e, hl, hn, hc⟩ := h
  refine ⟨ao, len, cap, e, hl, hn, fun i hi => ?_⟩
  obtain ⟨b, off, u, e1, e2, e3⟩ := hc i hi
  exact ⟨b, off, u, e1, (hb.cell (p := ⟨b, off + i, none⟩) (lt_of_cell e2)).trans e2, he u e3⟩
theorem Sh1.below {w w' : World} {L : Nat} {v : Value} (h : Sh1 w L v) (hb : Below w.heap.size w w') : Sh1 w' L v := Sh.below h hb (fun _ h => h)
theorem Sh2.below {w w' : World} {L M : Nat} {v : Value} (h : Sh2 w L M v) (hb : Below w.heap.size w w') : Sh2 w' L M v := Sh.below h hb (fun _ h => Sh1.below h hb)
theorem Sh3.below {w w' : World} {L M N : Nat} {v : Value} (h : Sh3 w L M N v) (hb : Below w.heap.size w w') : Sh3 w' L M N v := Sh.below h hb (fun _ h => Sh2.below h hb)

set_option maxRecDepth 100000 in
set_option maxHeartbeats 1600000 in
/-- The gate of FnSnapshotsTakenOnceInOrder: it answers, and changes nothing. -/
theorem gate18 (v : Value) (w : World) (h : Sh3 w 9223372036854775807 9223372036854775807 9223372036854775807 v) :
    Calls Try.prog 18 #[v] w fun e w' => Ans e (fun _ => True) ∧ w' = w := by
  obtain ⟨ao, n, cap, rfl, hn, hnil, hc⟩ := h
  clear hnil
  by_cases hbig : 1048576 < n
  · go_enter Try.func18, Try.ntmps18
    go_wp2_with fail
    go_ret
    exact ⟨⟨_, rfl, trivial⟩, rfl⟩
  · go_enter Try.func18, Try.ntmps18
    go_wp2_with fail
    go_loop [2, 3, 4, 5] (fun r z i j => ∃ (k : Nat) (zn : Int), k ≤ n ∧ 0 ≤ zn ∧ zn ≤ 1048576 ∧ r = .bool false ∧ z = .int .i64 zn ∧ i = .int .i64 k) (fun _ _ i _ => n - (intOf i).toNat)
    case atStart => exact ⟨0, n, by omega, by omega, by omega, rfl, by simp, rfl⟩
    case round =>
      obtain ⟨k, zn, hk, hz0, hz1, rfl, rfl, rfl⟩ := hrel
      by_cases hlt : k < n
      · obtain ⟨b, off, u, e1, hcell, a2, n2, c2, rfl, hn2, _, hc2⟩ := hc k hlt
        cases e1
        by_cases h2 : 1048576 < n2
        · go_wp2_with fail
          go_ret
          exact ⟨⟨_, rfl, trivial⟩, rfl⟩
        · by_cases h3 : 1048576 < zn + n2
          · go_wp2_with fail
            go_ret
            exact ⟨⟨_, rfl, trivial⟩, rfl⟩
          · go_wp2_with fail
            go_loop [2, 3, 5] (fun r z j => ∃ (k' : Nat) (zn : Int), k' ≤ n2 ∧ 0 ≤ zn ∧ zn ≤ 1048576 ∧ r = .bool false ∧ z = .int .i64 zn ∧ j = .int .i64 k') (fun _ _ j => n2 - (intOf j).toNat)
            case atStart => exact ⟨0, zn + n2, by omega, by omega, by omega, rfl, rfl, rfl⟩
            case round =>
              obtain ⟨k', zn', hk', hz0', hz1', rfl, rfl, rfl⟩ := hrel
              by_cases hlt' : k' < n2
              · obtain ⟨b2, off2, u2, e2, hcell2, a3, n3, c3, rfl, hn3, _, hc3⟩ := hc2 k' hlt'
                cases e2
                by_cases h4 : 1048576 < n3
                · go_wp2_with fail
                  go_ret
                  exact ⟨⟨_, rfl, trivial⟩, rfl⟩
                · by_cases h5 : 1048576 < zn' + n3
                  · go_wp2_with fail
                    go_ret
                    exact ⟨⟨_, rfl, trivial⟩, rfl⟩
                  · go_wp2
                    go_round
                    case rel => exact ⟨k' + 1, zn' + n3, by omega, by omega, by omega, rfl, rfl, by go_num⟩
                    case measure => simp [intOf]; omega
              · go_wp2
                go_round
                case rel => exact ⟨k + 1, zn', by omega, by omega, by omega, rfl, rfl, by go_num⟩
                case measure => simp [intOf]; omega
      · go_wp2_with fail
        go_ret
        exact ⟨⟨_, rfl, trivial⟩, rfl⟩
set_option maxRecDepth 100000 in
set_option maxHeartbeats 1600000 in
/-- The gate of FnSnapshotsGiveEachPartsRecords: it answers, and changes nothing. -/
theorem gate14 (v : Value) (w : World) (h : Sh3 w 9223372036854775807 9223372036854775807 9223372036854775807 v) :
    Calls Try.prog 14 #[v] w fun e w' => Ans e (fun _ => True) ∧ w' = w := by
  obtain ⟨ao, n, cap, rfl, hn, hnil, hc⟩ := h
  clear hnil
  by_cases hbig : 1048576 < n
  · go_enter Try.func14, Try.ntmps14
    go_wp2_with fail
    go_ret
    exact ⟨⟨_, rfl, trivial⟩, rfl⟩
  · go_enter Try.func14, Try.ntmps14
    go_wp2_with fail
    go_loop [2, 3, 4, 5] (fun r z i j => ∃ (k : Nat) (zn : Int), k ≤ n ∧ 0 ≤ zn ∧ zn ≤ 1048576 ∧ r = .bool false ∧ z = .int .i64 zn ∧ i = .int .i64 k) (fun _ _ i _ => n - (intOf i).toNat)
    case atStart => exact ⟨0, n, by omega, by omega, by omega, rfl, by simp, rfl⟩
    case round =>
      obtain ⟨k, zn, hk, hz0, hz1, rfl, rfl, rfl⟩ := hrel
      by_cases hlt : k < n
      · obtain ⟨b, off, u, e1, hcell, a2, n2, c2, rfl, hn2, _, hc2⟩ := hc k hlt
        cases e1
        by_cases h2 : 1048576 < n2
        · go_wp2_with fail
          go_ret
          exact ⟨⟨_, rfl, trivial⟩, rfl⟩
        · by_cases h3 : 1048576 < zn + n2
          · go_wp2_with fail
            go_ret
            exact ⟨⟨_, rfl, trivial⟩, rfl⟩
          · go_wp2_with fail
            go_loop [2, 3, 5] (fun r z j => ∃ (k' : Nat) (zn : Int), k' ≤ n2 ∧ 0 ≤ zn ∧ zn ≤ 1048576 ∧ r = .bool false ∧ z = .int .i64 zn ∧ j = .int .i64 k') (fun _ _ j => n2 - (intOf j).toNat)
            case atStart => exact ⟨0, zn + n2, by omega, by omega, by omega, rfl, rfl, rfl⟩
            case round =>
              obtain ⟨k', zn', hk', hz0', hz1', rfl, rfl, rfl⟩ := hrel
              by_cases hlt' : k' < n2
              · obtain ⟨b2, off2, u2, e2, hcell2, a3, n3, c3, rfl, hn3, _, hc3⟩ := hc2 k' hlt'
                cases e2
                by_cases h4 : 1048576 < n3
                · go_wp2_with fail
                  go_ret
                  exact ⟨⟨_, rfl, trivial⟩, rfl⟩
                · by_cases h5 : 1048576 < zn' + n3
                  · go_wp2_with fail
                    go_ret
                    exact ⟨⟨_, rfl, trivial⟩, rfl⟩
                  · go_wp2
                    go_round
                    case rel => exact ⟨k' + 1, zn' + n3, by omega, by omega, by omega, rfl, rfl, by go_num⟩
                    case measure => simp [intOf]; omega
              · go_wp2
                go_round
                case rel => exact ⟨k + 1, zn', by omega, by omega, by omega, rfl, rfl, by go_num⟩
                case measure => simp [intOf]; omega
      · go_wp2_with fail
        go_ret
        exact ⟨⟨_, rfl, trivial⟩, rfl⟩
end Go.Proofs.Qxb6604369a
