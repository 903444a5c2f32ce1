import Derived.Test.Qxb6604369aShapes
namespace Go.Proofs.Qxb6604369a
open Go.RowKit
set_option linter.unusedVariables false

/-- The first k elements of the slice at ao are as E says. -/
def Upto (w : World) (E : Value → Prop) (ao : Option Addr) (k : Nat) : Prop := ∀ i, i < k → ∃ b off u, ao = some ⟨b, off, none⟩ ∧ w.cell? ⟨b, off + i, none⟩ = some u ∧ E u
theorem Upto.snoc {w : World} {E : Value → Prop} {b off k : Nat} {u : Value} (h : Upto w E (some ⟨b, off, none⟩) k) (hc : w.cell? ⟨b, off + k, none⟩ = some u) (he : E u) : Upto w E (some ⟨b, off, none⟩) (k + 1) := fun i hi => by
  by_cases e : i < k
  · exact h i e
  · obtain rfl : i = k := by omega
    exact ⟨b, off, u, rfl, hc, he⟩

set_option maxRecDepth 100000 in
set_option maxHeartbeats 1600000 in
/-- 'zzNestedTooBig': where it says no, every length is small. -/
theorem tooBig (v : Value) (w : World) (h : Sh3 w 9223372036854775807 9223372036854775807 9223372036854775807 v) :
    Calls Try.prog 15 #[v] w fun e w' => Ans e (fun b => b = false → Sh3 w 65536 131072 1048576 v) ∧ w' = w := by
  obtain ⟨ao, n, cap, rfl, hn, hnil, hc⟩ := h
  have HN : Hid (ao = none → n = 0 ∧ cap = 0) := hnil
  clear hnil
  by_cases hbig : 65536 < n
  · go_enter Try.func15, Try.ntmps15
    go_wp2_with fail
    go_ret
    exact ⟨⟨_, rfl, fun h => by cases h⟩, rfl⟩
  · go_enter Try.func15, Try.ntmps15
    go_wp2_with fail
    go_loop [2, 3, 4, 5] (fun r z i j => ∃ (k : Nat) (zn : Int), k ≤ n ∧ 0 ≤ zn ∧ zn ≤ 1048576 ∧ r = .bool false ∧ z = .int .i64 zn ∧ i = .int .i64 k ∧ Upto w (Sh2 w 131072 1048576) ao k) (fun _ _ i _ => n - (intOf i).toNat)
    case atStart => exact ⟨0, 8 * n, by omega, by omega, by omega, rfl, rfl, rfl, fun i hi => by omega⟩
    case round =>
      obtain ⟨k, zn, hk, hz0, hz1, rfl, rfl, rfl, hup⟩ := hrel
      by_cases hlt : k < n
      · obtain ⟨b, off, u, e1, hcell, a2, n2, c2, rfl, hn2, hnil2, hc2⟩ := hc k hlt
        have HN2 : Hid (a2 = none → n2 = 0 ∧ c2 = 0) := hnil2
        clear hnil2
        cases e1
        by_cases h2 : 131072 < n2
        · go_wp2_with fail
          go_ret
          exact ⟨⟨_, rfl, fun h => by cases h⟩, rfl⟩
        · by_cases h3 : 1048576 < zn + 8 * n2
          · go_wp2_with fail
            go_ret
            exact ⟨⟨_, rfl, fun h => by cases h⟩, rfl⟩
          · go_wp2_with fail
            go_loop [2, 3, 5] (fun r z j => ∃ (k' : Nat) (zn : Int), k' ≤ n2 ∧ 0 ≤ zn ∧ zn ≤ 1048576 ∧ r = .bool false ∧ z = .int .i64 zn ∧ j = .int .i64 k' ∧ Upto w (Sh1 w 1048576) a2 k') (fun _ _ j => n2 - (intOf j).toNat)
            case atStart => exact ⟨0, zn + 8 * n2, by omega, by omega, by omega, rfl, rfl, rfl, fun i hi => by omega⟩
            case round =>
              obtain ⟨k', zn', hk', hz0', hz1', rfl, rfl, rfl, hup'⟩ := hrel
              by_cases hlt' : k' < n2
              · obtain ⟨b2, off2, u2, e2, hcell2, a3, n3, c3, rfl, hn3, hnil3, hc3⟩ := hc2 k' hlt'
                have HN3 : Hid (a3 = none → n3 = 0 ∧ c3 = 0) := hnil3
                clear hnil3
                cases e2
                by_cases h4 : 1048576 < n3
                · go_wp2_with fail
                  go_ret
                  exact ⟨⟨_, rfl, fun h => by cases h⟩, rfl⟩
                · by_cases h5 : 1048576 < zn' + n3
                  · go_wp2_with fail
                    go_ret
                    exact ⟨⟨_, rfl, fun h => by cases h⟩, rfl⟩
                  · go_wp2
                    go_round
                    case rel => exact ⟨k' + 1, zn' + n3, by omega, by omega, by omega, rfl, rfl, by go_num, hup'.snoc hcell2 ⟨a3, n3, c3, rfl, by omega, HN3.out, hc3⟩⟩
                    case measure => simp [intOf]; omega
              · go_wp2
                go_round
                case rel => exact ⟨k + 1, zn', by omega, by omega, by omega, rfl, rfl, by go_num, hup.snoc hcell ⟨a2, n2, c2, rfl, by omega, HN2.out, fun i hi => hup' i (by omega)⟩⟩
                case measure => simp [intOf]; omega
      · go_wp2_with fail
        go_ret
        exact ⟨⟨_, rfl, fun _ => ⟨ao, n, cap, rfl, by omega, HN.out, fun i hi => hup i (by omega)⟩⟩, rfl⟩
end Go.Proofs.Qxb6604369a
