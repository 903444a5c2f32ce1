import Derived.Test.Qxb6604369aSnaps
namespace Go.Proofs.Qxb6604369a
open Go.RowKit
set_option linter.unusedVariables false

/-- The elements of a nested slice, by name. -/
theorem elems_of {w : World} {L M N : Nat} {v : Value} (h : Sh3 w L M N v) : ∃ ao n cap V, v = .slice ao n cap ∧ n ≤ L ∧ (ao = none → n = 0 ∧ cap = 0) ∧ Elems w ao n V ∧ ∀ j, j < n → Sh2 w M N (V j) := by
  obtain ⟨ao, n, cap, rfl, hn, hnil, hc⟩ := h
  refine ⟨ao, n, cap, fun j => match ao with | some a => (w.cell? ⟨a.block, a.off + j, none⟩).getD undef | none => undef, rfl, hn, hnil, fun j hj => ?_, fun j hj => ?_⟩
  · obtain ⟨b, off, u, rfl, hu, a, l, c, rfl, _⟩ := hc j hj
    exact ⟨b, off, a, l, c, rfl, hu, by simp [hu]⟩
  · obtain ⟨b, off, u, rfl, hu, hs⟩ := hc j hj
    simpa [hu] using hs

theorem owns_some {w : World} {base : Nat} {e : TypeId} {v : Value} {n : Nat} {xs : List Value} (h : w.ownsRow base e 1 v n xs) {k : Nat} (hk : k < n) : ∃ g cap, v = .slice (some ⟨g, 0, none⟩) n cap ∧ w.cell? ⟨g, k, none⟩ = xs[k]? := by
  have h' := h
  obtain ⟨_, h2⟩ := h
  rcases h2 with ⟨_, h3⟩ | ⟨g', cap', cur', hv, _⟩
  · omega
  · subst hv
    exact ⟨g', cap', rfl, h'.cellAt k (by omega)⟩

set_option maxRecDepth 100000 in
set_option maxHeartbeats 3200000 in
theorem law6 (v : Value) (w : World) (h : Sh3 w 9223372036854775807 9223372036854775807 9223372036854775807 v) :
    Calls Try.prog 6 #[v] w fun e w' => e = .returned (.bool true) ∧ Below w.heap.size w w' := by
  go_enter Try.func6, Try.ntmps6
  go_wp2_with fail
  refine (gate18 v _ h).mono ?_
  rintro e w0 ⟨⟨b, rfl, _⟩, rfl⟩
  cases b
  · go_wp2_with fail
    go_ret
    exact ⟨rfl, Below.refl _ _⟩
  go_wp2_with fail
  refine (tooBig v _ h).mono ?_
  rintro e w1 ⟨⟨b, rfl, hs⟩, rfl⟩
  cases b
  rotate_left
  · go_wp2_with fail
    go_ret
    exact ⟨rfl, Below.refl _ _⟩
  have hs3 := hs rfl
  clear hs h
  go_wp2_with fail
  refine (clone_nested v _ hs3).mono ?_
  rintro e w2 ⟨v2, rfl, hs2, hb2⟩
  obtain ⟨ao, n, cap, V, rfl, hn, hnil, hel, hsh⟩ := elems_of hs2
  clear hs3 hs2 hnil hsh
  go_wp2_with fail
  refine (zz_snapshots ao n cap V _ hn hel).mono ?_
  rintro e w3 ⟨gv, tv, rfl, hg, ht, hb3⟩
  obtain ⟨ga, gc, rfl⟩ := owns_form hg
  obtain ⟨ta, tc, rfl⟩ := owns_form ht
  have hbf := hb2.trans (hb3.mono hb2.size)
  clear hel hg hb2 hb3
  go_wp2_with fail
  go_loop [2, 5] (fun r i => ∃ k : Nat, k ≤ n ∧ r = .bool false ∧ i = .int .i64 k) (fun _ i => n - (intOf i).toNat)
  case atStart => exact ⟨0, by omega, rfl, rfl⟩
  case round =>
    obtain ⟨k, hk, rfl, rfl⟩ := hrel
    by_cases hlt : k < n
    · obtain ⟨g, c, e1, hc⟩ := owns_some ht hlt
      simp only [Value.slice.injEq] at e1
      obtain ⟨rfl, _, rfl⟩ := e1
      have hc' : w3.cell? ⟨g, k, none⟩ = some (.int .i64 k) := by rw [hc]; simp [upTo, hlt]
      clear hc
      go_wp2
      go_round
      case rel => exact ⟨k + 1, by omega, rfl, by go_num⟩
      case measure => simp [intOf]; omega
    · go_wp2_with fail
      go_ret
      exact ⟨rfl, hbf⟩
end Go.Proofs.Qxb6604369a
