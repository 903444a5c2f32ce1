import Derived.Test.Qxb6604363aSlots
namespace Go.Proofs.Qxb6604363a
open Go.RowKit
set_option linter.unusedVariables false
/-! ### THE WALK OF 'FnSlotLayoutTilesExactly' inside its bounds: four loops over one row of bools -/
theorem Try.info4 : (Try.prog.info? 4).map (fun i => (i.zero, i.size, i.bytes)) = some (some (.bool false), 1, 1) := by kernel_rfl

def f1 (k : Nat) : Nat → Bool := fun i => decide (i % 3 ≠ 0 ∧ i < 3 * k)
def f2 (G k : Nat) : Nat → Bool := fun i => decide ((i % 3 ≠ 0 ∧ i < 3 * (G + 1)) ∨ (i % 3 = 0 ∧ i < 3 * k))
def f3 (G k : Nat) : Nat → Bool := fun i => decide (i < 3 * (G + 1) + k)

def prev2 (k : Nat) : Int := 3 * (k : Int) - (if k = 0 then 1 else 3)
theorem f1_step (k i : Nat) : ((f1 k i || i == 3 * k + 1) || i == 3 * k + 2) = f1 (k + 1) i := by
  rw [Bool.eq_iff_iff]; simp [f1]; omega

theorem prev2_lt (k : Nat) : prev2 k < 3 * (k : Int) := by unfold prev2; split <;> omega
theorem prev2_succ (k : Nat) : prev2 (k + 1) = 3 * (k : Int) := by unfold prev2; simp; omega
def prev3 (G k : Nat) : Int := 3 * (G + 1) + (k : Int) - (if k = 0 then 3 else 1)
theorem prev3_lt (G k : Nat) : prev3 G k < 3 * ((G : Int) + 1) + k := by unfold prev3; split <;> omega
theorem prev3_zero (G : Nat) : prev3 G 0 = 3 * (G : Int) := by unfold prev3; simp; omega
theorem prev3_succ (G k : Nat) : prev3 G (k + 1) = 3 * ((G : Int) + 1) + k := by unfold prev3; simp; omega
theorem f2_step (G k i : Nat) (h : k ≤ G) : (f2 G k i || i == 3 * k) = f2 G (k + 1) i := by
  rw [Bool.eq_iff_iff]; simp [f2]; omega
theorem f12 (G i : Nat) : f1 (G + 1) i = f2 G 0 i := by
  rw [Bool.eq_iff_iff]; simp [f2, f1]
theorem f23 (G i : Nat) : f2 G (G + 1) i = f3 G 0 i := by
  rw [Bool.eq_iff_iff]; simp [f2, f3]; omega
theorem f3_step (G k i : Nat) : (f3 G k i || i == 3 * (G + 1) + k) = f3 G (k + 1) i := by
  rw [Bool.eq_iff_iff]; simp [f3]; omega
set_option maxRecDepth 100000 in
set_option maxHeartbeats 1000000 in
theorem tiles_walk (G M : Nat) (hG : G ≤ 65536) (hM : M ≤ 65536) (w : World) :
    Calls Try.prog 7 #[.int .i64 G, .int .i64 M] w fun e w' => e = .returned (.bool true) ∧ Below w.heap.size w w' := by
  have c1 : ¬ ((G : Int) < 0) := by omega
  have c2 : ¬ ((65536 : Int) < G) := by omega
  have c3 : ¬ ((M : Int) < 0) := by omega
  have c4 : ¬ ((65536 : Int) < M) := by omega
  obtain ⟨i0, hi, hz0, hz1, hz2⟩ := info_parts Try.info4
  go_enter Try.func7, Try.ntmps7
  go_wp2_with (first | (at_make; go_must (refine wpList_make_full _ rfl _ _ 34 rfl w.heap.size 4 i0 (.bool false) 1 Try.underlying34 hi hz0 hz1 .i64 .i64 _ _ (3 * (G + 1) + M) rfl rfl (by omega) (by omega) ?c1 ?c2 (Nat.le_refl _) ?_)))
  case c1 => omega
  case c2 => unfold maxLen; omega
  intro w1 hown hgr
  have hs1 : Seen w1 w.heap.size (3 * (G + 1) + M) (fun _ => false) := seen_made hown
  have hb1 : Below w.heap.size w w1 := (Below.refl _ _).grown hgr (Nat.le_refl _) (fun k h => by cases h)
  clear hown hgr
  go_wp2
  go_loopw [7] (fun i wr => ∃ k : Nat, k ≤ G + 1 ∧ i = .int .i64 k ∧ Seen wr w.heap.size (3 * (G + 1) + M) (f1 k) ∧ Below w.heap.size w wr) (fun i _ => G + 1 - (intOf i).toNat)
  case atStart => exact ⟨0, by omega, rfl, hs1.congr (fun i _ => by simp [f1]), hb1⟩
  case round =>
    obtain ⟨k, hk, rfl, hs, hb⟩ := hrel
    clear hs1 hb1
    by_cases hlt : k ≤ G
    · have hz1 : wr.frozen? ⟨w.heap.size, 3 * k + 1, none⟩ = false := hs.frozen _
      have hz2 : wr.frozen? ⟨w.heap.size, 3 * k + 2, none⟩ = false := hs.frozen _
      have hc1 := hs.cell (i := 3 * k + 1) (by omega)
      have hc2 := hs.cell (i := 3 * k + 2) (by omega)
      go_wp2
      go_roundw
      case rel => exact ⟨k + 1, by omega, by go_num, ((hs.store (3 * k + 1)).store (3 * k + 2)).congr (fun i _ => f1_step k i), (hb.setCell (Nat.le_refl _) _).setCell (Nat.le_refl _) _⟩
      case measure => simp [intOf]; omega
    · have hs' : Seen wr w.heap.size (3 * (G + 1) + M) (f2 G 0) := hs.congr (fun i _ => by rw [show k = G + 1 from by omega]; exact f12 G i)
      clear hs
      go_wp2
      go_loopw [4, 8, 9, 10] (fun r p i s wr => ∃ k : Nat, k ≤ G + 1 ∧ r = .bool false ∧ i = .int .i64 k ∧ p = .int .i64 (prev2 k) ∧ Seen wr w.heap.size (3 * (G + 1) + M) (f2 G k) ∧ Below w.heap.size w wr) (fun _ _ i _ _ => G + 1 - (intOf i).toNat)
      case atStart => exact ⟨0, by omega, rfl, rfl, rfl, hs', hb⟩
      case round =>
        clear hs' hb
        obtain ⟨k2, hk, rfl, rfl, rfl, hs, hb⟩ := hrel
        by_cases hlt : k2 ≤ G
        · go_wp2_with fail
          refine (slotOpen_any _ _ _ (by omega) (by omega)).mono ?_
          rintro e w2 ⟨rfl, hb2⟩
          have hs2 := hs.below hb2 hs.lt
          have hbb := hb.trans (hb2.mono hb.size)
          have hz1 : w2.frozen? ⟨w.heap.size, 3 * k2, none⟩ = false := hs2.frozen _
          have hc1 := hs2.cell (i := 3 * k2) (by omega)
          have hp := prev2_lt k2
          have e2 : f2 G k2 (3 * k2) = false := by simp [f2]
          rw [e2] at hc1
          clear hs hb hb2 e2
          go_wp2
          go_roundw
          case rel => exact ⟨k2 + 1, by omega, rfl, by go_num, by rw [prev2_succ], (hs2.store (3 * k2)).congr (fun i _ => f2_step G k2 i hlt), hbb.setCell (Nat.le_refl _) _⟩
          case measure => simp [intOf]; omega
        · have hs' : Seen wr w.heap.size (3 * (G + 1) + M) (f3 G 0) := hs.congr (fun i _ => by rw [show k2 = G + 1 from by omega]; exact f23 G i)
          clear hs
          have hp : prev2 k2 = 3 * (G : Int) := by rw [show k2 = G + 1 from by omega, prev2_succ]
          rw [hp]
          clear hp
          go_wp2_with fail
          go_loopw [4, 8, 11, 12] (fun r p i s wr => ∃ k : Nat, k ≤ M ∧ r = .bool false ∧ i = .int .i64 k ∧ p = .int .i64 (prev3 G k) ∧ Seen wr w.heap.size (3 * (G + 1) + M) (f3 G k) ∧ Below w.heap.size w wr) (fun _ _ i _ _ => M - (intOf i).toNat)
          case atStart => exact ⟨0, by omega, rfl, rfl, by rw [prev3_zero], hs', hb⟩
          case round =>
            clear hs' hb
            obtain ⟨k3, hk, rfl, rfl, rfl, hs, hb⟩ := hrel
            by_cases hlt : k3 < M
            · go_wp2_with fail
              refine (slotMark_any _ _ _ (by omega) (by omega) (by omega) (by omega)).mono ?_
              rintro e w2 ⟨rfl, hb2⟩
              have hs2 := hs.below hb2 hs.lt
              have hbb := hb.trans (hb2.mono hb.size)
              have hz1 : w2.frozen? ⟨w.heap.size, 3 * (G + 1) + k3, none⟩ = false := hs2.frozen _
              have hc1 := hs2.cell (i := 3 * (G + 1) + k3) (by omega)
              have hp := prev3_lt G k3
              have e2 : f3 G k3 (3 * (G + 1) + k3) = false := by simp [f3]
              rw [e2] at hc1
              clear hs hb hb2 e2
              go_wp2
              go_roundw
              case rel => exact ⟨k3 + 1, by omega, rfl, by go_num, by rw [prev3_succ], (hs2.store (3 * (G + 1) + k3)).congr (fun i _ => f3_step G k3 i), hbb.setCell (Nat.le_refl _) _⟩
              case measure => simp [intOf]; omega
            · have hkM : k3 = M := by omega
              subst hkM
              go_wp2_with fail
              go_loopw [4, 13] (fun r i wr => ∃ j : Nat, j ≤ 3 * (G + 1) + k3 ∧ r = .bool false ∧ i = .int .i64 j ∧ Seen wr w.heap.size (3 * (G + 1) + k3) (f3 G k3) ∧ Below w.heap.size w wr) (fun _ i _ => 3 * (G + 1) + k3 - (intOf i).toNat)
              case atStart => exact ⟨0, by omega, rfl, rfl, hs, hb⟩
              case round =>
                clear hs hb
                obtain ⟨j, hj, rfl, rfl, hs, hb⟩ := hrel
                by_cases hlt : j < 3 * (G + 1) + k3
                · have hc1 := hs.cell (i := j) (by omega)
                  have e2 : f3 G k3 j = true := by simp [f3]; omega
                  rw [e2] at hc1
                  clear e2
                  go_wp2
                  go_roundw
                  case rel => exact ⟨j + 1, by omega, rfl, by go_num, hs, hb⟩
                  case measure => simp [intOf]; omega
                · go_wp2_with fail
                  go_ret
                  exact ⟨rfl, hb⟩
end Go.Proofs.Qxb6604363a
