import Derived.Test.Qxb6604404aFuncs
namespace Go.Proofs.Qxb6604404a
open Go.RowKit
set_option linter.unusedVariables false
set_option linter.unusedSectionVars false
variable [DecidableEq Pk]

/-- Does the index list under p? -/
def lists (ks : List Pk) (p : Pk) : Bool := if p.b = 3 then false else if p.b = 2 ∨ p.b = 5 then decide ((⟨p.b, p.nm, ⟨#[]⟩⟩ : Pk) ∈ ks) else true

set_option maxRecDepth 100000 in
set_option maxHeartbeats 1600000 in
/-- '(*proxyIndex).lists' at a tag or a label. -/
theorem lists_tag (b : Int) (nm vl : ByteArray) (X b1 b2 n1 n2 : Nat) (ls : List Ls) (ks : List Pk) (w : World) (hI : Idx w X b1 b2 n1 n2 ls ks) (hp : (⟨b, nm, ⟨#[]⟩⟩ : Pk).ok) (hb : b = 2 ∨ b = 5) :
    Calls Try.prog 33 #[.pointer (some ⟨X, 0, none⟩), .agg #[.int .u8 b, .string nm, .string vl]] w fun e w' => e = .returned (.bool (decide ((⟨b, nm, ⟨#[]⟩⟩ : Pk) ∈ ks))) ∧ Below w.heap.size w w' := by
  have hbA : Below w.heap.size w (w.alloc (.cells #[.int .u8 b, .string nm, .string vl] 65)) := (Below.refl _ _).alloc (Nat.le_refl _) _
  have hnew := heap_alloc_new w (.cells #[.int .u8 b, .string nm, .string vl] 65)
  have hI2 := hI.below hbA
  have hlk : ∀ k, (Instr.lookup 56 (.map (some b2)) (.agg #[.int .u8 b, .string nm, .string ⟨#[]⟩]) false).run Try.prog ((w.alloc (.cells #[.int .u8 b, .string nm, .string vl] 65)).drewN k) = .ok (.bool (decide ((⟨b, nm, ⟨#[]⟩⟩ : Pk) ∈ ks))) ((w.alloc (.cells #[.int .u8 b, .string nm, .string vl] 65)).drewN k) := fun k => MapK.lookup (w := (w.alloc (.cells #[.int .u8 b, .string nm, .string vl] 65)).drewN k) (MapK.kept hI2.2.2 rfl) hp
  have HX := hI2.c3
  generalize (decide ((⟨b, nm, ⟨#[]⟩⟩ : Pk) ∈ ks)) = r at hlk ⊢
  rcases hb with rfl | rfl
  · go_enter Try.func33, Try.ntmps33
    go_wp2
    generalize hwA : w.alloc (.cells #[.int .u8 2, .string nm, .string vl] 65) = wA at hbA hnew hlk HX ⊢
    have p0 : wA.cell? ⟨w.heap.size, 0, none⟩ = some (.int .u8 2) := by rw [cell_of_row wA _ 0 _ 65 _ hnew]; rfl
    have p1 : wA.cell? ⟨w.heap.size, 1, none⟩ = some (.string nm) := by rw [cell_of_row wA _ 1 _ 65 _ hnew]; rfl
    clear hI hI2 hnew hwA
    go_quiet (fail)
    go_wp2
    go_ret
    refine ⟨by simp, ?_⟩
    first | exact hbA | exact below_drewN hbA _
  · go_enter Try.func33, Try.ntmps33
    go_wp2
    generalize hwA : w.alloc (.cells #[.int .u8 5, .string nm, .string vl] 65) = wA at hbA hnew hlk HX ⊢
    have p0 : wA.cell? ⟨w.heap.size, 0, none⟩ = some (.int .u8 5) := by rw [cell_of_row wA _ 0 _ 65 _ hnew]; rfl
    have p1 : wA.cell? ⟨w.heap.size, 1, none⟩ = some (.string nm) := by rw [cell_of_row wA _ 1 _ 65 _ hnew]; rfl
    clear hI hI2 hnew hwA
    go_quiet (fail)
    go_wp2
    go_ret
    refine ⟨by simp, ?_⟩
    first | exact hbA | exact below_drewN hbA _

set_option maxRecDepth 100000 in
set_option maxHeartbeats 1600000 in
/-- '(*proxyIndex).lists'. -/
theorem lists_walk (p : Pk) (X b1 b2 n1 n2 : Nat) (ls : List Ls) (ks : List Pk) (w : World) (hI : Idx w X b1 b2 n1 n2 ls ks) (hp : p.ok) :
    Calls Try.prog 33 #[.pointer (some ⟨X, 0, none⟩), .agg #[.int .u8 p.b, .string p.nm, .string p.vl]] w fun e w' => e = .returned (.bool (lists ks p)) ∧ Below w.heap.size w w' := by
  obtain ⟨b, nm, vl⟩ := p
  simp only at hp ⊢
  by_cases h3 : b = 3
  · subst h3
    go_enter Try.func33, Try.ntmps33
    go_wp2
    go_ret
    exact ⟨by simp [lists], (Below.refl _ _).alloc (Nat.le_refl _) _⟩
  · by_cases h25 : b = 2 ∨ b = 5
    · have hL : lists ks ⟨b, nm, vl⟩ = decide ((⟨b, nm, ⟨#[]⟩⟩ : Pk) ∈ ks) := by simp only [lists]; rw [if_neg h3, if_pos h25]
      rw [hL]
      exact lists_tag b nm vl X b1 b2 n1 n2 ls ks w hI ⟨hp.1, hp.2.1, Nat.zero_le _⟩ h25
    · have h2 : b ≠ 2 := fun e => h25 (.inl e)
      have h5 : b ≠ 5 := fun e => h25 (.inr e)
      have hL : lists ks ⟨b, nm, vl⟩ = true := by simp only [lists]; rw [if_neg h3, if_neg h25]
      clear h25
      go_enter Try.func33, Try.ntmps33
      go_wp2
      go_ret
      exact ⟨by rw [hL]; rfl, (Below.refl _ _).alloc (Nat.le_refl _) _⟩
end Go.Proofs.Qxb6604404a
