import Derived.Test.Qxb6604404aMaps
namespace Go.Proofs.Qxb6604404a
open Go.RowKit
set_option linter.unusedVariables false
set_option linter.unusedSectionVars false
variable [DecidableEq Pk]
theorem Try.info60 : (Try.prog.info? 60).map (fun i => (i.zero, i.size, i.bytes)) = some (some (.agg #[.slice none 0 0, .map none, .slice none 0 0, .map none]), 4, 64) := by kernel_rfl

/-- The index at block X: its map of lists at b1, its map of names at b2. -/
def Idx (w : World) (X b1 b2 n1 n2 : Nat) (ls : List Ls) (ks : List Pk) : Prop :=
  w.heap[X]? = some (.cells #[.slice none 0 0, .map (some b1), .slice none 0 0, .map (some b2)] 60 (0, 0)) ∧ MapL w b1 n1 ls ∧ MapK w b2 n2 ks
theorem Idx.below {w w' : World} {X b1 b2 n1 n2 : Nat} {ls : List Ls} {ks : List Pk} (h : Idx w X b1 b2 n1 n2 ls ks) (hb : Below w.heap.size w w') : Idx w' X b1 b2 n1 n2 ls ks :=
  ⟨by rw [hb.block X (lt_of_heap h.1)]; exact h.1, h.2.1.below hb, h.2.2.below hb⟩
theorem Idx.drew {w : World} {X b1 b2 n1 n2 : Nat} {ls : List Ls} {ks : List Pk} (h : Idx w X b1 b2 n1 n2 ls ks) : Idx w.drew X b1 b2 n1 n2 ls ks := h
theorem Idx.c1 {w : World} {X b1 b2 n1 n2 : Nat} {ls : List Ls} {ks : List Pk} (h : Idx w X b1 b2 n1 n2 ls ks) : w.cell? ⟨X, 1, none⟩ = some (.map (some b1)) := by rw [cell_of_row w X 1 _ 60 _ h.1]; rfl
theorem Idx.c3 {w : World} {X b1 b2 n1 n2 : Nat} {ls : List Ls} {ks : List Pk} (h : Idx w X b1 b2 n1 n2 ls ks) : w.cell? ⟨X, 3, none⟩ = some (.map (some b2)) := by rw [cell_of_row w X 3 _ 60 _ h.1]; rfl
theorem Idx.addL {w : World} {X b1 b2 n1 n2 : Nat} {ls : List Ls} {ks : List Pk} (h : Idx w X b1 b2 n1 n2 ls ks) (h1 : b1 ≠ b2) (h2 : b1 ≠ X) (l : Ls) (hm : l.mesh.size ≤ maxLen) (hp : l.pk.ok) (hn : n1 < maxLen) (a : Option Addr) (c : Nat) :
    ∃ w', (Instr.mapUpdate 55 (.map (some b1)) (.agg #[.string l.mesh, .int .u8 l.pk.b, .string l.pk.nm, .string l.pk.vl]) (.slice a l.n c)).run Try.prog w = .ok () w' ∧ Idx w' X b1 b2 (n1 + 1) n2 (ls ++ [l]) ks ∧ w.grownBy w' (some b1) := by
  obtain ⟨w', hr, hm', hg⟩ := h.2.1.update l hm hp hn a c
  refine ⟨w', hr, ⟨?_, hm', h.2.2.kept (hg.block b2 h.2.2.lt (by simp; exact fun e => h1 e.symm))⟩, hg⟩
  rw [hg.block X (lt_of_heap h.1) (by simp; exact fun e => h2 e.symm)]; exact h.1
theorem Idx.addK {w : World} {X b1 b2 n1 n2 : Nat} {ls : List Ls} {ks : List Pk} (h : Idx w X b1 b2 n1 n2 ls ks) (h1 : b1 ≠ b2) (h2 : b2 ≠ X) (k : Pk) (hp : k.ok) (hn : n2 < maxLen) :
    ∃ w', (Instr.mapUpdate 56 (.map (some b2)) (.agg #[.int .u8 k.b, .string k.nm, .string k.vl]) (.bool true)).run Try.prog w = .ok () w' ∧ Idx w' X b1 b2 n1 (n2 + 1) ls (ks ++ [k]) ∧ w.grownBy w' (some b2) := by
  obtain ⟨w', hr, hm', hg⟩ := h.2.2.update k hp hn
  refine ⟨w', hr, ⟨?_, h.2.1.kept (hg.block b1 h.2.1.lt (by simp; exact fun e => h1 e)), hm'⟩, hg⟩
  rw [hg.block X (lt_of_heap h.1) (by simp; exact fun e => h2 e.symm)]; exact h.1
theorem below_grown {B : Nat} {w w1 w2 : World} (h : Below B w w1) {b : Nat} (hg : w1.grownBy w2 (some b)) (hs : B ≤ w1.heap.size) (hb : B ≤ b) : Below B w w2 := h.grown hg hs (fun k e => by cases e; exact hb)

def Held1 (w : World) (X b1 G : Nat) (l : Ls) (a : Option Addr) (c : Nat) : Prop := w.cell? ⟨X, 1, none⟩ = some (.map (some b1)) ∧ w.cell? ⟨G, 0, none⟩ = some (.string l.mesh) ∧ w.cell? ⟨G, 1, none⟩ = some (.int .u8 l.pk.b) ∧ w.cell? ⟨G, 2, none⟩ = some (.string l.pk.nm) ∧ w.cell? ⟨G, 3, none⟩ = some (.string l.pk.vl) ∧ w.cell? ⟨G, 4, none⟩ = some (.slice a l.n c)
theorem Held1.below {w w' : World} {X b1 G : Nat} {l : Ls} {a : Option Addr} {c : Nat} (h : Held1 w X b1 G l a c) (hb : ∀ b, b = X ∨ b = G → w'.heap[b]? = w.heap[b]?) : Held1 w' X b1 G l a c := by
  have e : ∀ i, w'.cell? ⟨G, i, none⟩ = w.cell? ⟨G, i, none⟩ := fun i => World.cell?_of_block (hb G (.inr rfl))
  have e' : ∀ i, w'.cell? ⟨X, i, none⟩ = w.cell? ⟨X, i, none⟩ := fun i => World.cell?_of_block (hb X (.inl rfl))
  exact ⟨(e' _).trans h.1, (e _).trans h.2.1, (e _).trans h.2.2.1, (e _).trans h.2.2.2.1, (e _).trans h.2.2.2.2.1, (e _).trans h.2.2.2.2.2⟩

def Held2 (w : World) (X b2 G : Nat) (p : Pk) : Prop := w.cell? ⟨X, 3, none⟩ = some (.map (some b2)) ∧ w.cell? ⟨G, 0, none⟩ = some (.int .u8 p.b) ∧ w.cell? ⟨G, 1, none⟩ = some (.string p.nm) ∧ w.cell? ⟨G, 2, none⟩ = some (.string p.vl)
theorem Held2.below {w w' : World} {X b1 G : Nat} {p : Pk} (h : Held2 w X b1 G p) (hb : ∀ b, b = X ∨ b = G → w'.heap[b]? = w.heap[b]?) : Held2 w' X b1 G p := by
  have e : ∀ i, w'.cell? ⟨G, i, none⟩ = w.cell? ⟨G, i, none⟩ := fun i => World.cell?_of_block (hb G (.inr rfl))
  have e' : ∀ i, w'.cell? ⟨X, i, none⟩ = w.cell? ⟨X, i, none⟩ := fun i => World.cell?_of_block (hb X (.inl rfl))
  exact ⟨(e' _).trans h.1, (e _).trans h.2.1, (e _).trans h.2.2.1, (e _).trans h.2.2.2⟩

set_option maxRecDepth 100000 in
set_option maxHeartbeats 3200000 in
/-- 'ZZnewProxyIndex'. -/
theorem new_index (aL aK : Option Addr) (cL cK : Nat) (ls : List Ls) (ks : List Pk) (w : World) (hnl : ls.length ≤ 4096) (hnk : ks.length ≤ 4096) (hl : Lists w aL ls) (hk : Picks w aK ks)
    (hol : ∀ i, i < ls.length → (ls.getD i ls0).mesh.size ≤ maxLen ∧ (ls.getD i ls0).pk.ok) (hok : ∀ i, i < ks.length → (ks.getD i pk0).ok) :
    Calls Try.prog 11 #[.slice aL ls.length cL, .slice aK ks.length cK] w fun e w' => ∃ X b1 b2, e = .returned (.pointer (some ⟨X, 0, none⟩)) ∧ Idx w' X b1 b2 ls.length ks.length ls ks ∧ Below w.heap.size w w' := by
  have hmm := @run_makeMap Try.prog
  go_enter Try.func11, Try.ntmps11
  go_wp2
  have hI0 : Idx (((w.alloc (.map #[] 0)).alloc (.map #[] 0)).alloc (.cells #[.slice none 0 0, .map (some w.heap.size), .slice none 0 0, .map (some (w.heap.size + 1))] 60)) (w.heap.size + 2) w.heap.size (w.heap.size + 1) 0 0 [] [] := by
    have e1 : (w.alloc (.map #[] 0)).heap.size = w.heap.size + 1 := by simp
    have e2 : ((w.alloc (.map #[] 0)).alloc (.map #[] 0)).heap.size = w.heap.size + 2 := by simp
    have hA := ((mapL_made w).below ((Below.refl _ _).alloc (Nat.le_refl _) (.map #[] 0))).below ((Below.refl _ _).alloc (Nat.le_refl _) (.cells #[.slice none 0 0, .map (some w.heap.size), .slice none 0 0, .map (some (w.heap.size + 1))] 60))
    have hB := (mapK_made (w.alloc (.map #[] 0))).below ((Below.refl _ _).alloc (Nat.le_refl _) (.cells #[.slice none 0 0, .map (some w.heap.size), .slice none 0 0, .map (some (w.heap.size + 1))] 60))
    rw [e1] at hB
    refine ⟨?_, hA, hB⟩
    have := heap_alloc_new ((w.alloc (.map #[] 0)).alloc (.map #[] 0)) (.cells #[.slice none 0 0, .map (some w.heap.size), .slice none 0 0, .map (some (w.heap.size + 1))] 60)
    rw [e2] at this
    exact this
  have hB0 : Below w.heap.size w (((w.alloc (.map #[] 0)).alloc (.map #[] 0)).alloc (.cells #[.slice none 0 0, .map (some w.heap.size), .slice none 0 0, .map (some (w.heap.size + 1))] 60)) := (((Below.refl _ _).alloc (Nat.le_refl _) _).alloc (by simp) _).alloc (by simp; omega) _
  go_loopw [16] (fun i wr => ∃ k : Nat, k ≤ ls.length ∧ i = .int .i64 k ∧ Idx wr (w.heap.size + 2) w.heap.size (w.heap.size + 1) k 0 (ls.take k) [] ∧ Below w.heap.size w wr) (fun i _ => ls.length - (intOf i).toNat)
  case atStart => exact ⟨0, by omega, rfl, hI0, hB0⟩
  case round =>
    clear hI0 hB0
    obtain ⟨k, hk', rfl, hI, hbw⟩ := hrel
    by_cases hlt : k < ls.length
    · obtain ⟨g, off, e, hp⟩ := hl k hlt
      cases e
      obtain ⟨hom, hop⟩ := hol k hlt
      obtain ⟨q0, ⟨q1, q2, q3⟩, a, c, q4⟩ := hp.below hbw (lt_of_cell hp.1)
      have htk : ls.take (k + 1) = ls.take k ++ [ls.getD k ls0] := by
        rw [List.take_add_one, List.getD_eq_getElem?_getD, List.getElem?_eq_getElem hlt]; rfl
      generalize ls.getD k ls0 = l at q0 q1 q2 q3 q4 hom hop htk
      have HTK : Hid (ls.take (k + 1) = ls.take k ++ [l]) := htk
      clear hp htk hmm
      go_wp2
      have hX := lt_of_heap hI.1
      have hbA : Below wr.heap.size wr (wr.alloc (.cells #[.string l.mesh, .int .u8 l.pk.b, .string l.pk.nm, .string l.pk.vl, .slice a l.n c] 62)) := (Below.refl _ _).alloc (Nat.le_refl _) _
      have hI2 := hI.below hbA
      have hb3 := below_step hbw hbA (by omega)
      have hnew := heap_alloc_new wr (.cells #[.string l.mesh, .int .u8 l.pk.b, .string l.pk.nm, .string l.pk.vl, .slice a l.n c] 62)
      generalize wr.alloc (.cells #[.string l.mesh, .int .u8 l.pk.b, .string l.pk.nm, .string l.pk.vl, .slice a l.n c] 62) = wA at hI2 hb3 hnew ⊢
      have hG : w.heap.size + 2 < wr.heap.size := hX
      generalize wr.heap.size = G at hnew hG ⊢
      clear hX hbA hI hbw q0 q1 q2 q3 q4
      have F0 : Hid (Held1 wA.drew (w.heap.size + 2) w.heap.size G l a c) := ⟨hI2.c1, by rw [cell_of_row wA.drew G 0 _ 62 _ hnew]; rfl, by rw [cell_of_row wA.drew G 1 _ 62 _ hnew]; rfl, by rw [cell_of_row wA.drew G 2 _ 62 _ hnew]; rfl, by rw [cell_of_row wA.drew G 3 _ 62 _ hnew]; rfl, by rw [cell_of_row wA.drew G 4 _ 62 _ hnew]; rfl⟩
      have F1 : Hid (∀ w2, Below wA.drew.heap.size wA.drew w2 → Held1 w2 (w.heap.size + 2) w.heap.size G l a c) := fun w2 hb2 => Held1.below F0 (fun b hb => hb2.block b (by have := lt_of_heap hnew; have : w.heap.size + 2 < wA.heap.size := lt_of_heap hI2.1; show b < wA.heap.size; omega))
      have FIN : Hid (∀ w2, Below wA.drew.heap.size wA.drew w2 → ∃ w3, (Instr.mapUpdate 55 (.map (some w.heap.size)) (.agg #[.string l.mesh, .int .u8 l.pk.b, .string l.pk.nm, .string l.pk.vl]) (.slice a l.n c)).run Try.prog w2 = .ok () w3 ∧ Hid (Held1 w3 (w.heap.size + 2) w.heap.size G l a c) ∧ Hid (Idx w3 (w.heap.size + 2) w.heap.size (w.heap.size + 1) (k + 1) 0 (ls.take k ++ [l]) [] ∧ Below w.heap.size w w3)) := fun w2 hb2 => by
        have hsz : w.heap.size + 2 < wA.heap.size := lt_of_heap hI2.1
        have hGs := lt_of_heap hnew
        obtain ⟨w3, hr, hI3, hg3⟩ := (Idx.below (w := wA.drew) hI2 hb2).addL (by omega) (by omega) l hom hop (by unfold maxLen; omega) a c
        have h2 := F1.out w2 hb2
        have hs2 : wA.heap.size ≤ w2.heap.size := hb2.size
        refine ⟨w3, hr, Held1.below h2 (fun b hb => hg3.block b (by omega) (by simp; omega)), hI3, below_grown (below_step (w1 := wA.drew) hb3.drew hb2 (by show w.heap.size ≤ wA.heap.size; omega)) hg3 (by omega) (Nat.le_refl _)⟩
      unfold Held1 at F0 F1 FIN
      clear hnew hI2 hb3
      go_region_held3 (fun w' => w'.cell? ⟨w.heap.size + 2, 1, none⟩ = some (.map (some w.heap.size)) ∧ w'.cell? ⟨G, 0, none⟩ = some (.string l.mesh) ∧ w'.cell? ⟨G, 1, none⟩ = some (.int .u8 l.pk.b) ∧ w'.cell? ⟨G, 2, none⟩ = some (.string l.pk.nm) ∧ w'.cell? ⟨G, 3, none⟩ = some (.string l.pk.vl) ∧ w'.cell? ⟨G, 4, none⟩ = some (.slice a l.n c))
        (first
          | (with_reducible exact F0.out)
          | (with_reducible exact F1.out _ hb2)
          | (with_reducible exact HS3.out))
        ((go_at_call 26; refine (pick_in l.pk _).mono ?_; rintro e w2 ⟨rfl, hb2⟩; obtain ⟨w3, hr, HS3, HI⟩ := FIN.out w2 hb2))
      go_wp2
      go_roundw
      case rel => exact ⟨k + 1, by omega, by go_num, by rw [HTK.out]; exact HI.out.1, HI.out.2⟩
      case measure => simp [intOf]; omega
    · obtain rfl : k = ls.length := by omega
      rw [List.take_length] at hI
      clear hk' hlt hol hl hmm
      go_wp2
      obtain ⟨wo, rfl⟩ : ∃ wo : World, wo = wr := ⟨_, rfl⟩
      go_loopw [35] (fun i wr => ∃ k : Nat, k ≤ ks.length ∧ i = .int .i64 k ∧ Idx wr (w.heap.size + 2) w.heap.size (w.heap.size + 1) ls.length k ls (ks.take k) ∧ Below w.heap.size w wr) (fun i _ => ks.length - (intOf i).toNat)
      case atStart => exact ⟨0, by omega, rfl, hI, hbw⟩
      case round =>
        clear hI hbw
        obtain ⟨k, hk', rfl, hI, hbw⟩ := hrel
        by_cases hlt : k < ks.length
        · obtain ⟨g, off, e, hp⟩ := hk k hlt
          cases e
          have hop := hok k hlt
          obtain ⟨q1, q2, q3⟩ := hp.below hbw (lt_of_cell hp.1)
          have htk : ks.take (k + 1) = ks.take k ++ [ks.getD k pk0] := by
            rw [List.take_add_one, List.getD_eq_getElem?_getD, List.getElem?_eq_getElem hlt]; rfl
          generalize ks.getD k pk0 = p at q1 q2 q3 hop htk
          have HTK : Hid (ks.take (k + 1) = ks.take k ++ [p]) := htk
          clear hp htk
          go_wp2
          have hX := lt_of_heap hI.1
          have hbA : Below wr.heap.size wr (wr.alloc (.cells #[.int .u8 p.b, .string p.nm, .string p.vl] 35)) := (Below.refl _ _).alloc (Nat.le_refl _) _
          have hI2 := hI.below hbA
          have hb3 := below_step hbw hbA (by omega)
          have hnew := heap_alloc_new wr (.cells #[.int .u8 p.b, .string p.nm, .string p.vl] 35)
          generalize wr.alloc (.cells #[.int .u8 p.b, .string p.nm, .string p.vl] 35) = wA at hI2 hb3 hnew ⊢
          have hG : w.heap.size + 2 < wr.heap.size := hX
          generalize wr.heap.size = G at hnew hG ⊢
          clear hX hbA hI hbw q1 q2 q3
          have F0 : Hid (Held2 wA.drew (w.heap.size + 2) (w.heap.size + 1) G p) := ⟨hI2.c3, by rw [cell_of_row wA.drew G 0 _ 35 _ hnew]; rfl, by rw [cell_of_row wA.drew G 1 _ 35 _ hnew]; rfl, by rw [cell_of_row wA.drew G 2 _ 35 _ hnew]; rfl⟩
          have F1 : Hid (∀ w2, Below wA.drew.heap.size wA.drew w2 → Held2 w2 (w.heap.size + 2) (w.heap.size + 1) G p) := fun w2 hb2 => Held2.below F0 (fun b hb => hb2.block b (by have := lt_of_heap hnew; have : w.heap.size + 2 < wA.heap.size := lt_of_heap hI2.1; show b < wA.heap.size; omega))
          have FIN : Hid (∀ w2, Below wA.drew.heap.size wA.drew w2 → ∃ w3, (Instr.mapUpdate 56 (.map (some (w.heap.size + 1))) (.agg #[.int .u8 p.b, .string p.nm, .string p.vl]) (.bool true)).run Try.prog w2 = .ok () w3 ∧ Hid (Held2 w3 (w.heap.size + 2) (w.heap.size + 1) G p) ∧ Hid (Idx w3 (w.heap.size + 2) w.heap.size (w.heap.size + 1) ls.length (k + 1) ls (ks.take k ++ [p]) ∧ Below w.heap.size w w3)) := fun w2 hb2 => by
            have hsz : w.heap.size + 2 < wA.heap.size := lt_of_heap hI2.1
            have hGs := lt_of_heap hnew
            obtain ⟨w3, hr, hI3, hg3⟩ := (Idx.below (w := wA.drew) hI2 hb2).addK (by omega) (by omega) p hop (by unfold maxLen; omega)
            have h2 := F1.out w2 hb2
            have hs2 : wA.heap.size ≤ w2.heap.size := hb2.size
            refine ⟨w3, hr, Held2.below h2 (fun b hb => hg3.block b (by omega) (by simp; omega)), hI3, below_grown (below_step (w1 := wA.drew) hb3.drew hb2 (by show w.heap.size ≤ wA.heap.size; omega)) hg3 (by omega) (by omega)⟩
          unfold Held2 at F0 F1 FIN
          clear hnew hI2 hb3
          go_region_held3 (fun w' => w'.cell? ⟨w.heap.size + 2, 3, none⟩ = some (.map (some (w.heap.size + 1))) ∧ w'.cell? ⟨G, 0, none⟩ = some (.int .u8 p.b) ∧ w'.cell? ⟨G, 1, none⟩ = some (.string p.nm) ∧ w'.cell? ⟨G, 2, none⟩ = some (.string p.vl))
            (first
              | (with_reducible exact F0.out)
              | (with_reducible exact F1.out _ hb2)
              | (with_reducible exact HS3.out))
            ((go_at_call 26; refine (pick_in p _).mono ?_; rintro e w2 ⟨rfl, hb2⟩; obtain ⟨w3, hr, HS3, HI⟩ := FIN.out w2 hb2))
          go_wp2
          go_roundw
          case rel => exact ⟨k + 1, by omega, by go_num, by rw [HTK.out]; exact HI.out.1, HI.out.2⟩
          case measure => simp [intOf]; omega
        · obtain rfl : k = ks.length := by omega
          rw [List.take_length] at hI
          go_wp2
          go_ret
          exact ⟨_, _, _, rfl, hI, hbw⟩
end Go.Proofs.Qxb6604404a
