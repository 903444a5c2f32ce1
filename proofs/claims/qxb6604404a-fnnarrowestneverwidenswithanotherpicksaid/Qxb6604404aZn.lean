import Derived.Test.Qxb6604404aNarrow
import Derived.Deep.CutRange
namespace Go.Proofs.Qxb6604404a
open Go.RowKit
set_option linter.unusedVariables false
set_option linter.unusedSectionVars false
variable [DecidableEq Pk]

set_option maxRecDepth 100000 in
set_option maxHeartbeats 3200000 in
/-- 'ZZnarrowest'. -/
theorem zz_narrowest (X b1 b2 n1 n2 : Nat) (ls : List Ls) (ks : List Pk) (m : ByteArray) (sl vi : Bool) (a1 a2 a3 : Option Addr) (c1 c2 c3 : Nat) (ps os qs : List Pk) (w : World) (hI : Idx w X b1 b2 n1 n2 ls ks) (hm : m.size ≤ maxLen)
    (hp : Picks w a1 ps) (ho : Picks w a2 os) (hq : Picks w a3 qs) (hlp : ps.length ≤ 5000) (hlo : os.length ≤ 5000) (hlq : qs.length ≤ 5000) (hn1 : a1 = none → c1 = 0) (hn2 : a2 = none → c2 = 0) (hn3 : a3 = none → c3 = 0)
    (okp : ∀ p ∈ ps, p.ok) (oko : ∀ p ∈ os, p.ok) (okq : ∀ p ∈ qs, p.ok) :
    Calls Try.prog 14 #[.pointer (some ⟨X, 0, none⟩), .string m, .bool sl, .slice a1 ps.length c1, .slice a2 os.length c2, .bool vi, .slice a3 qs.length c3] w fun e w' =>
      ∃ r : Pk, e = .returned (.tuple #[.agg #[.int .u8 r.b, .string r.nm, .string r.vl], .bool sl]) ∧ r = (if sl then narrow ls ks m (ps ++ qs ++ oneOfs os) else pk0) ∧ Below w.heap.size w w' := by
  have hbA : Below w.heap.size w (w.alloc (.cells #[.int .u8 0, .string ⟨#[]⟩, .string ⟨#[]⟩] 35)) := (Below.refl _ _).alloc (Nat.le_refl _) _
  have hnew := heap_alloc_new w (.cells #[.int .u8 0, .string ⟨#[]⟩, .string ⟨#[]⟩] 35)
  have hzA : (w.alloc (.cells #[.int .u8 0, .string ⟨#[]⟩, .string ⟨#[]⟩] 35)).heap.size = w.heap.size + 1 := by simp
  have HG : Hid (∃ r0, r0 = if sl = true then narrow ls ks m (ps ++ qs ++ oneOfs os) else pk0) := ⟨_, rfl⟩
  obtain ⟨R, hRR⟩ := HG.out
  have HRR : Hid (R = if sl = true then narrow ls ks m (ps ++ qs ++ oneOfs os) else pk0) := hRR
  clear HG
  rw [← hRR]
  clear hRR
  have K1 := picks_in a1 c1 ps (w.alloc (.cells #[.int .u8 0, .string ⟨#[]⟩, .string ⟨#[]⟩] 35)) hlp (hp.below hbA) hn1
  have HQ : Hid (Picks w a2 os ∧ Picks w a3 qs ∧ (a2 = none → c2 = 0) ∧ (a3 = none → c3 = 0) ∧ (∀ p ∈ ps, p.ok) ∧ (∀ p ∈ os, p.ok) ∧ (∀ p ∈ qs, p.ok) ∧ Idx w X b1 b2 n1 n2 ls ks) := ⟨ho, hq, hn2, hn3, okp, oko, okq, hI⟩
  clear hp ho hq hn1 hn2 hn3 okp oko okq hI
  go_enter Try.func14, Try.ntmps14
  go_wp2_with fail
  refine K1.mono ?_
  rintro e w1 ⟨ao1, cap1, rfl, hP1, hN1, hS1, hb1⟩
  have HB1 : Hid (Below w.heap.size w w1) := below_step hbA hb1 (by omega)
  have hz1 : w.heap.size + 1 ≤ w1.heap.size := by rw [← hzA]; exact hb1.size
  have hR1 : Hid (w1.heap[w.heap.size]? = some (.cells #[.int .u8 0, .string ⟨#[]⟩, .string ⟨#[]⟩] 35 (0, 0))) := by show _ = _; rw [hb1.block _ (by omega)]; exact hnew
  have HF1 : Hid (Picks w1 ao1 ps ∧ (ao1 = none → cap1 = 0) ∧ (∀ a, ao1 = some a → a = ⟨a.block, a.off, none⟩)) := ⟨hP1, hN1, hS1⟩
  clear hP1 hN1 hS1 hb1 K1 hnew hbA hzA
  have K2 := picks_in a2 c2 os w1 hlo (HQ.out.1.below HB1.out) HQ.out.2.2.1
  go_wp2_with fail
  refine K2.mono ?_
  rintro e w2 ⟨ao2, cap2, rfl, hP2, hN2, hS2, hb2⟩
  have HB2 : Hid (Below w.heap.size w w2) := below_step HB1.out hb2 (by omega)
  have hz2 : w.heap.size + 1 ≤ w2.heap.size := Nat.le_trans hz1 hb2.size
  have hR2 : Hid (w2.heap[w.heap.size]? = some (.cells #[.int .u8 0, .string ⟨#[]⟩, .string ⟨#[]⟩] 35 (0, 0))) := by show _ = _; rw [hb2.block _ (by omega)]; exact hR1.out
  have HF2 : Hid (Picks w2 ao1 ps ∧ (ao1 = none → cap1 = 0) ∧ (∀ a, ao1 = some a → a = ⟨a.block, a.off, none⟩) ∧ Picks w2 ao2 os) := ⟨HF1.out.1.below hb2, HF1.out.2.1, HF1.out.2.2, hP2⟩
  clear hP2 hN2 hS2 hb2 K2 HF1 hR1 hz1 HB1
  have K3 := picks_in a3 c3 qs w2 hlq (HQ.out.2.1.below HB2.out) HQ.out.2.2.2.1
  go_wp2_with fail
  refine K3.mono ?_
  rintro e w3 ⟨ao3, cap3, rfl, hP3, hN3, hS3, hb3⟩
  have HB3 : Hid (Below w.heap.size w w3) := below_step HB2.out hb3 (by omega)
  have hz3 : w.heap.size + 1 ≤ w3.heap.size := Nat.le_trans hz2 hb3.size
  have hR3 : Hid (w3.heap[w.heap.size]? = some (.cells #[.int .u8 0, .string ⟨#[]⟩, .string ⟨#[]⟩] 35 (0, 0))) := by show _ = _; rw [hb3.block _ (by omega)]; exact hR2.out
  have K4 := narrowest X b1 b2 n1 n2 ls ks m sl vi ao1 ao2 ao3 cap1 cap2 cap3 ps os qs w3 (HQ.out.2.2.2.2.2.2.2.below HB3.out) hm (HF2.out.1.below hb3) (HF2.out.2.2.2.below hb3) hP3 hlp hlo hlq HF2.out.2.1 hN3 HF2.out.2.2.1 hS3 HQ.out.2.2.2.2.1 HQ.out.2.2.2.2.2.1 HQ.out.2.2.2.2.2.2.1
  rw [← HRR.out] at K4
  clear hP3 hN3 hS3 hb3 K3 HF2 hR2 hz2 HB2 HQ HRR
  go_wp2_with fail
  refine K4.mono ?_
  rintro e w4 ⟨r, rfl, rfl, hb4⟩
  have hB4 : Below w.heap.size w w4 := below_step HB3.out hb4 (by omega)
  have hR4 : w4.heap[w.heap.size]? = some (.cells #[.int .u8 0, .string ⟨#[]⟩, .string ⟨#[]⟩] 35 (0, 0)) := by rw [hb4.block _ (by omega)]; exact hR3.out
  have hlt4 : w.heap.size < w4.heap.size := lt_of_heap hR4
  have hbA5 : Below w4.heap.size w4 (w4.alloc (.cells #[.int .u8 r.b, .string r.nm, .string r.vl] 65)) := (Below.refl _ _).alloc (Nat.le_refl _) _
  have hR5 : (w4.alloc (.cells #[.int .u8 r.b, .string r.nm, .string r.vl] 65)).heap[w.heap.size]? = some (.cells #[.int .u8 0, .string ⟨#[]⟩, .string ⟨#[]⟩] 35 (0, 0)) := by rw [hbA5.block _ hlt4]; exact hR4
  have hB5 := below_step hB4 hbA5 (by omega)
  have hK5 := heap_alloc_new w4 (.cells #[.int .u8 r.b, .string r.nm, .string r.vl] 65)
  clear HB3 hR3 K4 hb4 hz3 hR4 hB4 hbA5
  go_upto_region 2 with fail
  generalize w4.alloc (.cells #[.int .u8 r.b, .string r.nm, .string r.vl] 65) = w5 at hR5 hB5 hK5 ⊢
  have z0 : w5.frozen? ⟨w.heap.size, 0, none⟩ = false := by simp [World.frozen?, hR5]
  have z1 : w5.frozen? ⟨w.heap.size, 1, none⟩ = false := by simp [World.frozen?, hR5]
  have z2 : w5.frozen? ⟨w.heap.size, 2, none⟩ = false := by simp [World.frozen?, hR5]
  have t0 : w5.cell? ⟨w.heap.size, 0, none⟩ = some (.int .u8 0) := by rw [cell_of_row w5 _ 0 _ 35 _ hR5]; rfl
  have t1 : w5.cell? ⟨w.heap.size, 1, none⟩ = some (.string ⟨#[]⟩) := by rw [cell_of_row w5 _ 1 _ 35 _ hR5]; rfl
  have t2 : w5.cell? ⟨w.heap.size, 2, none⟩ = some (.string ⟨#[]⟩) := by rw [cell_of_row w5 _ 2 _ 35 _ hR5]; rfl
  have f0 : w5.cell? ⟨w4.heap.size, 0, none⟩ = some (.int .u8 r.b) := by rw [cell_of_row w5 _ 0 _ 65 _ hK5]; rfl
  have f1 : w5.cell? ⟨w4.heap.size, 1, none⟩ = some (.string r.nm) := by rw [cell_of_row w5 _ 1 _ 65 _ hK5]; rfl
  have f2 : w5.cell? ⟨w4.heap.size, 2, none⟩ = some (.string r.vl) := by rw [cell_of_row w5 _ 2 _ 65 _ hK5]; rfl
  have HZ : Hid ((((w5.setCell ⟨w.heap.size, 0, none⟩ (.int .u8 r.b)).setCell ⟨w.heap.size, 1, none⟩ (.string r.nm)).setCell ⟨w.heap.size, 2, none⟩ (.string r.vl)).heap[w.heap.size]? = some (.cells #[.int .u8 r.b, .string r.nm, .string r.vl] 35 (0, 0))) := heap_setCell_same _ _ _ _ _ _ (heap_setCell_same _ _ _ _ _ _ (heap_setCell_same _ _ _ _ _ _ hR5))
  have HBZ : Hid (Below w.heap.size w (((w5.setCell ⟨w.heap.size, 0, none⟩ (.int .u8 r.b)).setCell ⟨w.heap.size, 1, none⟩ (.string r.nm)).setCell ⟨w.heap.size, 2, none⟩ (.string r.vl))) := put3_below (g := w.heap.size) (a := 0) (b := 1) (c := 2) hB5 (Nat.le_refl _) _ _ _
  clear hR5 hB5 hK5
  go_wp2
  generalize ((w5.setCell ⟨w.heap.size, 0, none⟩ (.int .u8 r.b)).setCell ⟨w.heap.size, 1, none⟩ (.string r.nm)).setCell ⟨w.heap.size, 2, none⟩ (.string r.vl) = wZ at HZ HBZ ⊢
  have y0 : wZ.cell? ⟨w.heap.size, 0, none⟩ = some (.int .u8 r.b) := by rw [cell_of_row wZ _ 0 _ 35 _ HZ.out]; rfl
  have y1 : wZ.cell? ⟨w.heap.size, 1, none⟩ = some (.string r.nm) := by rw [cell_of_row wZ _ 1 _ 35 _ HZ.out]; rfl
  have y2 : wZ.cell? ⟨w.heap.size, 2, none⟩ = some (.string r.vl) := by rw [cell_of_row wZ _ 2 _ 35 _ HZ.out]; rfl
  refine bodyPost_ret (v := .tuple #[.agg #[.int .u8 r.b, .string r.nm, .string r.vl], .bool sl]) (by simp [results, Try.results14, go_sem, y0, y1, y2]) rfl ⟨r, rfl, rfl, HBZ.out⟩
end Go.Proofs.Qxb6604404a
