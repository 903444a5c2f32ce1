import Derived.Test.Qxb6604363aEncode
import Derived.Laws.Bits64
namespace Go.Proofs.Qxb6604363a
open Go.RowKit
set_option linter.unusedVariables false

/-! ### PLAIN: bits of words -/
theorem bits_or_u64_nat (a b : Nat) (ha : a ≤ 18446744073709551615) (hb : b ≤ 18446744073709551615) :
    bits .or .u64 (a : Int) (b : Int) = ((a ||| b : Nat) : Int) ∧ a ||| b ≤ 18446744073709551615 := by
  have hx : a ||| b < 2 ^ 64 := Nat.or_lt_two_pow (by omega) (by omega)
  have h1 : (BitVec.ofInt 64 (a : Int)).toNat = a := by
    rw [BitVec.ofInt_natCast, BitVec.toNat_ofNat]; exact Nat.mod_eq_of_lt (by omega)
  have h2 : (BitVec.ofInt 64 (b : Int)).toNat = b := by
    rw [BitVec.ofInt_natCast, BitVec.toNat_ofNat]; exact Nat.mod_eq_of_lt (by omega)
  refine ⟨?_, by omega⟩
  show IntKind.u64.wrap ((BitVec.ofInt 64 (a : Int) ||| BitVec.ofInt 64 (b : Int)).toNat : Int) = _
  rw [BitVec.toNat_or, h1, h2, IntKind.wrap_u64]
  omega
theorem pow_le (r : Nat) (h : r < 64) : 2 ^ r ≤ 18446744073709551615 := by
  have : 2 ^ r ≤ 2 ^ 63 := Nat.pow_le_pow_right (by decide) (by omega)
  omega
theorem wrap_pow (r : Nat) (h : r < 64) : IntKind.u64.wrap (2 ^ r) = ((2 ^ r : Nat) : Int) := by
  have h1 := pow_le r h
  have h2 : ((2 : Int) ^ r) = ((2 ^ r : Nat) : Int) := by simp
  rw [h2, IntKind.wrap_u64]
  generalize 2 ^ r = p at h1
  omega
theorem bit_test (x : Nat → Nat) (i : Nat) : bit x i = (x (i / 64)).testBit (i % 64) := by
  rw [bit, Nat.testBit_eq_decide_div_mod_eq]
/-- Byte c added. -/
def upd (x : Nat → Nat) (c : Nat) : Nat → Nat := fun k => if k = c / 64 then x k ||| 2 ^ (c % 64) else x k
theorem upd_le (x : Nat → Nat) (hx : ∀ k, x k ≤ 18446744073709551615) (c k : Nat) : upd x c k ≤ 18446744073709551615 := by
  unfold upd
  split
  · exact (bits_or_u64_nat _ _ (hx k) (pow_le _ (Nat.mod_lt _ (by decide)))).2
  · exact hx k
theorem bit_upd (x : Nat → Nat) (c i : Nat) : bit (upd x c) i = (bit x i || decide (i = c)) := by
  rw [bit_test, bit_test]
  unfold upd
  by_cases h : i / 64 = c / 64
  · rw [if_pos h, Nat.testBit_or, Nat.testBit_two_pow]
    have : decide (c % 64 = i % 64) = decide (i = c) := by
      rw [decide_eq_decide]; omega
    rw [this]
  · rw [if_neg h]
    have : ¬ i = c := fun e => h (by rw [e])
    simp [this]
theorem hiTo_bit (f : Nat → Bool) (k n j : Nat) (hn : n ≤ 64) : (hiTo f k n).testBit j = (decide (j < n) && f (64 * k + (63 - (n - 1 - j)))) := by
  induction n generalizing j with
  | zero => simp [hiTo]
  | succ n ih =>
    rw [hiTo]
    cases j with
    | zero =>
      rw [Nat.testBit_zero]
      cases hf : f (64 * k + (63 - n)) <;> simp [hf] <;> omega
    | succ j =>
      rw [Nat.testBit_succ]
      have e : (hiTo f k n * 2 + (f (64 * k + (63 - n))).toNat) / 2 = hiTo f k n := by
        have : (f (64 * k + (63 - n))).toNat ≤ 1 := by cases f (64 * k + (63 - n)) <;> decide
        omega
      rw [e, ih j (by omega)]
      have e2 : n - 1 - j = n + 1 - 1 - (j + 1) := by omega
      rw [e2]
      simp
/-- Two words with the same 64 bits are one. -/
theorem word_eq (y : Nat → Nat) (hy : ∀ k, y k ≤ 18446744073709551615) (f : Nat → Bool) (h : ∀ i, i < 256 → bit y i = f i) (k : Nat) (hk : k < 4) : y k = hiTo f k 64 := by
  apply Nat.eq_of_testBit_eq
  intro j
  rw [hiTo_bit f k 64 j (Nat.le_refl _)]
  by_cases hj : j < 64
  · have h1 := h (64 * k + j) (by omega)
    rw [bit_test, show (64 * k + j) / 64 = k from by omega, show (64 * k + j) % 64 = j from by omega] at h1
    rw [h1, show 64 * k + (63 - (64 - 1 - j)) = 64 * k + j from by omega]
    simp [hj]
  · have : (y k).testBit j = false := by
      apply Nat.testBit_lt_two_pow
      have h2 : 2 ^ 64 ≤ 2 ^ j := Nat.pow_le_pow_right (by decide) (by omega)
      have := hy k
      omega
    rw [this]
    simp [hj]

theorem or_none (b : Bool) (lo i : Nat) : b = (b || decide (lo ≤ i ∧ i < lo)) := by
  have : decide (lo ≤ i ∧ i < lo) = false := by simp
  rw [this, Bool.or_false]

/-! ### THE WALKS: 'add', 'addRange' -/
set_option maxHeartbeats 400000 in
theorem add_any (x : Nat → Nat) (hx : ∀ k, x k ≤ 18446744073709551615) (g c : Nat) (hc : c < 256) (w : World) (hrow : VRow w g 23 4 (wordV x)) :
    Calls Try.prog 37 #[.pointer (some ⟨g, 0, none⟩), .int .u8 c] w fun e w' => e = .returned (.tuple #[]) ∧ VRow w' g 23 4 (wordV (upd x c)) ∧ Below g w w' := by
  have h1 := hrow.cell (i := c / 64) (by omega)
  have h2 := hrow.frozen (c / 64)
  unfold wordV at h1
  go_enter Try.func37, Try.ntmps37
  go_wp2_with fail
  go_region
  go_end0
  rw [wrap_pow _ (Nat.mod_lt _ (by decide)), (bits_or_u64_nat _ _ (hx _) (pow_le _ (Nat.mod_lt _ (by decide)))).1]
  refine ⟨rfl, ?_, (((Below.refl g w).setCell (p := ⟨g, c / 64, none⟩) (Nat.le_refl g) _).drew)⟩
  have := (hrow.put (c / 64) (.int .u64 ((x (c / 64) ||| 2 ^ (c % 64) : Nat) : Int))).congr (f' := wordV (upd x c)) (fun i hi => by
    unfold wordV upd
    by_cases h : i = c / 64
    · subst h; simp
    · rw [if_neg h, if_neg h])
  exact this

set_option maxHeartbeats 400000 in
theorem addRange_any (x : Nat → Nat) (hx : ∀ k, x k ≤ 18446744073709551615) (g lo hi : Nat) (hlo : lo < 256) (hhi : hi < 256) (w : World) (hrow : VRow w g 23 4 (wordV x)) :
    Calls Try.prog 40 #[.pointer (some ⟨g, 0, none⟩), .int .u8 lo, .int .u8 hi] w fun e w' => e = .returned (.tuple #[]) ∧ ∃ y : Nat → Nat, (∀ k, y k ≤ 18446744073709551615) ∧ (∀ i, bit y i = (bit x i || decide (lo ≤ i ∧ i ≤ hi))) ∧ VRow w' g 23 4 (wordV y) ∧ Below g w w' := by
  go_enter Try.func40, Try.ntmps40
  go_wp2_with fail
  go_loopw [6] (fun i wr => ∃ c : Nat, lo ≤ c ∧ c ≤ 256 ∧ (c ≤ lo ∨ c ≤ hi + 1) ∧ i = .int .i64 c ∧ ∃ y : Nat → Nat, (∀ k, y k ≤ 18446744073709551615) ∧ (∀ i, bit y i = (bit x i || decide (lo ≤ i ∧ i < c))) ∧ VRow wr g 23 4 (wordV y) ∧ Below g w wr) (fun i _ => 257 - (intOf i).toNat)
  case atStart => exact ⟨lo, by omega, by omega, .inl (by omega), rfl, x, hx, fun i => or_none _ lo i, hrow, Below.refl _ _⟩
  case round =>
    obtain ⟨c, h1, h2, h3, rfl, y, hy, hbit, hr, hb⟩ := hrel
    by_cases hlt : c ≤ hi
    · have HB : Hid (∀ i, bit y i = (bit x i || decide (lo ≤ i ∧ i < c))) := hbit
      clear hbit
      go_wp2_with fail
      refine (add_any y hy g c (by omega) _ hr).mono ?_
      rintro e w2 ⟨rfl, hr2, hb2⟩
      go_wp2
      go_roundw
      case rel =>
        refine ⟨c + 1, by omega, by omega, .inr (by omega), by go_num, upd y c, upd_le y hy c, fun i => ?_, hr2, hb.trans hb2⟩
        rw [bit_upd, HB.out i, Bool.or_assoc]
        congr 1
        rw [Bool.eq_iff_iff]; simp; omega
      case measure => simp [intOf]; omega
    · have HB : Hid (∀ i, bit y i = (bit x i || decide (lo ≤ i ∧ i < c))) := hbit
      clear hbit
      go_wp2_with fail
      go_end0
      refine ⟨rfl, y, hy, fun i => ?_, hr, hb⟩
      rw [HB.out i]
      congr 1
      rw [Bool.eq_iff_iff]; simp; omega

theorem zzAddRange_any (x : Nat → Nat) (hx : ∀ k, x k ≤ 18446744073709551615) (g lo hi : Nat) (hlo : lo < 256) (hhi : hi < 256) (w : World) (hrow : VRow w g 23 4 (wordV x)) :
    Calls Try.prog 16 #[.pointer (some ⟨g, 0, none⟩), .int .u8 lo, .int .u8 hi] w fun e w' => e = .returned (.tuple #[]) ∧ ∃ y : Nat → Nat, (∀ k, y k ≤ 18446744073709551615) ∧ (∀ i, bit y i = (bit x i || decide (lo ≤ i ∧ i ≤ hi))) ∧ VRow w' g 23 4 (wordV y) ∧ Below g w w' := by
  go_enter Try.func16, Try.ntmps16
  go_wp2_with fail
  refine (addRange_any x hx g lo hi hlo hhi _ hrow).mono ?_
  rintro e w2 ⟨rfl, hq⟩
  go_wp2_with fail
  go_end0
  exact ⟨rfl, hq⟩
end Go.Proofs.Qxb6604363a
