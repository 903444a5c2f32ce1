import Derived.Test.Qxb6604363aBits
namespace Go.Proofs.Qxb6604363a
open Go.RowKit
set_option linter.unusedVariables false

/-- The word that 'zzEncode' has when n bits of word k are in: from the highest down. -/
def hiTo (f : Nat → Bool) (k : Nat) : Nat → Nat
  | 0 => 0
  | n + 1 => hiTo f k n * 2 + (f (64 * k + (63 - n))).toNat
theorem hiTo_lt (f : Nat → Bool) (k n : Nat) : hiTo f k n < 2 ^ n := by
  induction n with
  | zero => simp [hiTo]
  | succ n ih =>
    rw [hiTo, Nat.pow_succ]
    have : (f (64 * k + (63 - n))).toNat ≤ 1 := by cases f (64 * k + (63 - n)) <;> decide
    omega
theorem hiTo_le (f : Nat → Bool) (k n : Nat) (h : n ≤ 63) : hiTo f k n ≤ 9223372036854775807 := by
  have h1 := hiTo_lt f k n
  have h2 : 2 ^ n ≤ 2 ^ 63 := Nat.pow_le_pow_right (by decide) h
  omega

theorem words_arr (x : Nat → Nat) : VArr #[wordV x 0, wordV x 1, wordV x 2, wordV x 3] 4 (wordV x) := by
  refine ⟨rfl, fun i hi => ?_⟩
  match i, hi with
  | 0, _ => rfl
  | 1, _ => rfl
  | 2, _ => rfl
  | 3, _ => rfl
theorem zeros_arr : VArr #[Value.int .u64 0, Value.int .u64 0, Value.int .u64 0, Value.int .u64 0] 4 (fun _ => .int .u64 0) := by
  refine ⟨rfl, fun i hi => ?_⟩
  match i, hi with
  | 0, _ => rfl
  | 1, _ => rfl
  | 2, _ => rfl
  | 3, _ => rfl
/-- The words that stand when k of them are written. -/
def encV (f : Nat → Bool) (k i : Nat) : Value := if i < k then wordV (hiTo f · 64) i else .int .u64 0
theorem enc_step (f : Nat → Bool) (k i : Nat) : (if i = k then Value.int .u64 (hiTo f k 64 : Nat) else encV f k i) = encV f (k + 1) i := by
  unfold encV wordV
  by_cases h : i = k
  · subst h; simp
  · by_cases h2 : i < k
    · rw [if_neg h, if_pos h2, if_pos (by omega)]
    · rw [if_neg h, if_neg h2, if_neg (by omega)]

set_option maxRecDepth 100000 in
set_option maxHeartbeats 1000000 in
/-- 'zzEncode': four words, each out of its 64 bools. -/
theorem encode_any (f : Nat → Bool) (cur : Array Value) (hcur : VArr cur 256 (fun i => .bool (f i))) (w : World) :
    Calls Try.prog 12 #[.agg cur] w fun e w' => e = .returned (.agg #[wordV (hiTo f · 64) 0, wordV (hiTo f · 64) 1, wordV (hiTo f · 64) 2, wordV (hiTo f · 64) 3]) ∧ Below w.heap.size w w' := by
  obtain ⟨Z, hZ⟩ : ∃ Z : Array Value, Z = #[Value.int .u64 0, Value.int .u64 0, Value.int .u64 0, Value.int .u64 0] := ⟨_, rfl⟩
  have hin0 : VRow (((w.alloc (.cells cur 24)).alloc (.cells Z 23)).alloc (.cells Z 23)) w.heap.size 24 256 (fun i => .bool (f i)) :=
    ((vrow_new w cur 24 256 _ hcur.1 hcur.2).alloc _).alloc _
  have hz : VArr Z 4 (fun _ => .int .u64 0) := by rw [hZ]; exact zeros_arr
  have hres0 : VRow (((w.alloc (.cells cur 24)).alloc (.cells Z 23)).alloc (.cells Z 23)) (w.heap.size + 1) 23 4 (fun _ => .int .u64 0) := by
    have := (vrow_new (w.alloc (.cells cur 24)) Z 23 4 _ hz.1 hz.2).alloc (.cells Z 23)
    simpa using this
  have hout0 : VRow (((w.alloc (.cells cur 24)).alloc (.cells Z 23)).alloc (.cells Z 23)) (w.heap.size + 1 + 1) 23 4 (encV f 0) := by
    have := vrow_new ((w.alloc (.cells cur 24)).alloc (.cells Z 23)) Z 23 4 (encV f 0) hz.1 (fun i hi => by rw [hz.2 i hi]; simp [encV])
    simpa using this
  have hb0 : Below w.heap.size w (((w.alloc (.cells cur 24)).alloc (.cells Z 23)).alloc (.cells Z 23)) :=
    (((Below.refl _ _).alloc (Nat.le_refl _) _).alloc (by simp) _).alloc (by simp; omega) _
  subst hZ
  clear hz
  go_enter Try.func12, Try.ntmps12
  go_wp2_with fail
  go_loopw [4, 5, 6] (fun i v j wr => ∃ k : Nat, k ≤ 4 ∧ i = .int .i64 k ∧ VRow wr (w.heap.size + 1 + 1) 23 4 (encV f k) ∧ VRow wr (w.heap.size + 1) 23 4 (fun _ => .int .u64 0) ∧ VRow wr w.heap.size 24 256 (fun i => .bool (f i)) ∧ Below w.heap.size w wr) (fun i _ _ _ => 4 - (intOf i).toNat)
  case atStart => exact ⟨0, by omega, rfl, hout0, hres0, hin0, hb0⟩
  case round =>
    clear hin0 hres0 hout0 hb0
    obtain ⟨k, hk, rfl, hrow, hres, hbox, hb⟩ := hrel
    by_cases hlt : k < 4
    · go_wp2_with fail
      go_loopw [5, 6] (fun v j wr => ∃ n : Nat, n ≤ 64 ∧ j = .int .i64 (63 - (n : Int)) ∧ v = .int .u64 ((hiTo f k n : Nat) : Int) ∧ VRow wr (w.heap.size + 1 + 1) 23 4 (encV f k) ∧ VRow wr (w.heap.size + 1) 23 4 (fun _ => .int .u64 0) ∧ VRow wr w.heap.size 24 256 (fun i => .bool (f i)) ∧ Below w.heap.size w wr) (fun _ j _ => (intOf j + 1).toNat)
      case atStart => exact ⟨0, by omega, rfl, rfl, hrow, hres, hbox, hb⟩
      case round =>
        clear hrow hres hbox hb
        obtain ⟨n, hn, rfl, rfl, hrow, hres, hbox, hb⟩ := hrel
        by_cases hlt2 : n < 64
        · have hv : hiTo f k n ≤ 9223372036854775807 := hiTo_le f k n (by omega)
          have HV : Hid (hiTo f k (n + 1) = hiTo f k n * 2 + (f (64 * k + (63 - n))).toNat) := rfl
          have hc := hbox.cell (i := k * 64 + (63 - n)) (by omega)
          have HF : Hid (64 * k + (63 - n) = k * 64 + (63 - n)) := by unfold Hid; omega
          cases hfb : f (k * 64 + (63 - n))
          all_goals
            rw [hfb] at hc
            have HB : Hid (f (k * 64 + (63 - n)) = _) := hfb
            clear hfb
            go_wp2
            go_roundw
            case rel => exact ⟨n + 1, by omega, by go_num, by rw [HV.out, HF.out, HB.out]; go_num, hrow, hres, hbox, hb⟩
            case measure => simp [intOf]; omega
        · have HN : Hid (hiTo f k 64 = hiTo f k n) := by unfold Hid; rw [show n = 64 from by omega]
          have hf := hrow.frozen k
          have hc := hrow.cell (i := k) hlt
          unfold encV at hc
          rw [if_neg (by omega)] at hc
          go_wp2
          go_roundw
          case rel => exact ⟨k + 1, by omega, by go_num, (hrow.put k _).congr (fun i _ => by rw [← HN.out]; exact enc_step f k i), hres.other (by simp) _, hbox.other (by simp; omega) _, hb.setCell (by simp; omega) _⟩
          case measure => simp [intOf]; omega
    · obtain ⟨out, q1, q2, q3⟩ := hrow
      obtain ⟨old, p1, p2, p3⟩ := hres
      clear hbox
      have hw : out = #[wordV (hiTo f · 64) 0, wordV (hiTo f · 64) 1, wordV (hiTo f · 64) 2, wordV (hiTo f · 64) 3] := VArr.ext (n := 4) (f := wordV (hiTo f · 64)) ⟨q2, fun i hi => by rw [q3 i hi]; simp only [encV]; rw [if_pos (by omega)]⟩ (words_arr _)
      have HW : Hid (out = #[wordV (hiTo f · 64) 0, wordV (hiTo f · 64) 1, wordV (hiTo f · 64) 2, wordV (hiTo f · 64) 3]) := hw
      have hone : out.all (·.oneCell') = true := by rw [hw]; exact (words_arr _).one (fun _ => rfl)
      clear hw q3 p3
      go_wp2_with (first | (refine wpList_load_row rfl 23 _ rfl (w.heap.size + 1 + 1) rfl 23 out (0, 0) _ q1 Try.underlying23 rfl (by rw [q2]; exact Try.size23) ?_) | (refine wpList_store_row rfl 23 _ _ rfl (w.heap.size + 1) out rfl rfl 23 old p1 (by rw [q2]; exact Try.size23) (by rw [q2]; exact p2) hone ?_))
      exact bodyPost_ret (v := .agg out) (results_cell_row Try.results12 _ _ (w.heap.size + 1) 23 out (0, 0) _ rfl (setRow_heap _ _ old out 23 (0, 0) p1) Try.underlying23 rfl (by rw [q2]; exact Try.size23)) rfl ⟨by rw [HW.out], below_setRow' hb (by omega) out⟩
end Go.Proofs.Qxb6604363a
