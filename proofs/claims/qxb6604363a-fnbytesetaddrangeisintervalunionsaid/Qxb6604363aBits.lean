import Derived.Test.Qxb6604363aSlots
import Derived.Deep.WholeRow
namespace Go.Proofs.Qxb6604363a
open Go.RowKit
set_option linter.unusedVariables false

/-! ### ROWS OF BOOLS AND OF WORDS, of whatever element type -/
/-- Block g is a row of type t whose n cells are the values f 0, f 1, .. -/
def VRow (w : World) (g t n : Nat) (f : Nat → Value) : Prop :=
  ∃ cur : Array Value, w.heap[g]? = some (.cells cur t (0, 0)) ∧ cur.size = n ∧ ∀ i, i < n → cur[i]? = some (f i)

theorem VRow.cell {w : World} {g t n : Nat} {f : Nat → Value} (h : VRow w g t n f) {i : Nat} (hi : i < n) : w.cell? ⟨g, i, none⟩ = some (f i) := by
  obtain ⟨cur, h1, h2, h3⟩ := h
  simp [World.cell?, h1, h3 i hi]

theorem VRow.frozen {w : World} {g t n : Nat} {f : Nat → Value} (h : VRow w g t n f) (i : Nat) : w.frozen? ⟨g, i, none⟩ = false := by
  obtain ⟨cur, h1, h2, h3⟩ := h
  simp [World.frozen?, h1]

theorem VRow.lt {w : World} {g t n : Nat} {f : Nat → Value} (h : VRow w g t n f) : g < w.heap.size := by
  obtain ⟨cur, h1, h2, h3⟩ := h
  rcases Nat.lt_or_ge g w.heap.size with h | h
  · exact h
  · rw [Array.getElem?_eq_none (by omega)] at h1; cases h1

theorem VRow.put {w : World} {g t n : Nat} {f : Nat → Value} (h : VRow w g t n f) (i : Nat) (v : Value) :
    VRow (w.setCell ⟨g, i, none⟩ v) g t n (fun j => if j = i then v else f j) := by
  obtain ⟨cur, h1, h2, h3⟩ := h
  refine ⟨cur.setIfInBounds i v, ?_, by simpa using h2, fun j hj => ?_⟩
  · simp [World.setCell, Array.getElem?_modify, h1]
  · by_cases e : i = j
    · subst e
      simp [h2, hj]
    · have : ¬ j = i := fun h => e h.symm
      simp only [Array.getElem?_setIfInBounds_ne e, h3 j hj, if_neg this]

theorem VRow.other {w : World} {g t n : Nat} {f : Nat → Value} (h : VRow w g t n f) {a : Addr} (ha : g ≠ a.block) (v : Value) : VRow (w.setCell a v) g t n f := by
  obtain ⟨cur, h1, h2, h3⟩ := h
  exact ⟨cur, by rw [heap_setCell_other w a g v ha]; exact h1, h2, h3⟩

theorem VRow.below {w w' : World} {B g t n : Nat} {f : Nat → Value} (h : VRow w g t n f) (hb : Below B w w') (hg : g < B) : VRow w' g t n f := by
  obtain ⟨cur, h1, h2, h3⟩ := h
  exact ⟨cur, by rw [hb.block g hg]; exact h1, h2, h3⟩

theorem VRow.congr {w : World} {g t n : Nat} {f f' : Nat → Value} (h : VRow w g t n f) (e : ∀ i, i < n → f i = f' i) : VRow w g t n f' := by
  obtain ⟨cur, h1, h2, h3⟩ := h
  exact ⟨cur, h1, h2, fun i hi => by rw [← e i hi]; exact h3 i hi⟩

theorem VRow.alloc {w : World} {g t n : Nat} {f : Nat → Value} (h : VRow w g t n f) (o : Obj) : VRow (w.alloc o) g t n f :=
  h.below (B := w.heap.size) ((Below.refl _ _).alloc (Nat.le_refl _) o) h.lt

theorem vrow_new (w : World) (cur : Array Value) (t n : Nat) (f : Nat → Value) (h2 : cur.size = n) (h3 : ∀ i, i < n → cur[i]? = some (f i)) : VRow (w.alloc (.cells cur t)) w.heap.size t n f :=
  ⟨cur, heap_alloc_new w _, h2, h3⟩

/-- What an array's value is: n cells, the values f 0, f 1, .. -/
def VArr (cur : Array Value) (n : Nat) (f : Nat → Value) : Prop := cur.size = n ∧ ∀ i, i < n → cur[i]? = some (f i)

theorem VArr.one {cur : Array Value} {n : Nat} {f : Nat → Value} (h : VArr cur n f) (hf : ∀ i, (f i).oneCell' = true) : cur.all (·.oneCell') = true := by
  rw [Array.all_eq_true]
  intro i hi
  have := h.2 i (by rw [← h.1]; exact hi)
  rw [Array.getElem?_eq_getElem hi] at this
  rw [Option.some.inj this]
  exact hf i

theorem VArr.ext {a b : Array Value} {n : Nat} {f : Nat → Value} (ha : VArr a n f) (hb : VArr b n f) : a = b := by
  apply Array.ext_getElem?
  intro i
  by_cases hi : i < n
  · rw [ha.2 i hi, hb.2 i hi]
  · rw [Array.getElem?_eq_none (by rw [ha.1]; omega), Array.getElem?_eq_none (by rw [hb.1]; omega)]

theorem Try.size24 : (Try.prog.info? 24).map (·.size) = some 256 := by kernel_rfl
theorem Try.size23 : (Try.prog.info? 23).map (·.size) = some 4 := by kernel_rfl
theorem zero24_eq : Try.zeroCells24 = Array.replicate 256 (.bool false) := by kernel_rfl
theorem zero24 : VArr Try.zeroCells24 256 (fun _ => .bool false) := by
  rw [zero24_eq]
  exact ⟨by simp, fun i hi => by rw [Array.getElem?_replicate, if_pos hi]⟩

theorem below_setRow' {B : Nat} {a w : World} (h : Below B a w) {g : Nat} (hg : B ≤ g) (cs : Array Value) : Below B a (w.setRow g cs) :=
  h.trans ⟨rfl, rfl, rfl, by simp, fun k hk => by
    simp only [World.setRow, Array.getElem?_modify]
    rw [if_neg (by omega)]⟩

/-! ### BITS -/
/-- Byte i is a member of the set whose four words are x 0 .. x 3. -/
def bit (x : Nat → Nat) (i : Nat) : Bool := decide ((x (i / 64) / 2 ^ (i % 64)) % 2 = 1)
def dec (x : Nat → Nat) (n i : Nat) : Value := .bool (decide (i < n) && bit x i)
/-- The words' values. -/
def wordV (x : Nat → Nat) (i : Nat) : Value := .int .u64 (x i)

theorem dec_step (x : Nat → Nat) (k j i : Nat) (hj : j < 64) (b : Bool) (hb : b = decide ((x k / 2 ^ j) % 2 = 1)) :
    (if i = k * 64 + j then Value.bool b else dec x (64 * k + j) i) = dec x (64 * k + (j + 1)) i := by
  by_cases e : i = k * 64 + j
  · rw [if_pos e, hb]
    have e1 : i / 64 = k := by omega
    have e2 : i % 64 = j := by omega
    have e3 : i < 64 * k + (j + 1) := by omega
    simp [dec, bit, e1, e2, e3]
  · rw [if_neg e]
    have : decide (i < 64 * k + j) = decide (i < 64 * k + (j + 1)) := by
      by_cases h : i < 64 * k + j
      · simp [h]; omega
      · simp [h]; omega
    simp [dec, this]

theorem mod2 (v : Nat) : (((v : Int) % 2) == 1) = decide (v % 2 = 1) := by
  rw [Bool.eq_iff_iff]; simp; omega

set_option maxRecDepth 100000 in
set_option maxHeartbeats 1000000 in
/-- 'zzDecode': the array of 256 bools, the i-th says whether i is a member. -/
theorem decode_any (x : Nat → Nat) (hx : ∀ k, x k ≤ 18446744073709551615) (w : World) :
    Calls Try.prog 11 #[.agg #[wordV x 0, wordV x 1, wordV x 2, wordV x 3]] w fun e w' => ∃ cur, e = .returned (.agg cur) ∧ VArr cur 256 (fun i => .bool (bit x i)) ∧ Below w.heap.size w w' := by
  have hs1 : ((w.alloc (.cells #[wordV x 0, wordV x 1, wordV x 2, wordV x 3] 23)).alloc (.cells Try.zeroCells24 24)).heap.size = w.heap.size + 1 + 1 := by simp
  have hrow0 : VRow (((w.alloc (.cells #[wordV x 0, wordV x 1, wordV x 2, wordV x 3] 23)).alloc (.cells Try.zeroCells24 24)).alloc (.cells Try.zeroCells24 24)) (w.heap.size + 1 + 1) 24 256 (dec x 0) := by
    have := vrow_new ((w.alloc (.cells #[wordV x 0, wordV x 1, wordV x 2, wordV x 3] 23)).alloc (.cells Try.zeroCells24 24)) Try.zeroCells24 24 256 (dec x 0) zero24.1 (fun i hi => by rw [zero24.2 i hi]; simp [dec])
    rw [hs1] at this
    exact this
  have hres0 : VRow (((w.alloc (.cells #[wordV x 0, wordV x 1, wordV x 2, wordV x 3] 23)).alloc (.cells Try.zeroCells24 24)).alloc (.cells Try.zeroCells24 24)) (w.heap.size + 1) 24 256 (fun _ => .bool false) := by
    have := (vrow_new (w.alloc (.cells #[wordV x 0, wordV x 1, wordV x 2, wordV x 3] 23)) Try.zeroCells24 24 256 _ zero24.1 zero24.2).alloc (.cells Try.zeroCells24 24)
    simpa using this
  have hbox0 : VRow (((w.alloc (.cells #[wordV x 0, wordV x 1, wordV x 2, wordV x 3] 23)).alloc (.cells Try.zeroCells24 24)).alloc (.cells Try.zeroCells24 24)) w.heap.size 23 4 (wordV x) := by
    refine ((vrow_new w #[wordV x 0, wordV x 1, wordV x 2, wordV x 3] 23 4 (wordV x) rfl ?_).alloc _).alloc _
    intro i hi
    match i, hi with
    | 0, _ => rfl
    | 1, _ => rfl
    | 2, _ => rfl
    | 3, _ => rfl
  have hb0 : Below w.heap.size w (((w.alloc (.cells #[wordV x 0, wordV x 1, wordV x 2, wordV x 3] 23)).alloc (.cells Try.zeroCells24 24)).alloc (.cells Try.zeroCells24 24)) :=
    (((Below.refl _ _).alloc (Nat.le_refl _) _).alloc (by simp) _).alloc (by simp; omega) _
  go_enter Try.func11, Try.ntmps11
  go_wp2_with fail
  go_loopw [4, 5, 6] (fun i v j wr => ∃ k : Nat, k ≤ 4 ∧ i = .int .i64 k ∧ VRow wr (w.heap.size + 1 + 1) 24 256 (dec x (64 * k)) ∧ VRow wr (w.heap.size + 1) 24 256 (fun _ => .bool false) ∧ VRow wr w.heap.size 23 4 (wordV x) ∧ Below w.heap.size w wr) (fun i _ _ _ => 4 - (intOf i).toNat)
  case atStart => exact ⟨0, by omega, rfl, hrow0, hres0, hbox0, hb0⟩
  case round =>
    clear hrow0 hres0 hbox0 hb0 hs1
    obtain ⟨k, hk, rfl, hrow, hres, hbox, hb⟩ := hrel
    by_cases hlt : k < 4
    · have hc := hbox.cell (i := k) hlt
      have hw := hx k
      unfold wordV at hc
      go_wp2_with fail
      clear hc
      go_loopw [5, 6] (fun v j wr => ∃ j' : Nat, j' ≤ 64 ∧ j = .int .i64 j' ∧ v = .int .u64 ((x k / 2 ^ j' : Nat) : Int) ∧ VRow wr (w.heap.size + 1 + 1) 24 256 (dec x (64 * k + j')) ∧ VRow wr (w.heap.size + 1) 24 256 (fun _ => .bool false) ∧ VRow wr w.heap.size 23 4 (wordV x) ∧ Below w.heap.size w wr) (fun _ j _ => 64 - (intOf j).toNat)
      case atStart => exact ⟨0, by omega, rfl, by simp, hrow, hres, hbox, hb⟩
      case round =>
        clear hrow hres hbox hb
        obtain ⟨j, hj, rfl, rfl, hrow, hres, hbox, hb⟩ := hrel
        have hv : x k / 2 ^ j ≤ 18446744073709551615 := Nat.le_trans (Nat.div_le_self _ _) hw
        have HV : Hid (x k / 2 ^ (j + 1) = x k / 2 ^ j / 2) := by unfold Hid; rw [Nat.pow_succ, Nat.div_div_eq_div_mul]
        obtain ⟨v, hv0⟩ : ∃ v, v = x k / 2 ^ j := ⟨_, rfl⟩
        have HE : Hid (v = x k / 2 ^ j) := hv0
        rw [← hv0] at hv ⊢
        clear hv0
        by_cases hlt2 : j < 64
        · have hf := hrow.frozen (k * 64 + j)
          have hc := hrow.cell (i := k * 64 + j) (by omega)
          unfold dec at hc
          go_wp2
          go_roundw
          case rel => exact ⟨j + 1, by omega, by go_num, by rw [HV.out, ← HE.out]; go_num, (hrow.put (k * 64 + j) _).congr (fun i _ => dec_step x k j i hlt2 _ (by rw [← HE.out]; exact mod2 v)), hres.other (by simp) _, hbox.other (by simp; omega) _, hb.setCell (by simp; omega) _⟩
          case measure => simp [intOf]; omega
        · have hrow' : VRow wr (w.heap.size + 1 + 1) 24 256 (dec x (64 * (k + 1))) := by rw [show 64 * (k + 1) = 64 * k + j from by omega]; exact hrow
          clear hrow HV HE
          go_wp2
          go_roundw
          case rel => exact ⟨k + 1, by omega, by go_num, hrow', hres, hbox, hb⟩
          case measure => simp [intOf]; omega
    · obtain ⟨cur, q1, q2, q3⟩ := hrow
      obtain ⟨old, p1, p2, p3⟩ := hres
      clear hbox
      have hone : cur.all (·.oneCell') = true := VArr.one ⟨q2, q3⟩ (fun _ => rfl)
      go_wp2_with (first | (refine wpList_load_row rfl 24 _ rfl (w.heap.size + 1 + 1) rfl 24 cur (0, 0) _ q1 Try.underlying24 rfl (by rw [q2]; exact Try.size24) ?_) | (refine wpList_store_row rfl 24 _ _ rfl (w.heap.size + 1) cur rfl rfl 24 old p1 (by rw [q2]; exact Try.size24) (by rw [q2]; exact p2) hone ?_))
      exact bodyPost_ret (v := .agg cur) (results_cell_row Try.results11 _ _ (w.heap.size + 1) 24 cur (0, 0) _ rfl (setRow_heap _ _ old cur 24 (0, 0) p1) Try.underlying24 rfl (by rw [q2]; exact Try.size24)) rfl ⟨cur, rfl, ⟨q2, fun i hi => by rw [q3 i hi]; simp [dec]; omega⟩, below_setRow' hb (by omega) cur⟩
end Go.Proofs.Qxb6604363a
