import Derived.Test.Qxb6604363aAddRange
namespace Go.Proofs.Qxb6604363a
open Go.RowKit
set_option linter.unusedVariables false

/-- The set with the range's bytes below d joined in. -/
def uni (x : Nat → Nat) (lo hi d i : Nat) : Value := .bool (bit x i || decide (lo ≤ i ∧ i ≤ hi ∧ i < d))
theorem uni_zero (x : Nat → Nat) (lo hi i : Nat) : uni x lo hi 0 i = .bool (bit x i) := by simp [uni]
theorem uni_in (x : Nat → Nat) (lo hi d i : Nat) (h1 : lo ≤ d) (h2 : d ≤ hi) : (if i = d then Value.bool true else uni x lo hi d i) = uni x lo hi (d + 1) i := by
  unfold uni
  by_cases h : i = d
  · subst h; simp [h1, h2]
  · rw [if_neg h]
    congr 2
    rw [decide_eq_decide]; omega
theorem uni_out (x : Nat → Nat) (lo hi d i : Nat) (h : ¬ (lo ≤ d ∧ d ≤ hi)) : uni x lo hi d i = uni x lo hi (d + 1) i := by
  unfold uni
  congr 2
  rw [decide_eq_decide]
  constructor
  · intro h'; omega
  · intro h'
    by_cases e : i = d
    · subst e; omega
    · omega
theorem uni_end (x : Nat → Nat) (lo hi d i : Nat) (h : 256 ≤ d) (hhi : hi < 256) : uni x lo hi d i = .bool (bit x i || decide (lo ≤ i ∧ i ≤ hi)) := by
  unfold uni
  congr 2
  rw [decide_eq_decide]; omega

theorem eql23 (a0 a1 a2 a3 : Int) (h0 : (Lit.int .u64 a0).wf = true) (h1 : (Lit.int .u64 a1).wf = true) (h2 : (Lit.int .u64 a2).wf = true) (h3 : (Lit.int .u64 a3).wf = true) (w : World) :
    (binOp .eql 23 (.agg #[.int .u64 a0, .int .u64 a1, .int .u64 a2, .int .u64 a3]) (.agg #[.int .u64 a0, .int .u64 a1, .int .u64 a2, .int .u64 a3])).run Try.prog w = .ok (.bool true) w := by
  rw [run_eql_struct]
  have hk : Try.prog.keyLits 3 23 [.int .u64 a0, .int .u64 a1, .int .u64 a2, .int .u64 a3] = some [.int .u64 a0, .int .u64 a1, .int .u64 a2, .int .u64 a3] := by
    have c23 : Try.prog.cellsOf 23 = 4 := by kernel_rfl
    have c22 : Try.prog.cellsOf 22 = 1 := by kernel_rfl
    simp [Program.keyLits, Try.underlying23, Try.underlying22, c23, c22, h0, h1, h2, h3, List.range, List.range.loop]
  obtain ⟨r, hr, hi⟩ := run_equalIn_deep (P := Try.prog) 9998 2 23 (by kernel_rfl) w 3 3 (.agg #[.int .u64 a0, .int .u64 a1, .int .u64 a2, .int .u64 a3]) (.agg #[.int .u64 a0, .int .u64 a1, .int .u64 a2, .int .u64 a3]) _ _ (by kernel_rfl) (by kernel_rfl) hk hk
  rw [hr, hi.2 rfl]
  rfl

theorem old_row (w : World) (Y : Array Value) (g : Nat) {o : Option Obj} (hg : g < w.heap.size) (h : w.heap[g]? = o) : (w.alloc (.cells Y 23)).heap[g]? = o := by rw [Below.heap_alloc _ _ _ hg]; exact h
theorem new_row (w : World) (Y : Array Value) : ((w.alloc (.cells Y 23)).alloc (.cells #[Value.int .u64 0, Value.int .u64 0, Value.int .u64 0, Value.int .u64 0] 23)).heap[w.heap.size + 1]? = some (.cells #[Value.int .u64 0, Value.int .u64 0, Value.int .u64 0, Value.int .u64 0] 23 (0, 0)) := heap_alloc2_new w _ _
theorem new_set (w : World) (Y X : Array Value) : ((w.alloc (.cells Y 23)).alloc (.cells #[Value.int .u64 0, Value.int .u64 0, Value.int .u64 0, Value.int .u64 0] 23)).setRow (w.heap.size + 1) X = (w.alloc (.cells Y 23)).alloc (.cells X 23) := by
  have := World.setRow_alloc_new (w.alloc (.cells Y 23)) #[Value.int .u64 0, Value.int .u64 0, Value.int .u64 0, Value.int .u64 0] X 23
  simpa using this

set_option maxRecDepth 100000 in
set_option maxHeartbeats 1000000 in
theorem union_walk (x : Nat → Nat) (hx : ∀ k, x k ≤ 18446744073709551615) (lo hi : Nat) (hlo : lo < 256) (hhi : hi < 256) (w : World) :
    Calls Try.prog 5 #[.agg #[wordV x 0, wordV x 1, wordV x 2, wordV x 3], .int .u8 lo, .int .u8 hi] w fun e w' => e = .returned (.bool true) ∧ Below w.heap.size w w' := by
  go_enter Try.func5, Try.ntmps5
  go_wp2_with fail
  refine (decode_any x hx _).mono ?_
  rintro e w1 ⟨cur, rfl, hcur, hb1⟩
  have hz1 : w.heap.size < w1.heap.size := by have := hb1.size; simp at this; omega
  have hbox1 : VRow w1 w.heap.size 23 4 (wordV x) := (vrow_new w _ 23 4 (wordV x) (words_arr x).1 (words_arr x).2).below hb1 (by simp)
  have hone : cur.all (·.oneCell') = true := hcur.one (fun _ => rfl)
  have hsz : (Try.prog.info? 24).map (·.size) = some cur.size := by rw [hcur.1]; exact Try.size24
  have hold : Try.zeroCells24.size = cur.size := by rw [zero24.1, hcur.1]
  have HC : Hid (VArr cur 256 (fun i => .bool (bit x i))) := hcur
  have hbw : Below w.heap.size w w1 := ((Below.refl _ _).alloc (Nat.le_refl _) _).trans (hb1.mono (by simp))
  clear hcur hb1
  go_wp2_with (refine wpList_store_row rfl 24 _ _ rfl w1.heap.size cur rfl rfl 24 Try.zeroCells24 (heap_alloc_new _ _) hsz hold hone ?_)
  rw [World.setRow_alloc_new]
  have hm0 : VRow (w1.alloc (.cells cur 24)) w1.heap.size 24 256 (uni x lo hi 0) := vrow_new w1 cur 24 256 _ HC.out.1 (fun i hi' => by rw [HC.out.2 i hi', uni_zero])
  have hbox0 := hbox1.alloc (.cells cur 24)
  have hb0 := hbw.alloc (Nat.le_of_lt hz1) (.cells cur 24)
  clear hbox1 hbw hone hsz hold HC
  go_loopw [8] (fun i wr => ∃ d : Nat, d ≤ 256 ∧ i = .int .i64 d ∧ VRow wr w1.heap.size 24 256 (uni x lo hi d) ∧ VRow wr w.heap.size 23 4 (wordV x) ∧ Below w.heap.size w wr) (fun i _ => 256 - (intOf i).toNat)
  case atStart => exact ⟨0, by omega, rfl, hm0, hbox0, hb0⟩
  case round =>
    clear hm0 hbox0 hb0
    obtain ⟨d, hd, rfl, hm, hbox, hb⟩ := hrel
    by_cases hlt : d < 256
    · by_cases h1 : lo ≤ d
      · by_cases h2 : d ≤ hi
        · have hf := hm.frozen d
          have hc := hm.cell hlt
          unfold uni at hc
          go_wp2
          go_roundw
          case rel => exact ⟨d + 1, by omega, by go_num, (hm.put d _).congr (fun i _ => uni_in x lo hi d i h1 h2), hbox.other (by simp; omega) _, hb.setCell (by simp; omega) _⟩
          case measure => simp [intOf]; omega
        · go_wp2
          go_roundw
          case rel => exact ⟨d + 1, by omega, by go_num, hm.congr (fun i _ => uni_out x lo hi d i (by omega)), hbox, hb⟩
          case measure => simp [intOf]; omega
      · have hd' : decide ((lo : Int) ≤ (d : Int)) = false := by simp; omega
        go_wp2
        go_roundw
        case rel => exact ⟨d + 1, by omega, by go_num, hm.congr (fun i _ => uni_out x lo hi d i (by omega)), hbox, hb⟩
        case measure => simp [intOf]; omega
    · obtain ⟨cm, q1, q2, q3⟩ := hm
      have hv : VArr cm 256 (fun i => .bool (bit x i || decide (lo ≤ i ∧ i ≤ hi))) := ⟨q2, fun i hi' => by rw [q3 i hi', uni_end x lo hi d i (by omega) hhi]⟩
      clear q3
      go_wp2_with (refine wpList_load_row rfl 24 _ rfl w1.heap.size rfl 24 cm (0, 0) _ q1 Try.underlying24 rfl (by rw [q2]; exact Try.size24) ?_)
      refine (encode_any (fun i => bit x i || decide (lo ≤ i ∧ i ≤ hi)) cm hv _).mono ?_
      rintro e w2 ⟨rfl, hb2⟩
      clear hv q1 q2
      have hbox2 := hbox.below hb2 hbox.lt
      have hbb := hb.trans (hb2.mono hb.size)
      clear hbox hb hb2
      have hz2 : w.heap.size < w2.heap.size := hbox2.lt
      obtain ⟨y, hy⟩ : ∃ y : Nat → Nat, y = (hiTo (fun i => bit x i || decide (lo ≤ i ∧ i ≤ hi)) · 64) := ⟨_, rfl⟩
      have HY : Hid (y = (hiTo (fun i => bit x i || decide (lo ≤ i ∧ i ≤ hi)) · 64)) := hy
      rw [← hy]
      clear hy
      have hone : #[wordV y 0, wordV y 1, wordV y 2, wordV y 3].all (·.oneCell') = true := (words_arr y).one (fun _ => rfl)
      have honex : #[wordV x 0, wordV x 1, wordV x 2, wordV x 3].all (·.oneCell') = true := (words_arr x).one (fun _ => rfl)
      obtain ⟨cs, p1, p2, p3⟩ := hbox2
      have hcs : cs = #[wordV x 0, wordV x 1, wordV x 2, wordV x 3] := VArr.ext ⟨p2, p3⟩ (words_arr x)
      subst hcs
      clear p2 p3
      have hp1 := old_row w2 #[wordV y 0, wordV y 1, wordV y 2, wordV y 3] w.heap.size hz2 p1
      have hnew := new_row w2 #[wordV y 0, wordV y 1, wordV y 2, wordV y 3]
      have HS : Hid (∀ X, ((w2.alloc (.cells #[wordV y 0, wordV y 1, wordV y 2, wordV y 3] 23)).alloc (.cells #[Value.int .u64 0, Value.int .u64 0, Value.int .u64 0, Value.int .u64 0] 23)).setRow (w2.heap.size + 1) X = (w2.alloc (.cells #[wordV y 0, wordV y 1, wordV y 2, wordV y 3] 23)).alloc (.cells X 23)) := fun X => new_set w2 _ X
      go_wp2_with (first
        | (refine wpList_store_row rfl 23 (.tmp 9) (.tmp 30) rfl w2.heap.size #[wordV y 0, wordV y 1, wordV y 2, wordV y 3] rfl rfl 23 #[Value.int .u64 0, Value.int .u64 0, Value.int .u64 0, Value.int .u64 0] (heap_alloc_new _ _) Try.size23 rfl hone ?_; rw [World.setRow_alloc_new])
        | (refine wpList_load_row rfl 23 (.tmp 3) rfl w.heap.size rfl 23 #[wordV x 0, wordV x 1, wordV x 2, wordV x 3] (0, 0) _ hp1 Try.underlying23 rfl Try.size23 ?_)
        | (refine wpList_store_row rfl 23 (.tmp 10) (.tmp 31) rfl (w2.heap.size + 1) #[wordV x 0, wordV x 1, wordV x 2, wordV x 3] rfl rfl 23 #[Value.int .u64 0, Value.int .u64 0, Value.int .u64 0, Value.int .u64 0] hnew Try.size23 rfl honex ?_; rw [HS.out]))
      clear hp1 hnew HS hone honex p1
      have hrx : VRow ((w2.alloc (.cells #[wordV y 0, wordV y 1, wordV y 2, wordV y 3] 23)).alloc (.cells #[wordV x 0, wordV x 1, wordV x 2, wordV x 3] 23)) (w2.heap.size + 1) 23 4 (wordV x) := by
        have := vrow_new (w2.alloc (.cells #[wordV y 0, wordV y 1, wordV y 2, wordV y 3] 23)) #[wordV x 0, wordV x 1, wordV x 2, wordV x 3] 23 4 (wordV x) (words_arr x).1 (words_arr x).2
        simpa using this
      have hry : VRow ((w2.alloc (.cells #[wordV y 0, wordV y 1, wordV y 2, wordV y 3] 23)).alloc (.cells #[wordV x 0, wordV x 1, wordV x 2, wordV x 3] 23)) w2.heap.size 23 4 (wordV y) := (vrow_new w2 _ 23 4 (wordV y) (words_arr y).1 (words_arr y).2).alloc _
      have hb3 : Below w.heap.size w ((w2.alloc (.cells #[wordV y 0, wordV y 1, wordV y 2, wordV y 3] 23)).alloc (.cells #[wordV x 0, wordV x 1, wordV x 2, wordV x 3] 23)) := (hbb.alloc (Nat.le_of_lt hz2) _).alloc (by simp; omega) _
      refine (zzAddRange_any x hx (w2.heap.size + 1) lo hi hlo hhi _ hrx).mono ?_
      rintro e w3 ⟨rfl, y3, hy3, hbit, hr3, hb3'⟩
      have hrow3 : VRow w3 (w2.heap.size + 1) 23 4 (wordV y) := hr3.congr (fun k hk => by unfold wordV; rw [word_eq y3 hy3 _ (fun i _ => hbit i) k hk, HY.out])
      have hry3 := hry.below hb3' (by omega)
      have hb4 := hb3.trans (hb3'.mono (by omega))
      have hwf : ∀ k, (Lit.int .u64 (y k : Int)).wf = true := fun k => by
        have h1 : y k < 2 ^ 64 := by rw [HY.out]; exact hiTo_lt _ k 64
        exact WalkArith.wf_u64 (by omega)
      have heq : ∀ wx : World, (binOp .eql 23 (.agg #[wordV y 0, wordV y 1, wordV y 2, wordV y 3]) (.agg #[wordV y 0, wordV y 1, wordV y 2, wordV y 3])).run Try.prog wx = .ok (.bool true) wx := fun wx => eql23 _ _ _ _ (hwf 0) (hwf 1) (hwf 2) (hwf 3) wx
      clear hrx hry hb3 hy3 hbit hr3 hb3' HY hwf
      obtain ⟨c1, s1, s2, s3⟩ := hrow3
      have hc1 : c1 = #[wordV y 0, wordV y 1, wordV y 2, wordV y 3] := VArr.ext ⟨s2, s3⟩ (words_arr y)
      subst hc1
      obtain ⟨c2, t1, t2, t3⟩ := hry3
      have hc2 : c2 = #[wordV y 0, wordV y 1, wordV y 2, wordV y 3] := VArr.ext ⟨t2, t3⟩ (words_arr y)
      subst hc2
      clear s2 s3 t2 t3
      go_wp2_with (first
        | (refine wpList_load_row rfl 23 (.tmp 10) rfl (w2.heap.size + 1) rfl 23 #[wordV y 0, wordV y 1, wordV y 2, wordV y 3] (0, 0) _ s1 Try.underlying23 rfl Try.size23 ?_)
        | (refine wpList_load_row rfl 23 (.tmp 9) rfl w2.heap.size rfl 23 #[wordV y 0, wordV y 1, wordV y 2, wordV y 3] (0, 0) _ t1 Try.underlying23 rfl Try.size23 ?_))
      go_ret
      exact ⟨rfl, hb4⟩
end Go.Proofs.Qxb6604363a
