import Derived.Test.Qxb6604363aEmit2
namespace Go.Proofs.Qxb6604363a
open Go.RowKit
set_option linter.unusedVariables false

set_option maxRecDepth 100000 in
set_option maxHeartbeats 1600000 in
/-- 'body': the look-around's instruction takes its kind and width; then its bytes and the end. -/
theorem body_any (is : List Ins) (g h h2 : Nat) (v : Value) (fold b1 b2 : Bool) (bs : List Int) (w : World) (hc : Comp w g v (is ++ [⟨12, false, 0, false, false, 0, 0, 0, 0⟩])) (hl : is.length ≤ 66000) (hb : bs.length ≤ 66000) (hw : Wraps w h h2 9 b1 b2) (hn : BNode w h2 fold bs) :
    Calls Try.prog 52 #[.pointer (some ⟨g, 0, none⟩), .int .i64 is.length, .pointer (some ⟨h, 0, none⟩)] w fun e w' => e = .returned (.tuple #[]) ∧
      ∃ v', Comp w' g v' (is ++ ⟨12, false, 0, b1, b2, bs.length, 0, 0, 0⟩ :: (bs.map (byteIns fold) ++ [⟨15, false, 0, false, false, 0, 0, 0, 0⟩])) ∧ Fr g w w' := by
  obtain ⟨cur, r, row, n, n0, n1, n19, n20, r0, r1⟩ := hw
  have h1 := cell_block n n1
  have h19 := cell_block n n19
  have h20 := cell_block n n20
  have hr := cell_block r0 r1
  obtain ⟨gg, cap, rfl⟩ := comp_form hc (by simp)
  obtain ⟨s1, f1⟩ := comp_set w g gg _ cap is [] ⟨12, false, 0, false, false, 0, 0, 0, 0⟩ ⟨12, false, 0, b1, false, 0, 0, 0, 0⟩ 3 (.bool b1) hc (by omega) rfl
  obtain ⟨s2, f2⟩ := comp_set _ g gg _ cap is [] ⟨12, false, 0, b1, false, 0, 0, 0, 0⟩ ⟨12, false, 0, b1, b2, 0, 0, 0, 0⟩ 4 (.bool b2) s1 (by omega) rfl
  obtain ⟨s3, f3⟩ := comp_set _ g gg _ cap is [] ⟨12, false, 0, b1, b2, 0, 0, 0, 0⟩ ⟨12, false, 0, b1, b2, bs.length, 0, 0, 0⟩ 5 (.int .i32 bs.length) s2 (by omega) rfl
  have hfr := (f1.trans (f2.trans f3)).drew
  clear s1 s2 f1 f2 f3
  have p0 := cell_block hc.1 (j := 0) rfl
  obtain ⟨p3, q3⟩ := comp_cell hc (j := 3) (u := .bool false) (by omega) rfl
  obtain ⟨p4, q4⟩ := comp_cell hc (j := 4) (u := .bool false) (by omega) rfl
  obtain ⟨p5, q5⟩ := comp_cell hc (j := 5) (u := .int .i32 0) (by omega) rfl
  go_enter Try.func52, Try.ntmps52
  go_wp2_with fail
  refine (width_bytes h2 fold bs _ (by omega) hn).mono ?_
  rintro e w0 ⟨rfl, rfl⟩
  go_wp2_with fail
  go_region
  have k1 := cell_block (hfr.keeps _ _ _ _ (by decide) (by decide) n) n1
  have k2 := cell_block (hfr.keeps _ _ _ _ (by decide) (by decide) r0) r1
  have hn2 := hn.kept hfr.keeps
  clear h1 h19 h20 hr p0 p3 q3 p4 q4 p5 q5 hc hn n n0 n1 n19 n20 r0 r1
  generalize hw2 : ((((w0.setCell ⟨gg, is.length * 9 + 3, none⟩ (.bool b1)).setCell ⟨gg, is.length * 9 + 4, none⟩ (.bool b2)).setCell ⟨gg, is.length * 9 + 5, none⟩ (.int .i32 bs.length)).drew) = w2 at *
  have s4 : Comp w2 g (.slice (some ⟨gg, 0, none⟩) (is ++ [(⟨12, false, 0, false, false, 0, 0, 0, 0⟩ : Ins)]).length cap) (is ++ [⟨12, false, 0, b1, b2, bs.length, 0, 0, 0⟩]) := by rw [← hw2]; exact s3
  clear s3 hw2
  go_wp2_with fail
  refine (emit_bytes _ g h2 _ fold bs _ s4 (by simp; omega) (by omega) hn2).mono ?_
  rintro e w3 ⟨rfl, v3, hc3, hfr3⟩
  clear k1 k2 s4 hn2
  go_wp2_with fail
  refine (add_raw _ _ _ _ _ _ _ _ _ _ g v3 _ hc3 (by simp; omega)).mono ?_
  rintro e w4 ⟨rfl, v4, hc4, hfr4⟩
  have hc5 : Comp w4 g v4 (is ++ ⟨12, false, 0, b1, b2, bs.length, 0, 0, 0⟩ :: (bs.map (byteIns fold) ++ [⟨15, false, 0, false, false, 0, 0, 0, 0⟩])) := by
    have e : is ++ [⟨12, false, 0, b1, b2, bs.length, 0, 0, 0⟩] ++ bs.map (byteIns fold) ++ [⟨15, false, 0, false, false, 0, 0, 0, 0⟩] = is ++ (⟨12, false, 0, b1, b2, bs.length, 0, 0, 0⟩ : Ins) :: (bs.map (byteIns fold) ++ [⟨15, false, 0, false, false, 0, 0, 0, 0⟩]) := by simp
    rw [← e]; exact hc4
  clear hc4 hc3
  have hfin := (hfr.trans hfr3).trans hfr4
  clear hfr hfr3 hfr4
  go_wp2_with fail
  go_end0
  exact ⟨rfl, v4, hc5, hfin⟩

set_option maxRecDepth 100000 in
set_option maxHeartbeats 1600000 in
theorem emit_look (is : List Ins) (g h h2 : Nat) (v : Value) (fold b1 b2 : Bool) (bs : List Int) (w : World) (hc : Comp w g v is) (hl : is.length ≤ 66000) (hb : bs.length ≤ 66000) (hw : Wraps w h h2 9 b1 b2) (hn : BNode w h2 fold bs) :
    Calls Try.prog 43 #[.pointer (some ⟨g, 0, none⟩), .pointer (some ⟨h, 0, none⟩)] w fun e w' => e = .returned (.tuple #[]) ∧
      ∃ v', Comp w' g v' (is ++ ⟨12, false, 0, b1, b2, bs.length, 0, 0, is.length + bs.length + 2⟩ :: (bs.map (byteIns fold) ++ [⟨15, false, 0, false, false, 0, 0, 0, 0⟩])) ∧ Fr g w w' := by
  have hw0 := hw
  obtain ⟨cur, r, row, n, n0, n1, _, _, r0, r1⟩ := hw
  have h0 := cell_block n n0
  go_enter Try.func43, Try.ntmps43
  go_wp2_with fail
  refine (add_raw _ _ _ _ _ _ _ _ _ is g v _ hc (by omega)).mono ?_
  rintro e w1 ⟨rfl, v1, hc1, hfr1⟩
  have hw1 := hw0.kept hfr1.keeps
  have hn1 := hn.kept hfr1.keeps
  clear h0 hw0 n n0 n1 r0 r1
  go_wp2_with fail
  refine (body_any is g h h2 v1 fold b1 b2 bs _ hc1 hl hb hw1 hn1).mono ?_
  rintro e w3 ⟨rfl, v3, hc4, hfr3⟩
  have hfr := hfr1.trans hfr3
  clear hfr1 hfr3 hc hc1 hn hw1 hn1
  have hlen : (is ++ (⟨12, false, 0, b1, b2, bs.length, 0, 0, 0⟩ : Ins) :: (bs.map (byteIns fold) ++ [⟨15, false, 0, false, false, 0, 0, 0, 0⟩])).length = is.length + bs.length + 2 := by simp; omega
  obtain ⟨gg, cap, rfl⟩ := comp_form hc4 (by rw [hlen]; omega)
  rw [hlen] at hc4
  have p0 := cell_block hc4.1 (j := 0) rfl
  obtain ⟨p1, p2⟩ := comp_cell hc4 (j := 8) (u := .int .i32 0) (by omega) rfl
  have hset := comp_set w3 g gg _ cap is (bs.map (byteIns fold) ++ [⟨15, false, 0, false, false, 0, 0, 0, 0⟩]) ⟨12, false, 0, b1, b2, bs.length, 0, 0, 0⟩ ⟨12, false, 0, b1, b2, bs.length, 0, 0, is.length + bs.length + 2⟩ 8 (.int .i32 (is.length + bs.length + 2)) hc4 (by omega) rfl
  have HL : Hid _ := hlen
  clear hlen
  go_wp2_with fail
  go_region_with ((go_at_call 53; refine (next_len _ _ g _ _ (by exact hc4) HL.out (by omega)).mono ?_; rintro e w' ⟨rfl, rfl⟩))
  all_goals
    go_wp2
    go_end0
    exact ⟨rfl, _, (by exact hset.1), (hfr.trans hset.2).drew⟩
end Go.Proofs.Qxb6604363a
