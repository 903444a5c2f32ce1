import Derived.Test.Qxb6604404aGate
namespace Go.Proofs.Qxb6604404a
open Go.RowKit
set_option linter.unusedVariables false

/-- A call answers an int from nought to 1 << 20 + 1, and leaves the world as it was. -/
def IntOk (w : World) (e : Ending) (w' : World) : Prop := ∃ r : Int, e = .returned (.int .i64 r) ∧ 0 ≤ r ∧ r ≤ 1048577 ∧ w' = w

set_option maxRecDepth 100000 in
set_option maxHeartbeats 1600000 in
theorem zz_add (a b : Int) (w : World) (ha : 0 ≤ a) (hb : 0 ≤ b) (ha' : a ≤ 9223372036854775807) (hb' : b ≤ 9223372036854775807) :
    Calls Try.prog 18 #[.int .i64 a, .int .i64 b] w fun e w' => IntOk w e w' := by
  by_cases h1 : 1048576 < a
  · go_enter Try.func18, Try.ntmps18
    go_wp2
    go_ret
    exact ⟨_, rfl, by omega, by omega, rfl⟩
  · by_cases h2 : 1048576 < b
    · go_enter Try.func18, Try.ntmps18
      go_wp2
      go_ret
      exact ⟨_, rfl, by omega, by omega, rfl⟩
    · by_cases h3 : 1048576 < a + b
      · go_enter Try.func18, Try.ntmps18
        go_wp2
        go_ret
        exact ⟨_, rfl, by omega, by omega, rfl⟩
      · go_enter Try.func18, Try.ntmps18
        go_wp2
        go_ret
        exact ⟨a + b, rfl, by omega, by omega, rfl⟩

set_option maxRecDepth 100000 in
set_option maxHeartbeats 1600000 in
theorem zz_words (n : Int) (w : World) (h : 0 ≤ n) (h' : n ≤ 9223372036854775807) :
    Calls Try.prog 25 #[.int .i64 n] w fun e w' => IntOk w e w' := by
  by_cases h1 : 131072 < n
  · go_enter Try.func25, Try.ntmps25
    go_wp2
    go_ret
    exact ⟨_, rfl, by omega, by omega, rfl⟩
  · go_enter Try.func25, Try.ntmps25
    go_wp2
    go_ret
    exact ⟨8 * n, rfl, by omega, by omega, rfl⟩

set_option maxRecDepth 100000 in
set_option maxHeartbeats 1600000 in
theorem zz_pick_bytes (n : Int) (ao : Option Addr) (c : Nat) (ps : List Pk) (w : World) (h : 0 ≤ n) (h' : n ≤ 1048577) (hp : Picks w ao ps) (hl : ps.length ≤ maxLen) (ok : ∀ p ∈ ps, p.ok) :
    Calls Try.prog 24 #[.int .i64 n, .slice ao ps.length c] w fun e w' => IntOk w e w' := by
  have OK : Hid (∀ p ∈ ps, p.ok) := ok
  have HP : Hid (Picks w ao ps) := hp
  unfold maxLen at hl
  clear ok hp
  go_enter Try.func24, Try.ntmps24
  go_wp2
  go_loop [0, 5] (fun z i => ∃ (k : Nat) (zn : Int), k ≤ ps.length ∧ 0 ≤ zn ∧ zn ≤ 1048577 ∧ z = .int .i64 zn ∧ i = .int .i64 k) (fun _ i => ps.length - (intOf i).toNat)
  case atStart => exact ⟨0, n, by omega, by omega, by omega, rfl, rfl⟩
  case round =>
    obtain ⟨k, zn, hk, hz0, hz1, rfl, rfl⟩ := hrel
    by_cases hlt : k < ps.length
    · by_cases hz : zn ≤ 1048576
      · obtain ⟨g, off, e, q⟩ := HP.out k hlt
        cases e
        obtain ⟨q0, q1, q2⟩ := q
        have ob := OK.out _ (mem_getD' hlt)
        have od := ob.2.1
        have oe := ob.2.2
        unfold maxLen at od oe
        clear ob
        generalize ps.getD k pk0 = l at q0 q1 q2 od oe
        go_wp2_with fail
        refine (zz_add _ _ w (by omega) (by omega) (by omega) (by omega)).mono ?_
        rintro e w1 ⟨r1, rfl, h1, h1', rfl⟩
        go_wp2_with fail
        refine (zz_add _ _ _ (by omega) (by omega) (by omega) (by omega)).mono ?_
        rintro e w1 ⟨r2, rfl, h2, h2', rfl⟩
        go_wp2_with fail
        refine (zz_add _ _ _ (by omega) (by omega) (by omega) (by omega)).mono ?_
        rintro e w1 ⟨r3, rfl, h3, h3', rfl⟩
        go_wp2
        go_round
        case rel => exact ⟨k + 1, r3, by omega, by omega, by omega, rfl, by go_num⟩
        case measure => simp [intOf]; omega
      · go_wp2
        go_ret
        exact ⟨_, rfl, by omega, by omega, rfl⟩
    · go_wp2
      go_ret
      exact ⟨_, rfl, by omega, by omega, rfl⟩

set_option maxRecDepth 100000 in
set_option maxHeartbeats 1600000 in
theorem zz_narrow_bytes (a1 a2 a3 a4 a5 : Option Addr) (c1 c2 c3 c4 c5 : Nat) (ls : List Ls) (ks ps os qs : List Pk) (m : ByteArray) (w : World)
    (h1 : Lists w a1 ls) (h2 : Picks w a2 ks) (h3 : Picks w a3 ps) (h4 : Picks w a4 os) (h5 : Picks w a5 qs) (hm : m.size ≤ maxLen)
    (l1 : ls.length ≤ maxLen) (l2 : ks.length ≤ maxLen) (l3 : ps.length ≤ maxLen) (l4 : os.length ≤ maxLen) (l5 : qs.length ≤ maxLen)
    (o1 : ∀ i, i < ls.length → (ls.getD i ls0).mesh.size ≤ maxLen ∧ (ls.getD i ls0).pk.ok ∧ (ls.getD i ls0).n ≤ maxLen) (o2 : ∀ p ∈ ks, p.ok) (o3 : ∀ p ∈ ps, p.ok) (o4 : ∀ p ∈ os, p.ok) (o5 : ∀ p ∈ qs, p.ok) :
    Calls Try.prog 8 #[.slice a1 ls.length c1, .slice a2 ks.length c2, .string m, .slice a3 ps.length c3, .slice a4 os.length c4, .slice a5 qs.length c5] w fun e w' => IntOk w e w' := by
  have B2 : Hid (∀ n : Int, 0 ≤ n → n ≤ 1048577 → Calls Try.prog 24 #[.int .i64 n, .slice a2 ks.length c2] w fun e w' => IntOk w e w') := fun n h h' => zz_pick_bytes n a2 c2 ks w h h' h2 l2 o2
  have B3 : Hid (∀ n : Int, 0 ≤ n → n ≤ 1048577 → Calls Try.prog 24 #[.int .i64 n, .slice a3 ps.length c3] w fun e w' => IntOk w e w') := fun n h h' => zz_pick_bytes n a3 c3 ps w h h' h3 l3 o3
  have B4 : Hid (∀ n : Int, 0 ≤ n → n ≤ 1048577 → Calls Try.prog 24 #[.int .i64 n, .slice a4 os.length c4] w fun e w' => IntOk w e w') := fun n h h' => zz_pick_bytes n a4 c4 os w h h' h4 l4 o4
  have B5 : Hid (∀ n : Int, 0 ≤ n → n ≤ 1048577 → Calls Try.prog 24 #[.int .i64 n, .slice a5 qs.length c5] w fun e w' => IntOk w e w') := fun n h h' => zz_pick_bytes n a5 c5 qs w h h' h5 l5 o5
  have O1 : Hid (∀ i, i < ls.length → (ls.getD i ls0).mesh.size ≤ maxLen ∧ (ls.getD i ls0).pk.ok ∧ (ls.getD i ls0).n ≤ maxLen) := o1
  have H1 : Hid (Lists w a1 ls) := h1
  unfold maxLen at hm l1
  clear o1 o2 o3 o4 o5 h1 h2 h3 h4 h5 l2 l3 l4 l5
  go_enter Try.func8, Try.ntmps8
  go_wp2_with fail
  refine (zz_add _ _ w (by omega) (by omega) (by omega) (by omega)).mono ?_
  rintro e w1 ⟨r1, rfl, h1, h1', rfl⟩
  go_wp2_with fail
  refine (B2.out _ (by omega) (by omega)).mono ?_
  rintro e w1 ⟨r2, rfl, h2, h2', rfl⟩
  go_wp2_with fail
  refine (B3.out _ (by omega) (by omega)).mono ?_
  rintro e w1 ⟨r3, rfl, h3, h3', rfl⟩
  go_wp2_with fail
  refine (B4.out _ (by omega) (by omega)).mono ?_
  rintro e w1 ⟨r4, rfl, h4, h4', rfl⟩
  go_wp2_with fail
  refine (B5.out _ (by omega) (by omega)).mono ?_
  rintro e w1 ⟨r5, rfl, h5, h5', rfl⟩
  clear B2 B3 B4 B5
  go_wp2
  go_loop [13, 14] (fun z i => ∃ (k : Nat) (zn : Int), k ≤ ls.length ∧ 0 ≤ zn ∧ zn ≤ 1048577 ∧ z = .int .i64 zn ∧ i = .int .i64 k) (fun _ i => ls.length - (intOf i).toNat)
  case atStart => exact ⟨0, r5, by omega, by omega, by omega, rfl, rfl⟩
  case round =>
    obtain ⟨k, zn, hk, hz0, hz1, rfl, rfl⟩ := hrel
    by_cases hlt : k < ls.length
    · by_cases hz : zn ≤ 1048576
      · obtain ⟨g, off, e, hp⟩ := H1.out k hlt
        cases e
        obtain ⟨q0, ⟨q1, q2, q3⟩, a, c, q4⟩ := hp
        obtain ⟨oa, ob, oc⟩ := O1.out k hlt
        have od := ob.2.1
        have oe := ob.2.2
        unfold maxLen at oa oc od oe
        clear ob
        generalize ls.getD k ls0 = l at q0 q1 q2 q3 q4 oa oc od oe
        go_wp2_with fail
        refine (zz_add _ _ _ (by omega) (by omega) (by omega) (by omega)).mono ?_
        rintro e w1 ⟨r1, rfl, h1, h1', rfl⟩
        go_wp2_with fail
        refine (zz_add _ _ _ (by omega) (by omega) (by omega) (by omega)).mono ?_
        rintro e w1 ⟨r2, rfl, h2, h2', rfl⟩
        go_wp2_with fail
        refine (zz_add _ _ _ (by omega) (by omega) (by omega) (by omega)).mono ?_
        rintro e w1 ⟨r3, rfl, h3, h3', rfl⟩
        go_wp2_with fail
        refine (zz_add _ _ _ (by omega) (by omega) (by omega) (by omega)).mono ?_
        rintro e w1 ⟨r4, rfl, h4, h4', rfl⟩
        go_wp2_with fail
        refine (zz_words _ _ (by omega) (by omega)).mono ?_
        rintro e w1 ⟨r6, rfl, h6, h6', rfl⟩
        go_wp2_with fail
        refine (zz_add _ _ _ (by omega) (by omega) (by omega) (by omega)).mono ?_
        rintro e w1 ⟨r7, rfl, h7, h7', rfl⟩
        go_wp2
        go_round
        case rel => exact ⟨k + 1, r7, by omega, by omega, by omega, rfl, by go_num⟩
        case measure => simp [intOf]; omega
      · go_wp2
        go_ret
        exact ⟨_, rfl, by omega, by omega, rfl⟩
    · go_wp2
      go_ret
      exact ⟨_, rfl, by omega, by omega, rfl⟩
end Go.Proofs.Qxb6604404a
