import Derived.Test.Qxb6604363aRows
import Derived.Test.Qxb6604363aHead
import Derived.Test.Qxb6604363aUnion
import Derived.WalkKit
import Derived.ProofKit
import Derived.OpenShut
import Derived.ShutString
namespace Go.Proofs.Qxb6604363a.fnByteSetAddRangeIsIntervalUnion
open Go.ChangeShapes Go.WideShapes Go.ChangeAt Go.RowKit
set_option linter.unusedVariables false
set_option linter.constructorNameAsVariable false

theorem own : ownKnob Try.prog.godebug = none := by kernel_rfl
theorem laidOut : laidOutB Try.prog = true := by kernel_rfl
theorem cells23 : Try.prog.cellsOf 23 = 4 := by kernel_rfl
theorem cells22 : Try.prog.cellsOf 22 = 1 := by kernel_rfl

theorem four {cs : Array Value} (h : cs.size = 4) : ∃ c0 c1 c2 c3, cs = #[c0, c1, c2, c3] := by
  obtain ⟨l⟩ := cs
  match l, h with
  | [c0, c1, c2, c3], _ => exact ⟨c0, c1, c2, c3, rfl⟩

/-- An array of four words that came in, by value: four numbers, each fitting a word. -/
theorem open_words {H : Type} {enc : TypeId × Value → H} {W : World} {base b0 : Nat} {spare : Nat → Bool} {held : Bool} {r : Reach} {v : Value} {d : DataW H} {p : List MemPlace}
    (hv : Value.okWide Try.prog W r b0 23 v) (h : DataW.Trod enc Try.prog W base spare held 23 v d p) :
    ∃ x : Nat → Nat, (∀ k, x k ≤ 18446744073709551615) ∧ v = .agg #[wordV x 0, wordV x 1, wordV x 2, wordV x 3] := by
  obtain ⟨cs, rfl, hsz⟩ : ∃ cs, v = .agg cs ∧ cs.size = Try.prog.cellsOf 23 := by
    simp only [Value.okWide, Try.underlying23] at hv
    obtain ⟨cs, h1, h2, _⟩ := hv
    exact ⟨cs, h1, h2⟩
  obtain ⟨c0, c1, c2, c3, rfl⟩ := four (hsz.trans cells23)
  obtain ⟨fuel, hf⟩ := h
  obtain ⟨xs, m, _, _, _, hl, hg⟩ := DataW.trod_array Try.underlying23 hf
  have one : ∀ (i : Nat) (c : Value), i < 4 → (((#[c0, c1, c2, c3] : Array Value).toList.drop (i * 1)).take 1) = [c] → ∃ n : Nat, n ≤ 18446744073709551615 ∧ c = .int .u64 n := by
    intro i c hi hc
    have h1 := hg i hi
    rw [cells22] at h1
    have h2 : (Value.agg #[c0, c1, c2, c3]).cells = #[c0, c1, c2, c3] := rfl
    rw [h2, hc, List.getElem?_eq_getElem (by omega)] at h1
    obtain ⟨n, e1, _, wf⟩ := DataW.trod_int Try.underlying22 h1
    have hb := bounds_u64 wf
    obtain ⟨k, rfl⟩ := Int.eq_ofNat_of_zero_le hb.1
    simp at e1
    exact ⟨k, by omega, e1⟩
  obtain ⟨n0, b0', rfl⟩ := one 0 c0 (by omega) rfl
  obtain ⟨n1, b1', rfl⟩ := one 1 c1 (by omega) rfl
  obtain ⟨n2, b2', rfl⟩ := one 2 c2 (by omega) rfl
  obtain ⟨n3, b3', rfl⟩ := one 3 c3 (by omega) rfl
  refine ⟨fun k => if k = 0 then n0 else if k = 1 then n1 else if k = 2 then n2 else n3, fun k => ?_, rfl⟩
  show (if k = 0 then n0 else if k = 1 then n1 else if k = 2 then n2 else n3) ≤ _
  split
  · exact b0'
  · split
    · exact b1'
    · split
      · exact b2'
      · exact b3'

set_option maxRecDepth 100000 in
theorem lifted (os : Os) (started : os.Started) (H : Type) (enc : TypeId × Value → H) :
    ReturnsInHanded {} Try.checked os 5 .any (Rows.fnByteSetAddRangeIsIntervalUnionSpec.pre6 enc Try.prog Try.f5 Rows.fnByteSetAddRangeIsIntervalUnionRow.domain false) (Rows.fnByteSetAddRangeIsIntervalUnionSpec.post enc Try.prog Try.f5 false true false false) := by
  refine returnsInHanded_of_change (C := Try.checked) own started (by kernel_rfl) Try.func5
    (ChangeSpec.witness6 (enc := enc) (C := Try.checked) false ⟨#[], #[.agg #[.int .u64 0, .int .u64 0, .int .u64 0, .int .u64 0], .int .u8 0, .int .u8 0], []⟩ 8 (by kernel_rfl) (by kernel_rfl) (by kernel_rfl) (by kernel_rfl)) ?_
  intro W base args ds gs before hval0 hW hcnd _
  have hval : ∀ (j : Nat) t v, Try.f5.params[j]? = some t → args[j]? = some v → Value.okWide Try.prog W .any base t v := hval0
  have hW' := hW
  obtain ⟨p, q, hA0, hV, rfl, hfz, hnd⟩ := hW
  have hA : DataW.TrodAll enc Try.prog W 0 (fun _ => true) true Try.f5.params.toList args.toList ds p := hA0
  rw [Try.params5] at hA hval
  obtain ⟨v0, vs0, d0, ds0, p0, q0, hargs, rfl, rfl, h0, r0⟩ := trodAll_cons hA
  obtain ⟨v1, vs1, d1, ds1, p1, q1, rfl, rfl, rfl, h1, r1⟩ := trodAll_cons r0
  obtain ⟨v2, vs2, d2, ds2, p2, q2, rfl, rfl, rfl, h2, r2⟩ := trodAll_cons r1
  obtain ⟨rfl, rfl, rfl⟩ := trodAll_nil r2
  obtain rfl : args = #[v0, v1, v2] := by cases args; simp_all
  obtain ⟨rfl, rfl⟩ := trodVars_none hV
  have k0 := h0
  have lt0 : ∀ x ∈ p0, x.block < W.heap.size := by obtain ⟨m, hm⟩ := k0; exact DataW.trod_lt m _ _ _ hm
  obtain ⟨x, hx, rfl⟩ := open_words (hval 0 23 v0 rfl rfl) h0
  obtain ⟨a1, rfl, rfl, rfl, w1⟩ := open_int Try.underlying5 (hval 1 5 v1 rfl rfl) h1
  obtain ⟨a2, rfl, rfl, rfl, w2⟩ := open_int Try.underlying5 (hval 2 5 v2 rfl rfl) h2
  clear hA0 hval0
  have b1 := bounds_u8 w1
  have b2 := bounds_u8 w2
  obtain ⟨lo, rfl⟩ := Int.eq_ofNat_of_zero_le b1.1
  obtain ⟨hi, rfl⟩ := Int.eq_ofNat_of_zero_le b2.1
  refine (union_walk x hx lo hi (by omega) (by omega) W).mono fun e W' ⟨he, bel⟩ => ?_
  subst he
  exact ⟨_, rfl, _, _, _, [], _, [], hW', trodAll_mk1 (shut_bool Try.underlying4 _), (trodAll_cons_mk (Below.trod laidOut (by kernel_rfl) (of_decide_eq_true (by kernel_rfl)) k0 bel lt0) (trodAll_cons_mk (shut_int Try.underlying5 w1) (trodAll_cons_mk (shut_int Try.underlying5 w2) trodAll_mk0))), rfl, bel.frame _, fun h => by cases h⟩

/-- The row's closed facts, each by itself (in one piece the kernel outgrows its memory at the translation's long head). -/
theorem closed : joinedFacts Try.prog 5 Try.f5 Rows.fnByteSetAddRangeIsIntervalUnionSpec Rows.fnByteSetAddRangeIsIntervalUnionRow = true := by
  unfold joinedFacts
  iterate 4 refine and_mk ?_ (by as_aux_lemma => kernel_rfl)
  refine and_mk (and_mk (and_mk ?_ head_mayEnter) head_lifts) head_make
  iterate 24 refine and_mk ?_ (by as_aux_lemma => kernel_rfl)
  kernel_rfl

theorem over : Rows.fnByteSetAddRangeIsIntervalUnionRow.holds Try.pinned (OpenSpec.ofChange Rows.fnByteSetAddRangeIsIntervalUnionSpec) :=
  OpenClaim.holds_of_wide 5 Try.f5 rfl rfl rfl rfl rfl rfl rfl ⟨rfl, rfl, rfl, rfl, rfl⟩ rfl rfl rfl rfl rfl (by kernel_rfl) Try.func5 closed
    (of_decide_eq_true (by kernel_rfl)) (by unfold Func.isWrapper; first | (rw [if_pos (by decide +kernel)]; kernel_rfl) | (rw [if_neg (by decide +kernel)]; exact ⟨rfl, rfl⟩))
    (fun os started H enc _ => lifted os started H enc)

/-- THE STATEMENT -/
theorem proved : Rows.FnByteSetAddRangeIsIntervalUnionSaid := over
end Go.Proofs.Qxb6604363a.fnByteSetAddRangeIsIntervalUnion
