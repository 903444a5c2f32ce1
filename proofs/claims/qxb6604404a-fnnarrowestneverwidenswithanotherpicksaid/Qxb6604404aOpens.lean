import Derived.Test.Qxb6604404aRows
import Derived.Test.Qxb6604404aLawFour
import Derived.OpenShut
import Derived.Deep.Slices
namespace Go.Proofs.Qxb6604404a
open Go.ChangeShapes Go.WideShapes Go.ChangeAt Go.RowKit Go.Deep
set_option linter.unusedVariables false

/-! ### FROM THE READING OF AN ARGUMENT TO ITS SHAPE -/
theorem Try.cells38 : Try.prog.cellsOf 38 = 3 := by kernel_rfl
theorem Try.cells52 : Try.prog.cellsOf 52 = 5 := by kernel_rfl
theorem Try.cells44 : Try.prog.cellsOf 44 = 1 := by kernel_rfl
theorem Try.cells5 : Try.prog.cellsOf 5 = 1 := by kernel_rfl
theorem Try.cells3 : Try.prog.cellsOf 3 = 1 := by kernel_rfl

set_option maxRecDepth 100000
set_option linter.constructorNameAsVariable false
section
variable {H : Type} {enc : TypeId × Value → H} {W : World} {base : Nat} {spare : Nat → Bool} {held : Bool}

theorem pick_of_trod {n : Nat} {cs : List Value} {x : DataW H × List MemPlace} (h : DataW.trod enc Try.prog W base spare held n 38 cs = some x) : ∃ p : Pk, p.ok ∧ cs = [.int .u8 p.b, .string p.nm, .string p.vl] := by
  obtain ⟨xs, k, hk, hxy, hlen, hxl, hf⟩ := DataW.trod_struct Try.underlying38 h
  rw [Try.cells38] at hlen
  match xs, hxl, cs, hlen with
  | [y0, y1, y2], _, [v0, v1, v2], _ =>
    have g0 := hf 0 _ rfl
    have g1 := hf 1 _ rfl
    have g2 := hf 2 _ rfl
    simp [Try.cells5, Try.cells9] at g0 g1 g2
    obtain ⟨b, e0, _, wf⟩ := DataW.trod_int Try.underlying5 g0
    obtain ⟨nm, e1, _, s1⟩ := DataW.trod_string Try.underlying9 g1
    obtain ⟨vl, e2, _, s2⟩ := DataW.trod_string Try.underlying9 g2
    simp only [List.cons.injEq, and_true] at e0 e1 e2
    subst e0 e1 e2
    have hb := bounds_u8 wf
    exact ⟨⟨b, nm, vl⟩, ⟨⟨hb.1, Int.lt_of_le_of_lt hb.2 (by decide)⟩, s1, s2⟩, rfl⟩

theorem ints_of_trod {n : Nat} {v : Value} {x : DataW H × List MemPlace} (h : DataW.trod enc Try.prog W base spare held n 44 [v] = some x) : ∃ a len cap, v = .slice a len cap ∧ IntsAt W a len ∧ (a = none → len = 0) ∧ len ≤ maxLen := by
  rcases open_slice1 Try.underlying44 Try.cells3 h with ⟨h1, _⟩ | ⟨a, len, cap, m, n, V, D, Pl, h1, _, hl, hm, hmm, _, hx⟩
  · simp only [List.cons.injEq, and_true] at h1
    exact ⟨none, 0, 0, h1, fun i hi => by omega, fun _ => rfl, by unfold maxLen; omega⟩
  · simp only [List.cons.injEq, and_true] at h1
    refine ⟨some a, len, cap, h1, fun i hi => ?_, (fun h => by cases h), by omega⟩
    have him : i < m := by rw [hmm]; split <;> omega
    obtain ⟨hcell, htr⟩ := hx i him
    obtain ⟨b, off, spot⟩ := a
    have hspot : spot = none := by simpa [Addr.add] using World.cell?_spot (hx 0 (by omega)).1
    subst hspot
    rw [add_plain] at hcell
    obtain ⟨u, e, _⟩ := DataW.trod_int Try.underlying3 htr
    simp only [List.cons.injEq, and_true] at e
    rw [e] at hcell
    exact ⟨b, off, u, rfl, hcell⟩

theorem getD_map_range {α : Type} (f : Nat → α) (d : α) (n i : Nat) (h : i < n) : ((List.range n).map f).getD i d = f i := by
  rw [List.getD_eq_getElem?_getD, List.getElem?_map, List.getElem?_range h]
  rfl

theorem open_picks {a : Option Addr} {len cap : Nat} {d : DataW H} {p : List MemPlace} (h : DataW.Trod enc Try.prog W base spare held 23 (.slice a len cap) d p) :
    ∃ ps : List Pk, ps.length = len ∧ Picks W a ps ∧ (∀ q ∈ ps, q.ok) ∧ (a = none → cap = 0) ∧ len ≤ maxLen := by
  obtain ⟨fuel, hf⟩ := h
  have hf' : DataW.trod enc Try.prog W base spare held fuel 23 [.slice a len cap] = some (d, p) := by simpa [Value.cells] using hf
  rcases open_slice Try.underlying23 hf' with ⟨h1, _⟩ | ⟨a', len', cap', m, n, D, Pl, h1, _, hl, hm, hmm, _, hx⟩
  · simp at h1
    obtain ⟨rfl, rfl, rfl⟩ := h1
    exact ⟨[], rfl, fun i hi => absurd hi (by simp), (fun q hq => by cases hq), fun _ => rfl, Nat.zero_le _⟩
  · simp at h1
    obtain ⟨rfl, rfl, rfl⟩ := h1
    have hlm : len ≤ m := by rw [hmm]; split <;> omega
    rw [Try.cells38] at hx
    have each : ∀ i, i < len → ∃ q : Pk, q.ok ∧ ∃ b off, a' = ⟨b, off, none⟩ ∧ PkAt W b (off + i * 3) q := by
      intro i hi
      obtain ⟨cs', h1, h2⟩ := hx i (by omega)
      obtain ⟨_, hlen, hcell⟩ := World.cells?_some h1
      obtain ⟨q, hq, rfl⟩ := pick_of_trod h2
      have z0 := hcell 0 (by omega)
      have z1 := hcell 1 (by omega)
      have z2 := hcell 2 (by omega)
      rw [add_add] at z0 z1 z2
      have hs0 : a'.spot = none := by
        obtain ⟨cs0, y1, y2⟩ := hx 0 (by omega)
        obtain ⟨_, _, yc⟩ := World.cells?_some y1
        obtain ⟨_, _, rfl⟩ := pick_of_trod y2
        have y3 := yc 0 (by omega)
        rw [add_add] at y3
        simpa [Addr.add] using World.cell?_spot (y3.trans rfl)
      obtain ⟨b, off, spot⟩ := a'
      obtain rfl : spot = none := hs0
      rw [add_plain] at z0 z1 z2
      exact ⟨q, hq, b, off, rfl, z0, z1, z2⟩
    have : Inhabited Pk := ⟨pk0⟩
    obtain ⟨F, hF⟩ := choose_lt each
    refine ⟨(List.range len).map F, by simp, fun i hi => ?_, fun q hq => ?_, (fun h => by cases h), by omega⟩
    · simp at hi
      rw [getD_map_range F pk0 len i hi]
      obtain ⟨_, b, off, e, hp⟩ := hF i hi
      exact ⟨b, off, by rw [e], hp⟩
    · obtain ⟨i, hi, rfl⟩ := List.mem_map.1 hq
      exact (hF i (List.mem_range.1 hi)).1

theorem entry_of_trod {n : Nat} {cs : List Value} {x : DataW H × List MemPlace} (h : DataW.trod enc Try.prog W base spare held n 52 cs = some x) :
    ∃ (l : Ls) (a : Option Addr) (c : Nat), cs = [.string l.mesh, .int .u8 l.pk.b, .string l.pk.nm, .string l.pk.vl, .slice a l.n c] ∧ l.mesh.size ≤ maxLen ∧ l.pk.ok ∧ l.n ≤ maxLen ∧ IntsAt W a l.n ∧ (a = none → l.n = 0) := by
  obtain ⟨xs, k, hk, hxy, hlen, hxl, hf⟩ := DataW.trod_struct Try.underlying52 h
  rw [Try.cells52] at hlen
  match xs, hxl, cs, hlen with
  | [y0, y1, y2], _, [v0, v1, v2, v3, v4], _ =>
    have g0 := hf 0 _ rfl
    have g1 := hf 1 _ rfl
    have g2 := hf 2 _ rfl
    simp [Try.cells9, Try.cells38, Try.cells44] at g0 g1 g2
    obtain ⟨mesh, e0, _, s0⟩ := DataW.trod_string Try.underlying9 g0
    obtain ⟨q, hq, e1⟩ := pick_of_trod g1
    obtain ⟨a, len, c, e2, hi, hn, hl⟩ := ints_of_trod g2
    simp only [List.cons.injEq, and_true] at e0 e1
    obtain ⟨rfl, rfl, rfl⟩ := e1
    subst e0 e2
    exact ⟨⟨mesh, q, len⟩, a, c, rfl, s0, hq, hl, hi, hn⟩

theorem open_listed {a : Option Addr} {len cap : Nat} {d : DataW H} {p : List MemPlace} (h : DataW.Trod enc Try.prog W base spare held 22 (.slice a len cap) d p) :
    ∃ ls : List Ls, ls.length = len ∧ ListsIn W a ls ∧ (∀ i, i < ls.length → (ls.getD i ls0).mesh.size ≤ maxLen ∧ (ls.getD i ls0).pk.ok ∧ (ls.getD i ls0).n ≤ maxLen) ∧ (a = none → cap = 0) ∧ len ≤ maxLen := by
  obtain ⟨fuel, hf⟩ := h
  have hf' : DataW.trod enc Try.prog W base spare held fuel 22 [.slice a len cap] = some (d, p) := by simpa [Value.cells] using hf
  rcases open_slice Try.underlying22 hf' with ⟨h1, _⟩ | ⟨a', len', cap', m, n, D, Pl, h1, _, hl, hm, hmm, _, hx⟩
  · simp at h1
    obtain ⟨rfl, rfl, rfl⟩ := h1
    exact ⟨[], rfl, fun i hi => absurd hi (by simp), fun i hi => absurd hi (by simp), fun _ => rfl, Nat.zero_le _⟩
  · simp at h1
    obtain ⟨rfl, rfl, rfl⟩ := h1
    have hlm : len ≤ m := by rw [hmm]; split <;> omega
    rw [Try.cells52] at hx
    have each : ∀ i, i < len → ∃ l : Ls, (l.mesh.size ≤ maxLen ∧ l.pk.ok ∧ l.n ≤ maxLen) ∧ ∃ b off, a' = ⟨b, off, none⟩ ∧ W.cell? ⟨b, off + i * 5, none⟩ = some (.string l.mesh) ∧ PkAt W b (off + i * 5 + 1) l.pk ∧
        ∃ a c, W.cell? ⟨b, off + i * 5 + 4, none⟩ = some (.slice a l.n c) ∧ IntsAt W a l.n ∧ (a = none → l.n = 0) := by
      intro i hi
      obtain ⟨cs', h1, h2⟩ := hx i (by omega)
      obtain ⟨_, hlen, hcell⟩ := World.cells?_some h1
      obtain ⟨l, aa, c, rfl, s0, hq, hn, hi', hnil⟩ := entry_of_trod h2
      have z0 := hcell 0 (by omega)
      have z1 := hcell 1 (by omega)
      have z2 := hcell 2 (by omega)
      have z3 := hcell 3 (by omega)
      have z4 := hcell 4 (by omega)
      rw [add_add] at z0 z1 z2 z3 z4
      have hs0 : a'.spot = none := by
        obtain ⟨cs0, y1, y2⟩ := hx 0 (by omega)
        obtain ⟨_, _, yc⟩ := World.cells?_some y1
        obtain ⟨_, _, _, rfl, _⟩ := entry_of_trod y2
        have y3 := yc 0 (by omega)
        rw [add_add] at y3
        simpa [Addr.add] using World.cell?_spot (y3.trans rfl)
      obtain ⟨b, off, spot⟩ := a'
      obtain rfl : spot = none := hs0
      rw [add_plain] at z0 z1 z2 z3 z4
      exact ⟨l, ⟨s0, hq, hn⟩, b, off, rfl, z0, ⟨z1, z2, z3⟩, aa, c, z4, hi', hnil⟩
    have : Inhabited Ls := ⟨ls0⟩
    obtain ⟨F, hF⟩ := choose_lt each
    refine ⟨(List.range len).map F, by simp, fun i hi => ?_, fun i hi => ?_, (fun h => by cases h), by omega⟩
    · simp at hi
      rw [getD_map_range F ls0 len i hi]
      obtain ⟨_, b, off, e, hp⟩ := hF i hi
      exact ⟨b, off, by rw [e], hp⟩
    · simp at hi
      rw [getD_map_range F ls0 len i hi]
      exact (hF i hi).1

theorem open_pick {b0 : Nat} {r : Reach} {v : Value} {d : DataW H} {p : List MemPlace} (hv : Value.okWide Try.prog W r b0 38 v) (h : DataW.Trod enc Try.prog W base spare held 38 v d p) :
    ∃ x : Pk, x.ok ∧ v = .agg #[.int .u8 x.b, .string x.nm, .string x.vl] := by
  obtain ⟨cs, rfl, hsz⟩ := okWide_struct Try.underlying38 hv
  obtain ⟨fuel, hf⟩ := h
  obtain ⟨x, hx, e⟩ := pick_of_trod hf
  refine ⟨x, hx, ?_⟩
  obtain ⟨l⟩ := cs
  have : l = [.int .u8 x.b, .string x.nm, .string x.vl] := e
  rw [this]
end
end Go.Proofs.Qxb6604404a
