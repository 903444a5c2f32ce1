import Derived.Test.Qxb6604404aListed
import Derived.Maps.Own
import Derived.Maps.Views
import Derived.DeepKeys4
namespace Go.Proofs.Qxb6604404a
open Go.RowKit
set_option linter.unusedVariables false
theorem Try.laidOut : laidOutB Try.prog = true := by kernel_rfl
theorem Try.key68 : Maps.Keyed Try.prog 68 := Maps.Keyed.of_law (deep_law_laid Try.laidOut (m := 4) (by omega) (of_decide_eq_true (by kernel_rfl)) (by kernel_rfl) (by kernel_rfl))
theorem Try.key65 : Maps.Keyed Try.prog 65 := Maps.Keyed.of_law (deep_law_laid Try.laidOut (m := 4) (by omega) (of_decide_eq_true (by kernel_rfl)) (by kernel_rfl) (by kernel_rfl))
theorem Try.zero44 (w : World) : (zeroValue 44).run Try.prog w = .ok (.slice none 0 0) w := by kernel_rfl
theorem Try.zero4 (w : World) : (zeroValue 4).run Try.prog w = .ok (.bool false) w := by kernel_rfl
theorem Try.types4 : ∃ n, Try.prog.types.size = n + 4 := ⟨Try.prog.types.size - 4, by kernel_rfl⟩
theorem Try.kt68 : Try.prog.keyType 68 = true := by kernel_rfl
theorem Try.kt65 : Try.prog.keyType 65 = true := by kernel_rfl
theorem Try.cells68 : Try.prog.cellsOf 68 = 4 := by kernel_rfl
theorem Try.cells65 : Try.prog.cellsOf 65 = 3 := by kernel_rfl
theorem Try.cells9 : Try.prog.cellsOf 9 = 1 := by kernel_rfl
theorem Try.cells63 : Try.prog.cellsOf 63 = 1 := by kernel_rfl

def Pk.ok (p : Pk) : Prop := (0 ≤ p.b ∧ p.b < 256) ∧ p.nm.size ≤ maxLen ∧ p.vl.size ≤ maxLen
theorem pk0_ok : pk0.ok := ⟨⟨by decide, by decide⟩, by decide, by decide⟩
def pv (p : Pk) : Value := .agg #[.int .u8 p.b, .string p.nm, .string p.vl]
def kv (m : ByteArray) (p : Pk) : Value := .agg #[.string m, .int .u8 p.b, .string p.nm, .string p.vl]
theorem pv_inj {p q : Pk} (h : pv p = pv q) : p = q := by
  obtain ⟨a, b, c⟩ := p; obtain ⟨a', b', c'⟩ := q
  simp [pv] at h ⊢
  exact h
theorem kv_inj {m m' : ByteArray} {p q : Pk} (h : kv m p = kv m' q) : m = m' ∧ p = q := by
  obtain ⟨a, b, c⟩ := p; obtain ⟨a', b', c'⟩ := q
  simp [kv] at h ⊢
  exact h
theorem u8wf {b : Int} (h : 0 ≤ b ∧ b < 256) : (Lit.int .u8 b).wf = true := by
  have e1 : IntKind.u8.min = 0 := by decide
  have e2 : IntKind.u8.max = 255 := by decide
  simp [Lit.wf, e1, e2]
  omega
theorem lits63 {b : Int} (h : 0 ≤ b ∧ b < 256) (d : Nat) : Try.prog.keyLits (d + 1) 63 [.int .u8 b] = some [.int .u8 b] := by simp [Program.keyLits, Try.underlying63, u8wf h]
theorem lits9 {s : ByteArray} (h : s.size ≤ maxLen) (d : Nat) : Try.prog.keyLits (d + 1) 9 [.string s] = some [.string s.data.toList] := by simp [Program.keyLits, Try.underlying9, h]
theorem lits65 {p : Pk} (hp : p.ok) (d : Nat) : Try.prog.keyLits (d + 1 + 1) 65 [.int .u8 p.b, .string p.nm, .string p.vl] = some [.int .u8 p.b, .string p.nm.data.toList, .string p.vl.data.toList] := by
  unfold Program.keyLits
  simp only [Try.underlying65]
  rw [if_pos ⟨by rw [Try.cells65]; rfl, by kernel_rfl⟩]
  simp [Try.cells63, Try.cells9, lits63 hp.1, lits9 hp.2.1, lits9 hp.2.2]
theorem lits68 {m : ByteArray} {p : Pk} (hm : m.size ≤ maxLen) (hp : p.ok) (d : Nat) : Try.prog.keyLits (d + 1 + 1 + 1) 68 [.string m, .int .u8 p.b, .string p.nm, .string p.vl] = some [.string m.data.toList, .int .u8 p.b, .string p.nm.data.toList, .string p.vl.data.toList] := by
  unfold Program.keyLits
  simp only [Try.underlying68]
  rw [if_pos ⟨by rw [Try.cells68]; rfl, by kernel_rfl⟩]
  simp [Try.cells65, Try.cells9, lits65 hp, lits9 hm]
theorem key_pv {p : Pk} (hp : p.ok) : ∃ kl, keyOf Try.prog 65 (pv p) = some kl := by
  obtain ⟨n, hn⟩ := Try.types4
  refine ⟨.string (keyBytes [.int .u8 p.b, .string p.nm.data.toList, .string p.vl.data.toList]), ?_⟩
  have hf : (pv p).formed Try.prog 65 = true := by simp [pv, Value.formed, Try.underlying65, Try.cells65]
  have hl := lits65 hp (n + 3)
  unfold keyOf
  rw [hn]
  simp only [Try.underlying65, Try.kt65, hf]
  simp [pv, Value.cells, hl]
theorem key_kv {m : ByteArray} {p : Pk} (hm : m.size ≤ maxLen) (hp : p.ok) : ∃ kl, keyOf Try.prog 68 (kv m p) = some kl := by
  obtain ⟨n, hn⟩ := Try.types4
  refine ⟨.string (keyBytes [.string m.data.toList, .int .u8 p.b, .string p.nm.data.toList, .string p.vl.data.toList]), ?_⟩
  have hf : (kv m p).formed Try.prog 68 = true := by simp [kv, Value.formed, Try.underlying68, Try.cells68]
  have hl := lits68 hm hp (n + 2)
  unfold keyOf
  rw [hn]
  simp only [Try.underlying68, Try.kt68, hf]
  simp [kv, Value.cells, hl]

/-! ### COUNTS AND NAMES AS PLAIN FUNCTIONS -/
set_option linter.unusedSectionVars false
variable [DecidableEq Pk]
def cnt (ls : List Ls) (m : ByteArray) (p : Pk) : Nat := ls.foldl (fun c l => if l.mesh = m ∧ l.pk = p then l.n else c) 0
theorem cnt_nil (m : ByteArray) (p : Pk) : cnt [] m p = 0 := rfl
theorem cnt_snoc (ls : List Ls) (l : Ls) (m : ByteArray) (p : Pk) : cnt (ls ++ [l]) m p = if l.mesh = m ∧ l.pk = p then l.n else cnt ls m p := by
  simp [cnt, List.foldl_append]

/-- How an element reads: a slice as its length. -/
def RL (v : Value) : Option (DataW Unit × List MemPlace) :=
  match v with
  | .slice _ n _ => some (.lit (.int .i64 n), [])
  | _ => none
/-- Block b is a map that gives each key of ls the length of its last list. -/
def MapL (w : World) (b n : Nat) (ls : List Ls) : Prop := ∃ D : DataW Unit, w.ownsMap Try.prog 68 RL b n D ∧ Maps.IsMap D ∧ ∀ m p kl, keyOf Try.prog 68 (kv m p) = some kl → D.atKey kl (.lit (.int .i64 0)) = .lit (.int .i64 (cnt ls m p))
theorem mapL_made (w : World) : MapL (w.alloc (.map #[] 0)) w.heap.size 0 [] := ⟨.map [], World.ownsMap_made w _ _ _, ⟨_, rfl⟩, fun m p kl _ => rfl⟩
theorem isMap_put {H : Type} {D : DataW H} (h : Maps.IsMap D) (k : Lit) (d : DataW H) : Maps.IsMap (D.put k d) := by
  obtain ⟨es, rfl⟩ := h
  exact ⟨_, rfl⟩
theorem MapL.lookup {w : World} {b n : Nat} {ls : List Ls} (h : MapL w b n ls) {m : ByteArray} {p : Pk} (hm : m.size ≤ maxLen) (hp : p.ok) :
    ∃ a c, (Instr.lookup 55 (.map (some b)) (kv m p) false).run Try.prog w = .ok (.slice a (cnt ls m p) c) w := by
  obtain ⟨D, h1, h2, h3⟩ := h
  obtain ⟨kl, hk⟩ := key_kv hm hp
  obtain ⟨v, ps, hr, hv⟩ := h1.lookup Try.key68 Try.underlying55 (Try.zero44 w) (zd := .lit (.int .i64 0)) (zp := []) rfl hk
  rw [h3 m p kl hk] at hv
  unfold RL at hv
  split at hv
  · rename_i a n' c
    simp at hv
    obtain ⟨h5, h6⟩ := hv
    have : n' = cnt ls m p := by omega
    subst this
    exact ⟨a, c, hr⟩
  · cases hv
theorem MapL.update {w : World} {b n : Nat} {ls : List Ls} (h : MapL w b n ls) (l : Ls) (hm : l.mesh.size ≤ maxLen) (hp : l.pk.ok) (hn : n < maxLen) (a : Option Addr) (c : Nat) :
    ∃ w', (Instr.mapUpdate 55 (.map (some b)) (kv l.mesh l.pk) (.slice a l.n c)).run Try.prog w = .ok () w' ∧ MapL w' b (n + 1) (ls ++ [l]) ∧ w.grownBy w' (some b) := by
  obtain ⟨D, h1, h2, h3⟩ := h
  obtain ⟨kl, hk⟩ := key_kv hm hp
  obtain ⟨w', hr, ho, hg⟩ := h1.update Try.key68 Try.underlying55 hn hk (val := .slice a l.n c) (d := .lit (.int .i64 l.n)) (ps := []) rfl
  refine ⟨w', hr, ⟨_, ho, isMap_put h2 _ _, fun m p kl' hk' => ?_⟩, hg⟩
  rw [cnt_snoc]
  by_cases e : kl' = kl
  · subst e
    obtain ⟨e1, e2⟩ := kv_inj (Try.key68.inj hk hk')
    rw [if_pos ⟨e1, e2⟩, Maps.atKey_put_same h2 (Try.key68.key hk)]
  · rw [Maps.atKey_put_other e, if_neg, h3 m p kl' hk']
    rintro ⟨rfl, rfl⟩
    rw [hk] at hk'
    exact e (Option.some.inj hk').symm
theorem MapL.below {w w' : World} {b n : Nat} {ls : List Ls} (h : MapL w b n ls) (hb : Below w.heap.size w w') : MapL w' b n ls := by
  obtain ⟨D, h1, h2, h3⟩ := h
  have hlt := h1.lt
  obtain ⟨es, clock, e1, e2⟩ := h1
  exact ⟨D, ⟨es, clock, by rw [hb.block b hlt]; exact e1, e2⟩, h2, h3⟩
theorem MapL.kept {w w' : World} {b n : Nat} {ls : List Ls} (h : MapL w b n ls) (hb : w'.heap[b]? = w.heap[b]?) : MapL w' b n ls := by
  obtain ⟨D, ⟨es, clock, e1, e2⟩, h2, h3⟩ := h
  exact ⟨D, ⟨es, clock, by rw [hb]; exact e1, e2⟩, h2, h3⟩
theorem MapL.lt {w : World} {b n : Nat} {ls : List Ls} (h : MapL w b n ls) : b < w.heap.size := h.choose_spec.1.lt

theorem plainElem_bool_inv {H : Type} {P : Program} {e : TypeId} (he : P.underlying e = some .bool) {v : Value} {z : DataW H × List MemPlace} (h : plainElem P e v = some z) : ∃ x, v = .bool x ∧ z = (.lit (.bool x), []) := by
  unfold plainElem at h
  rw [he] at h
  cases v <;> simp at h
  exact ⟨_, rfl, h.symm⟩
/-- Block b is a map that holds true under each of ks. -/
def MapK (w : World) (b n : Nat) (ks : List Pk) : Prop := ∃ D : DataW Unit, w.ownsMap Try.prog 65 (plainElem Try.prog 4) b n D ∧ Maps.IsMap D ∧ ∀ p kl, keyOf Try.prog 65 (pv p) = some kl → D.atKey kl (.lit (.bool false)) = .lit (.bool (decide (p ∈ ks)))
theorem mapK_made (w : World) : MapK (w.alloc (.map #[] 0)) w.heap.size 0 [] := ⟨.map [], World.ownsMap_made w _ _ _, ⟨_, rfl⟩, fun p kl _ => rfl⟩
theorem MapK.lookup {w : World} {b n : Nat} {ks : List Pk} (h : MapK w b n ks) {p : Pk} (hp : p.ok) :
    (Instr.lookup 56 (.map (some b)) (pv p) false).run Try.prog w = .ok (.bool (decide (p ∈ ks))) w := by
  obtain ⟨D, h1, h2, h3⟩ := h
  obtain ⟨kl, hk⟩ := key_pv hp
  obtain ⟨v, ps, hr, hv⟩ := h1.lookup Try.key65 Try.underlying56 (Try.zero4 w) (zd := .lit (.bool false)) (zp := []) (plainElem_bool Try.underlying4 false) hk
  rw [h3 p kl hk] at hv
  obtain ⟨x, rfl, hz⟩ := plainElem_bool_inv Try.underlying4 hv
  simp at hz
  rw [hr, hz.1]
theorem MapK.update {w : World} {b n : Nat} {ks : List Pk} (h : MapK w b n ks) (k : Pk) (hp : k.ok) (hn : n < maxLen) :
    ∃ w', (Instr.mapUpdate 56 (.map (some b)) (pv k) (.bool true)).run Try.prog w = .ok () w' ∧ MapK w' b (n + 1) (ks ++ [k]) ∧ w.grownBy w' (some b) := by
  obtain ⟨D, h1, h2, h3⟩ := h
  obtain ⟨kl, hk⟩ := key_pv hp
  obtain ⟨w', hr, ho, hg⟩ := h1.update Try.key65 Try.underlying56 hn hk (val := .bool true) (d := .lit (.bool true)) (ps := []) (plainElem_bool Try.underlying4 true)
  refine ⟨w', hr, ⟨_, ho, isMap_put h2 _ _, fun p kl' hk' => ?_⟩, hg⟩
  by_cases e : kl' = kl
  · subst e
    obtain rfl := pv_inj (Try.key65.inj hk hk')
    rw [Maps.atKey_put_same h2 (Try.key65.key hk)]
    simp
  · rw [Maps.atKey_put_other e, h3 p kl' hk']
    have : p ≠ k := by rintro rfl; rw [hk] at hk'; exact e (Option.some.inj hk').symm
    simp [this]
theorem MapK.below {w w' : World} {b n : Nat} {ks : List Pk} (h : MapK w b n ks) (hb : Below w.heap.size w w') : MapK w' b n ks := by
  obtain ⟨D, h1, h2, h3⟩ := h
  have hlt := h1.lt
  obtain ⟨es, clock, e1, e2⟩ := h1
  exact ⟨D, ⟨es, clock, by rw [hb.block b hlt]; exact e1, e2⟩, h2, h3⟩
theorem MapK.kept {w w' : World} {b n : Nat} {ks : List Pk} (h : MapK w b n ks) (hb : w'.heap[b]? = w.heap[b]?) : MapK w' b n ks := by
  obtain ⟨D, ⟨es, clock, e1, e2⟩, h2, h3⟩ := h
  exact ⟨D, ⟨es, clock, by rw [hb]; exact e1, e2⟩, h2, h3⟩
theorem MapK.lt {w : World} {b n : Nat} {ks : List Pk} (h : MapK w b n ks) : b < w.heap.size := h.choose_spec.1.lt
end Go.Proofs.Qxb6604404a
