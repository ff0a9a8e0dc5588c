/-
  A MAP OF THE CALL's OWN, AS A FUNCTION FROM KEYS TO ELEMENTS, whatever the element's type: over the kit's 'World.ownsMap' with the reader that takes every value for a token of itself.
-/
import Derived.Test.Qxb6612280aRows
import Derived.Maps.OwnSet
import Derived.WalkKit
namespace Go.Proofs.Qxb6612280a
open Go.RowKit Go.Maps

/-- Every value reads as a token of itself. -/
def rdAny (v : Value) : Option (DataW Value × List MemPlace) := some (.held v, [])

/-- Block b of w is a map of at most n entries, keyed by integers of kind q; at key x it holds f x. -/
def MapF (w : World) (P : Program) (k : TypeId) (q : IntKind) (b n : Nat) (f : Int → Option Value) : Prop :=
  ∃ D : DataW Value, w.ownsMap P k rdAny b n D ∧ ∀ x, (Lit.int q x).wf = true → ((∀ z, D.atKey (.int q x) (.held z) = .held ((f x).getD z)) ∧ Maps.has D (.int q x) = (f x).isSome)

variable {P : Program} {k : TypeId} {q : IntKind} {w : World} {b n : Nat} {f : Int → Option Value}

theorem MapF.lt (h : MapF w P k q b n f) : b < w.heap.size := by
  obtain ⟨D, hD, _⟩ := h
  exact hD.lt

theorem MapF.isMap (h : MapF w P k q b n f) : ∃ es clock, w.heap[b]? = some (.map es clock) := by
  obtain ⟨D, ⟨es, clock, hb, _⟩, _⟩ := h
  exact ⟨es, clock, hb⟩

theorem mapF_made (w : World) (P : Program) (k : TypeId) (q : IntKind) : MapF (w.alloc (.map #[] 0)) P k q w.heap.size 0 (fun _ => .none) := by
  refine ⟨.map [], World.ownsMap_made w P k rdAny, fun x _ => ⟨fun z => ?_, ?_⟩⟩
  · simp [DataW.atKey]
  · simp [Maps.has_eq]

/-- The map stays what it is while its block stands. -/
theorem MapF.of_block {w' : World} (h : MapF w P k q b n f) (hb : w'.heap[b]? = w.heap[b]?) : MapF w' P k q b n f := by
  obtain ⟨D, ⟨es, clock, hb0, r⟩, hf⟩ := h
  exact ⟨D, ⟨es, clock, hb.trans hb0, r⟩, hf⟩

theorem MapF.congr {f' : Int → Option Value} (h : MapF w P k q b n f) (he : ∀ x, (Lit.int q x).wf = true → f' x = f x) : MapF w P k q b n f' := by
  obtain ⟨D, hD, hf⟩ := h
  exact ⟨D, hD, fun x hx => by rw [he x hx]; exact hf x hx⟩

theorem MapF.mono {n' : Nat} (h : MapF w P k q b n f) (hn : n ≤ n') : MapF w P k q b n' f := by
  obtain ⟨D, hD, hf⟩ := h
  exact ⟨D, hD.mono hn, hf⟩

/-- 'm[x]', with 'ok' and without. -/
theorem MapF.look {t e : TypeId} (h : MapF w P k q b n f) (hk : P.underlying k = some (.int q)) (ht : P.underlying t = some (.map k e)) {z : Value} (hz : (zeroValue e).run P w = .ok z w) {x : Int} (hx : (Lit.int q x).wf = true) (c : Bool) :
    (Instr.lookup t (.map (some b)) (.int q x) c).run P w = .ok (if c then .tuple #[(f x).getD z, .bool (f x).isSome] else (f x).getD z) w := by
  obtain ⟨D, hD, hf⟩ := h
  obtain ⟨f1, f2⟩ := hf x hx
  cases c with
  | true =>
    obtain ⟨v, ps, hrun, hv⟩ := hD.look_ok (int_keyed hk) ht hz (zd := .held z) (zp := []) rfl (keyOf_int_mk hk hx)
    rw [f1 z] at hv
    have : v = (f x).getD z := by simp [rdAny] at hv; exact hv.1
    rw [hrun, this, f2]
    rfl
  | false =>
    obtain ⟨v, ps, hrun, hv⟩ := hD.lookup (int_keyed hk) ht hz (zd := .held z) (zp := []) rfl (keyOf_int_mk hk hx)
    rw [f1 z] at hv
    have : v = (f x).getD z := by simp [rdAny] at hv; exact hv.1
    rw [hrun, this]
    rfl

/-- 'm[x] = v'. -/
theorem MapF.store {t e : TypeId} (h : MapF w P k q b n f) (hk : P.underlying k = some (.int q)) (ht : P.underlying t = some (.map k e)) (hn : n < maxLen) {x : Int} (hx : (Lit.int q x).wf = true) (v : Value) :
    ∃ w', (Instr.mapUpdate t (.map (some b)) (.int q x) v).run P w = .ok () w' ∧ MapF w' P k q b (n + 1) (fun y => if y = x then some v else f y) ∧ w.mapTurned w' b := by
  obtain ⟨D, hD, hf⟩ := h
  have hkey := keyOf_int_mk (P := P) hk hx
  obtain ⟨w', hrun, hown, hturn⟩ := hD.store (int_keyed hk) ht hn (val := v) (d := .held v) (ps := []) hkey rfl
  refine ⟨w', hrun, ⟨_, hown, fun y hy => ?_⟩, hturn⟩
  by_cases hyx : y = x
  · subst hyx
    refine ⟨fun z => ?_, ?_⟩
    · rw [Maps.atKey_put_same hD.isMap ((int_keyed hk).key hkey)]; simp
    · rw [Maps.has_put_same hD.isMap ((int_keyed hk).key hkey)]; simp
  · have hne : (Lit.int q y) ≠ .int q x := fun e => hyx (by injection e)
    obtain ⟨g1, g2⟩ := hf y hy
    refine ⟨fun z => ?_, ?_⟩
    · rw [Maps.atKey_put_other hne, g1 z]; simp [hyx]
    · rw [Maps.has_put_other hne, g2]; simp [hyx]

theorem mapTurned_heap {w' : World} (h : w.mapTurned w' b) (i : Nat) (hi : i ≠ b) : w'.heap[i]? = w.heap[i]? := by
  obtain ⟨es, clock, es', clock', hb, rfl⟩ := h
  exact ChangeMaps.heap_setBlock_other hb _ hi

theorem mapTurned_size {w' : World} (h : w.mapTurned w' b) : w'.heap.size = w.heap.size := by
  obtain ⟨es, clock, es', clock', hb, rfl⟩ := h
  simp [ChangeMaps.setBlock]

theorem mapTurned_below {w' : World} {B : Nat} (h : w.mapTurned w' b) (hB : B ≤ b) : Below B w w' := by
  have hg := h.grown
  exact ⟨hg.os, hg.tape, hg.output, hg.size, fun i hi => mapTurned_heap h i (by omega)⟩

/-- A cell of a block of cells reads as it did behind a map's turn. -/
theorem mapTurned_cell {w' : World} (h : w.mapTurned w' b) {a : Addr} {v : Value} (hc : w.cell? a = some v) : w'.cell? a = some v := by
  by_cases e : a.block = b
  · obtain ⟨es, clock, es', clock', hb, rfl⟩ := h
    exfalso
    rw [← e] at hb
    simp [World.cell?, hb] at hc
  · rw [World.cell?_of_block (w := w) (mapTurned_heap h _ e)]; exact hc

theorem mapTurned_frozen {w' : World} (h : w.mapTurned w' b) (a : Addr) : w'.frozen? a = w.frozen? a := h.frozen a

end Go.Proofs.Qxb6612280a
