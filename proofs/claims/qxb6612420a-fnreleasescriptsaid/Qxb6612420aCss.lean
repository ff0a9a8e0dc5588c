/-
  Sums of rooms; a slice of pointers to chunk streams that the call itself makes.
-/
import Derived.Test.Qxb6612420aOnce
namespace Go.Proofs.Qxb6612420a
open Go.RowKit

def sumI : List Int → Int
  | [] => 0
  | x :: r => x + sumI r

theorem sumI_append (l r : List Int) : sumI (l ++ r) = sumI l + sumI r := by
  induction l with
  | nil => simp [sumI]
  | cons x l ih => simp [sumI, ih]; omega

theorem sumI_take_succ (zs : List Int) (k : Nat) (h : k < zs.length) : sumI (zs.take (k + 1)) = sumI (zs.take k) + zs.getD k 0 := by
  rw [List.take_succ_eq_append_getElem h, sumI_append]
  simp [sumI, List.getD_eq_getElem?_getD, h]

/-- All of the first k rooms are within the bounds. -/
def Okay (zs : List Int) (k : Nat) : Prop := ∀ j, j < k → 0 ≤ zs.getD j 0 ∧ zs.getD j 0 ≤ 16777215

theorem Okay.succ {zs : List Int} {k : Nat} (h : Okay zs k) (h0 : 0 ≤ zs.getD k 0) (h1 : zs.getD k 0 ≤ 16777215) : Okay zs (k + 1) := by
  intro j hj
  rcases (by omega : j < k ∨ j = k) with h2 | rfl
  · exact h j h2
  · exact ⟨h0, h1⟩

theorem sumI_bounds {zs : List Int} : ∀ {k : Nat}, k ≤ zs.length → Okay zs k → 0 ≤ sumI (zs.take k) ∧ sumI (zs.take k) ≤ 16777215 * (k : Int)
  | 0, _, _ => by simp [sumI]
  | k + 1, hk, ok => by
    have ih := sumI_bounds (k := k) (by omega) (fun j hj => ok j (by omega))
    have hz := ok k (by omega)
    rw [sumI_take_succ zs k (by omega)]
    omega

/-- The sum of the first k is at most the sum of all. -/
theorem sumI_le {zs : List Int} (ok : Okay zs zs.length) : ∀ {d k : Nat}, k + d = zs.length → sumI (zs.take k) ≤ sumI zs
  | 0, k, h => by
    rw [List.take_of_length_le (by omega)]
    exact Int.le_refl _
  | d + 1, k, h => by
    have ih := sumI_le ok (d := d) (k := k + 1) (by omega)
    rw [sumI_take_succ zs k (by omega)] at ih
    have hz := ok k (by omega)
    omega

theorem info42 : (Try.prog.info? 42).map (fun i => (i.zero, i.size, i.bytes)) = some (some (.pointer none), 1, 8) := by kernel_rfl

/-- 'make([]*chunkStream, n)'. -/
theorem make_css (n : Nat) (hn : n ≤ 4096) (w : World) :
    ∃ w1, (Instr.makeSlice 41 (.int .i64 (n : Int)) (.int .i64 (n : Int))).run Try.prog w = .ok (.slice (some ⟨w.heap.size, 0, none⟩) n n) w1 ∧
      (∀ j, j < n → w1.cell? ⟨w.heap.size, j, none⟩ = some (.pointer none)) ∧ (∀ j, w1.frozen? ⟨w.heap.size, j, none⟩ = false) ∧ w.heap.size < w1.heap.size ∧ Below w.heap.size w w1 := by
  obtain ⟨i0, h1, h2, h3, h4⟩ := info_parts info42
  have hmk := run_make (P := Try.prog) w 41 42 i0 _ Try.underlying41 h1 h2 .i64 .i64 (n : Int) (n : Int) (by omega) (by omega) (by rw [h4]; omega) (by omega)
  rw [h3] at hmk
  refine ⟨_, by simpa using hmk, fun j hj => cell_of_heap (heap_new w _) ?_, fun j => frozen_of_heap (heap_new w _), by simp, below_box _ _⟩
  simp [madeCells, Value.cells, hj, Nat.mod_one]

/-- The first k cells of the slice at sbk lead to chunk streams of their own, of the rooms zs; the rest is nil. -/
structure Css (w : World) (sbk n k : Nat) (zs : List Int) (cb : Nat → Nat) : Prop where
  slot : ∀ j, j < k → w.cell? ⟨sbk, j, none⟩ = some (.pointer (some ⟨cb j, 0, none⟩))
  rest : ∀ j, k ≤ j → j < n → w.cell? ⟨sbk, j, none⟩ = some (.pointer none)
  free : ∀ j, w.frozen? ⟨sbk, j, none⟩ = false
  cs : ∀ j, j < k → ∃ a len cap, Cs w (cb j) (.slice a len cap) (zs.getD j 0)
  lo : ∀ j, j < k → sbk < cb j
  hi : ∀ j, j < k → cb j < w.heap.size
  ne : ∀ i j, i < j → j < k → cb i < cb j
  lt : sbk < w.heap.size

theorem css_made {w : World} {sbk n : Nat} {zs : List Int} (h1 : ∀ j, j < n → w.cell? ⟨sbk, j, none⟩ = some (.pointer none)) (h2 : ∀ j, w.frozen? ⟨sbk, j, none⟩ = false) (h3 : sbk < w.heap.size) : Css w sbk n 0 zs (fun _ => 0) :=
  ⟨fun j hj => by omega, fun j _ hj => h1 j hj, h2, fun j hj => by omega, fun j hj => by omega, fun j hj => by omega, fun i j _ hj => by omega, h3⟩

/-- It stands while what was there stands. -/
theorem Css.kept {w w' : World} {sbk n k : Nat} {zs : List Int} {cb : Nat → Nat} (h : Css w sbk n k zs cb) (hb : Below w.heap.size w w') : Css w' sbk n k zs cb := by
  have hs := hb.block _ h.lt
  refine ⟨fun j hj => ?_, fun j h1 h2 => ?_, fun j => ?_, fun j hj => ?_, h.lo, fun j hj => Nat.lt_of_lt_of_le (h.hi j hj) hb.size, h.ne, Nat.lt_of_lt_of_le h.lt hb.size⟩
  · rw [World.cell?_of_block (w := w) hs]; exact h.slot j hj
  · rw [World.cell?_of_block (w := w) hs]; exact h.rest j h1 h2
  · rw [World.frozen?_of_block (w := w) hs]; exact h.free j
  · obtain ⟨a, len, cap, c⟩ := h.cs j hj
    exact ⟨a, len, cap, c.of_block (hb.block _ (h.hi j hj))⟩

/-- 'css[k] = cs', cs new. -/
theorem Css.put {w w' : World} {sbk n k : Nat} {zs : List Int} {cb : Nat → Nat} (h : Css w sbk n k zs cb) (hk : k < n) {a : Option Addr} {len cap : Nat} (hc : Cs w' w.heap.size (.slice a len cap) (zs.getD k 0)) (hb : Below w.heap.size w w') (hs : w.heap.size < w'.heap.size) :
    Css (w'.setCell ⟨sbk, k, none⟩ (.pointer (some ⟨w.heap.size, 0, none⟩))) sbk n (k + 1) zs (fun j => if j = k then w.heap.size else cb j) := by
  have h' := h.kept hb
  have hlt := h.lt
  have oth : ∀ i, i ≠ sbk → (w'.setCell ⟨sbk, k, none⟩ (.pointer (some ⟨w.heap.size, 0, none⟩))).heap[i]? = w'.heap[i]? := fun i hi => Below.heap_setCell _ _ _ _ hi
  refine ⟨fun j hj => ?_, fun j h1 h2 => ?_, fun j => ?_, fun j hj => ?_, fun j hj => ?_, fun j hj => ?_, fun i j hij hj => ?_, ?_⟩
  · by_cases e : j = k
    · subst e
      rw [if_pos rfl]
      exact World.cell?_setCell_same _ _ _ (h'.rest j (Nat.le_refl _) hk)
    · rw [if_neg e, World.cell?_setCell_other _ _ _ _ (by intro e'; cases e'; exact e rfl)]
      exact h'.slot j (by omega)
  · rw [World.cell?_setCell_other _ _ _ _ (by intro e'; cases e'; omega)]
    exact h'.rest j (by omega) h2
  · rw [World.frozen?_setCell]; exact h'.free j
  · by_cases e : j = k
    · subst e
      rw [if_pos rfl]
      exact ⟨a, len, cap, hc.of_block (oth _ (by omega))⟩
    · rw [if_neg e]
      obtain ⟨a, len, cap, c⟩ := h'.cs j (by omega)
      exact ⟨a, len, cap, c.of_block (oth _ (by have := h.lo j (by omega); omega))⟩
  · by_cases e : j = k
    · subst e; rw [if_pos rfl]; exact hlt
    · rw [if_neg e]; exact h.lo j (by omega)
  · rw [size_setCell]
    by_cases e : j = k
    · subst e; rw [if_pos rfl]; exact hs
    · rw [if_neg e]; exact h'.hi j (by omega)
  · have e1 : i ≠ k := by omega
    rw [if_neg e1]
    by_cases e : j = k
    · subst e; rw [if_pos rfl]; exact h.hi i hij
    · rw [if_neg e]; exact h.ne i j hij (by omega)
  · rw [size_setCell]; omega

/-- From stream k on the streams are as they were made. -/
structure Left (w : World) (sbk n k : Nat) (zs : List Int) (cb : Nat → Nat) : Prop where
  slot : ∀ j, j < n → w.cell? ⟨sbk, j, none⟩ = some (.pointer (some ⟨cb j, 0, none⟩))
  cs : ∀ j, k ≤ j → j < n → ∃ a len cap, Cs w (cb j) (.slice a len cap) (zs.getD j 0)
  lo : ∀ j, j < n → sbk < cb j
  ne : ∀ i j, i < j → j < n → cb i < cb j

theorem Css.all {w : World} {sbk n : Nat} {zs : List Int} {cb : Nat → Nat} (h : Css w sbk n n zs cb) : Left w sbk n 0 zs cb := ⟨h.slot, fun j _ hj => h.cs j hj, h.lo, h.ne⟩

theorem Left.heap {w w' : World} {sbk n k : Nat} {zs : List Int} {cb : Nat → Nat} (h : Left w sbk n k zs cb) (he : w'.heap = w.heap) : Left w' sbk n k zs cb :=
  ⟨fun j hj => by rw [World.cell?_of_block (w := w) (by rw [he])]; exact h.slot j hj, fun j h1 h2 => by obtain ⟨a, len, cap, c⟩ := h.cs j h1 h2; exact ⟨a, len, cap, c.of_block (by rw [he])⟩, h.lo, h.ne⟩

/-- Stream k released. -/
theorem Left.next {w w' : World} {sbk n k rb : Nat} {zs : List Int} {cb : Nat → Nat} {h : Int} (l : Left w sbk n k zs cb) (hk : k < n) (r : Rel w w' rb (cb k) h) (hr : rb < sbk) : Left w' sbk n (k + 1) zs cb := by
  refine ⟨fun j hj => ?_, fun j h1 h2 => ?_, l.lo, l.ne⟩
  · rw [World.cell?_of_block (w := w) (r.oth sbk (by omega) (by have := l.lo k hk; omega))]
    exact l.slot j hj
  · obtain ⟨a, len, cap, c⟩ := l.cs j (by omega) h2
    exact ⟨a, len, cap, c.of_block (r.oth _ (by have := l.lo j h2; omega) (by have := l.ne k j (by omega) h2; omega))⟩

end Go.Proofs.Qxb6612420a
