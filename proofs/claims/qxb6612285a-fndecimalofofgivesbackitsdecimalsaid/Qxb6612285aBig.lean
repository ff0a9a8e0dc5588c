/-
  math/big at one word or none: NewInt (26), low64 (25), Int64 (12), IsInt64 (13).
-/
import Derived.Test.Qxb6612285aRows
import Derived.WalkKit
import Derived.WalkSpells
namespace Go.Proofs.Qxb6612285a
open Go.RowKit

/-- A big.Int at block b: its sign, and no word or one. -/
def BigIs (w : World) (b : Nat) (neg : Bool) (u : Option Int) : Prop :=
  (u = none ∧ w.heap[b]? = some (.cells #[.bool neg, .slice none 0 0] 44 (0, 0))) ∨
  ∃ v ab, u = some v ∧ w.heap[b]? = some (.cells #[.bool neg, .slice (some ⟨ab, 0, none⟩) 1 1] 44 (0, 0)) ∧ w.cell? ⟨ab, 0, none⟩ = some (.int .u64 v)

/-- Sign and word of x. -/
def Rep (x : Int) (neg : Bool) (u : Option Int) : Prop :=
  (x = 0 ∧ neg = false ∧ u = none) ∨ (0 < x ∧ x ≤ 9223372036854775807 ∧ neg = false ∧ u = some x) ∨ (x < 0 ∧ -9223372036854775808 ≤ x ∧ neg = true ∧ u = some (-x))

theorem heap_new (w : World) (o : Obj) : (w.alloc o).heap[w.heap.size]? = some o := by
  show (w.heap.push o)[w.heap.size]? = _
  simp

theorem heap_old (w : World) (o : Obj) (i : Nat) (h : i ≠ w.heap.size) : (w.alloc o).heap[i]? = w.heap[i]? := by
  show (w.heap.push o)[i]? = _
  rw [Array.getElem?_push, if_neg h]

theorem cell_of_heap {w : World} {b i : Nat} {cs : Array Value} {t : TypeId} {fz : Nat × Nat} {v : Value} (h : w.heap[b]? = some (.cells cs t fz)) (hi : cs[i]? = some v) : w.cell? ⟨b, i, none⟩ = some v := by
  unfold World.cell?
  simp only [h, hi]
  rfl

theorem block_of_cell {w : World} {a : Addr} {v : Value} (h : w.cell? a = some v) : a.block < w.heap.size := by
  rcases Nat.lt_or_ge a.block w.heap.size with h1 | h1
  · exact h1
  · unfold World.cell? at h
    rw [Array.getElem?_eq_none h1] at h
    simp at h

theorem size_alloc' (w : World) (o : Obj) : (w.alloc o).heap.size = w.heap.size + 1 := by simp

theorem cell_kept {w w' : World} (hb : Below w.heap.size w w') {a : Addr} {v : Value} (h : w.cell? a = some v) : w'.cell? a = some v := (hb.cell (block_of_cell h)).trans h

theorem lt_of_heap {w : World} {b : Nat} {o : Obj} (h : w.heap[b]? = some o) : b < w.heap.size := (Array.getElem?_eq_some_iff.1 h).1

/-- It stands while what was there stands. -/
theorem BigIs.kept {w w' : World} {b : Nat} {neg : Bool} {u : Option Int} (h : BigIs w b neg u) (hb : Below w.heap.size w w') : BigIs w' b neg u := by
  rcases h with ⟨e, h1⟩ | ⟨v, ab, e, h1, h2⟩
  · exact .inl ⟨e, (hb.block _ (lt_of_heap h1)).trans h1⟩
  · exact .inr ⟨v, ab, e, (hb.block _ (lt_of_heap h1)).trans h1, cell_kept hb h2⟩

/-- Its cells. -/
theorem BigIs.parts {w : World} {b : Nat} {neg : Bool} {u : Option Int} (h : BigIs w b neg u) : w.cell? ⟨b, 0, none⟩ = some (.bool neg) ∧
    ((u = none ∧ w.cell? ⟨b, 1, none⟩ = some (.slice none 0 0)) ∨ ∃ v ab, u = some v ∧ w.cell? ⟨b, 1, none⟩ = some (.slice (some ⟨ab, 0, none⟩) 1 1) ∧ w.cell? ⟨ab, 0, none⟩ = some (.int .u64 v)) := by
  rcases h with ⟨e, h1⟩ | ⟨v, ab, e, h1, h2⟩
  · exact ⟨cell_of_heap h1 rfl, .inl ⟨e, cell_of_heap h1 rfl⟩⟩
  · exact ⟨cell_of_heap h1 rfl, .inr ⟨v, ab, e, cell_of_heap h1 rfl, h2⟩⟩

/-- It lies in a block of plain cells. -/
theorem BigIs.row {w : World} {b : Nat} {neg : Bool} {u : Option Int} (h : BigIs w b neg u) : ∃ cs, w.heap[b]? = some (.cells cs 44 (0, 0)) := by
  rcases h with ⟨e, h1⟩ | ⟨v, ab, e, h1, h2⟩
  · exact ⟨_, h1⟩
  · exact ⟨_, h1⟩

theorem neg_wrap (x : Int) (h0 : x < 0) (h1 : -9223372036854775808 ≤ x) : IntKind.u64.wrap (-IntKind.u64.wrap x) = -x := by
  simp only [IntKind.wrap, IntKind.signed, IntKind.bits]
  simp
  omega

theorem big_zero (w : World) : BigIs (w.alloc (.cells #[.bool false, .slice none 0 0] 44)) w.heap.size false none :=
  .inl ⟨rfl, heap_new w _⟩

theorem big_one (w : World) (neg : Bool) (v : Int) : BigIs ((w.alloc (.cells #[.int .u64 v] 51)).alloc (.cells #[.bool neg, .slice (some ⟨w.heap.size, 0, none⟩) 1 1] 44)) (w.heap.size + 1) neg (some v) := by
  have e := size_alloc' w (.cells #[.int .u64 v] 51)
  have h := heap_new (w.alloc (.cells #[.int .u64 v] 51)) (.cells #[.bool neg, .slice (some ⟨w.heap.size, 0, none⟩) 1 1] 44)
  rw [e] at h
  refine .inr ⟨v, w.heap.size, rfl, h, ?_⟩
  exact cell_of_heap ((heap_old _ _ _ (by rw [e]; omega)).trans (heap_new w _)) rfl

theorem newInt_any (x : Int) (hx : (Lit.int .i64 x).wf = true) (w : World) :
    Calls Try.prog 26 #[.int .i64 x] w fun e w' => ∃ b neg u, e = .returned (.pointer (some ⟨b, 0, none⟩)) ∧ Rep x neg u ∧ BigIs w' b neg u ∧ Below w.heap.size w w' := by
  have hb : -9223372036854775808 ≤ x ∧ x ≤ 9223372036854775807 := by
    simp [Lit.wf, IntKind.min, IntKind.max, IntKind.bits, IntKind.signed] at hx
    omega
  obtain ⟨hlo, hhi⟩ := hb
  clear hx
  rcases (by omega : x = 0 ∨ 0 < x ∨ x < 0) with rfl | h | h
  · go_enter Try.func26, Try.ntmps26
    go_wp2
    go_ret
    exact ⟨_, false, none, rfl, .inl ⟨rfl, rfl, rfl⟩, big_zero w, (Below.refl _ _).alloc (Nat.le_refl _) _⟩
  · have hd : decide (x < 0) = false := decide_eq_false (by omega)
    go_enter Try.func26, Try.ntmps26
    go_wp2
    go_ret
    exact ⟨_, false, some x, rfl, .inr (.inl ⟨h, hhi, rfl, rfl⟩), big_one w false x, ((Below.refl _ _).alloc (Nat.le_refl _) _).alloc (by simp) _⟩
  · have HX := neg_wrap x h hlo
    have HN : Hid (IntKind.u64.wrap (-IntKind.u64.wrap x) = -x) := HX
    clear HX
    go_enter Try.func26, Try.ntmps26
    go_wp2
    go_ret
    refine ⟨_, true, some (-x), rfl, .inr (.inr ⟨h, hlo, rfl, rfl⟩), ?_, ((Below.refl _ _).alloc (Nat.le_refl _) _).alloc (by simp) _⟩
    rw [HN.out]
    exact big_one w true (-x)

end Go.Proofs.Qxb6612285a
