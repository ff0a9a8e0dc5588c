/-
  ensureInitialized (17), Coefficient (11), Exponent (14), decimal.New (16), Figure.Decimal (10).
-/
import Derived.Test.Qxb6612285aSet
namespace Go.Proofs.Qxb6612285a
open Go.RowKit

theorem ens_some {w : World} {pb : Nat} {a : Addr} (h : w.cell? ⟨pb, 0, none⟩ = some (.pointer (some a))) :
    Calls Try.prog 17 #[.pointer (some ⟨pb, 0, none⟩)] w fun e w' => e = .returned (.tuple #[]) ∧ w' = w := by
  go_enter Try.func17, Try.ntmps17
  go_wp2
  go_end0
  exact ⟨rfl, rfl⟩

theorem ens_none {w : World} {pb : Nat} (h : w.cell? ⟨pb, 0, none⟩ = some (.pointer none)) (hf : w.frozen? ⟨pb, 0, none⟩ = false) :
    Calls Try.prog 17 #[.pointer (some ⟨pb, 0, none⟩)] w fun e w' => e = .returned (.tuple #[]) ∧ w' = (w.setCell ⟨pb, 0, none⟩ (.pointer (some ⟨w.heap.size, 0, none⟩))).alloc (.cells #[.bool false, .slice none 0 0] 44) := by
  have hl := block_of_cell h
  go_enter Try.func17, Try.ntmps17
  go_wp2
  go_end0
  exact ⟨rfl, rfl⟩

theorem below_box (w : World) (o : Obj) : Below w.heap.size w (w.alloc o) := (Below.refl _ _).alloc (Nat.le_refl _) _

set_option maxHeartbeats 400000 in
/-- Coefficient, of a decimal that has its big.Int. -/
theorem coef_some {w : World} {b : Nat} {neg : Bool} {u : Option Int} (h : BigIs w b neg u) (x : Int) :
    Calls Try.prog 11 #[.agg #[.pointer (some ⟨b, 0, none⟩), .int .i32 x]] w fun e w' => ∃ zb, e = .returned (.pointer (some ⟨zb, 0, none⟩)) ∧ BigIs w' zb neg u ∧ Below w.heap.size w w' := by
  obtain ⟨w1, hw1⟩ : ∃ w1, w1 = w.alloc (.cells #[.pointer (some ⟨b, 0, none⟩), .int .i32 x] 33) := ⟨_, rfl⟩
  have s1 : w1.heap.size = w.heap.size + 1 := by rw [hw1, size_alloc']
  obtain ⟨w2, hw2⟩ : ∃ w2, w2 = w1.alloc (.cells #[.bool false, .slice none 0 0] 44) := ⟨_, rfl⟩
  have hb1 : Below w.heap.size w w1 := by rw [hw1]; exact below_box _ _
  have hb2 : Below w.heap.size w w2 := by rw [hw2]; exact hb1.trans ((below_box w1 _).mono (by omega))
  have lb : b < w.heap.size := by obtain ⟨cs, hcs⟩ := h.row; exact lt_of_heap hcs
  have C := intSet_any (w := w2) (zb := w.heap.size + 1) (B := w.heap.size) (by rw [hw2, ← s1]; exact heap_new _ _) (h.kept hb2) (by omega) (by omega)
  have E := ens_some (w := w1) (pb := w.heap.size) (a := ⟨b, 0, none⟩) (by rw [hw1]; exact cell_of_heap (heap_new w _) rfl)
  rw [hw2] at C
  rw [hw1] at C E
  have HB : Hid (Below w.heap.size w w2) := hb2
  have H2 : Hid (w2 = (w.alloc (.cells #[.pointer (some ⟨b, 0, none⟩), .int .i32 x] 33)).alloc (.cells #[.bool false, .slice none 0 0] 44)) := by show _ = _; rw [hw2, hw1]
  clear hw1 hw2 s1 hb1 hb2 h
  go_enter Try.func11, Try.ntmps11
  go_wp2_with fail
  refine E.mono ?_
  rintro e w' ⟨rfl, hw⟩
  subst hw
  clear E
  go_wp2_with fail
  refine C.mono ?_
  rintro e w' ⟨rfl, hbi, hbl⟩
  clear C
  go_wp2
  go_ret
  refine ⟨_, rfl, hbi, ?_⟩
  rw [← H2.out] at hbl
  exact HB.out.trans hbl

/-- What ensureInitialized leaves of a box without a big.Int. -/
theorem ens_facts {w w' : World} {x : Int} (hw : w' = ((w.alloc (.cells #[.pointer none, .int .i32 x] 33)).setCell ⟨w.heap.size, 0, none⟩ (.pointer (some ⟨(w.alloc (.cells #[.pointer none, .int .i32 x] 33)).heap.size, 0, none⟩))).alloc (.cells #[.bool false, .slice none 0 0] 44)) :
    w'.cell? ⟨w.heap.size, 0, none⟩ = some (.pointer (some ⟨w.heap.size + 1, 0, none⟩)) ∧ BigIs w' (w.heap.size + 1) false none ∧ Below w.heap.size w w' ∧ w'.heap.size = w.heap.size + 1 + 1 := by
  obtain ⟨w1, hw1⟩ : ∃ w1, w1 = w.alloc (.cells #[.pointer none, .int .i32 x] 33) := ⟨_, rfl⟩
  have s1 : w1.heap.size = w.heap.size + 1 := by rw [hw1, size_alloc']
  have h1 : w1.heap[w.heap.size]? = some (.cells #[.pointer none, .int .i32 x] 33 (0, 0)) := by rw [hw1]; exact heap_new _ _
  have hb1 : Below w.heap.size w w1 := by rw [hw1]; exact below_box _ _
  rw [← hw1, s1] at hw
  have h2 := setCell_heap (i := 0) h1 (.pointer (some ⟨w.heap.size + 1, 0, none⟩))
  obtain ⟨w2, hw2⟩ : ∃ w2, w2 = w1.setCell ⟨w.heap.size, 0, none⟩ (.pointer (some ⟨w.heap.size + 1, 0, none⟩)) := ⟨_, rfl⟩
  have s2 : w2.heap.size = w.heap.size + 1 := by rw [hw2, ← s1]; simp [World.setCell]
  have hb2 : Below w.heap.size w w2 := by rw [hw2]; exact hb1.setCell (Nat.le_refl _) _
  rw [← hw2] at hw h2
  refine ⟨?_, .inl ⟨rfl, ?_⟩, ?_, ?_⟩
  · rw [hw]
    exact cell_of_heap ((heap_old _ _ _ (by omega)).trans h2) rfl
  · rw [hw, ← s2]; exact heap_new _ _
  · rw [hw]; exact hb2.alloc (by omega) _
  · rw [hw, size_alloc', s2]

set_option maxHeartbeats 400000 in
/-- Coefficient, of a decimal without a big.Int: 0. -/
theorem coef_none (w : World) (x : Int) :
    Calls Try.prog 11 #[.agg #[.pointer none, .int .i32 x]] w fun e w' => ∃ zb, e = .returned (.pointer (some ⟨zb, 0, none⟩)) ∧ BigIs w' zb false none ∧ Below w.heap.size w w' := by
  have hg := heap_new w (.cells #[.pointer none, .int .i32 x] 33)
  have E := ens_none (w := w.alloc (.cells #[.pointer none, .int .i32 x] 33)) (pb := w.heap.size) (cell_of_heap hg rfl) (by unfold World.frozen?; simp only [hg]; rfl)
  clear hg
  go_enter Try.func11, Try.ntmps11
  go_wp2_with fail
  refine E.mono ?_
  rintro e w' ⟨rfl, hw⟩
  obtain ⟨hc, hbi, hbl, hsz⟩ := ens_facts hw
  clear E hw
  have C := intSet_any (w := w'.alloc (.cells #[.bool false, .slice none 0 0] 44)) (zb := w'.heap.size) (B := w.heap.size) (heap_new _ _) (hbi.kept (below_box _ _)) (by omega) (by omega)
  have HS : Hid (w'.heap.size = w.heap.size + 1 + 1) := hsz
  have hlt : w.heap.size < w'.heap.size := by omega
  clear hsz
  go_wp2_with fail
  refine C.mono ?_
  rintro e w2 ⟨rfl, hbi2, hbl2⟩
  clear C
  go_wp2
  go_ret
  exact ⟨_, rfl, hbi2, hbl.trans (((below_box w' _).mono (by omega)).trans hbl2)⟩

theorem exponent_any (w : World) (v : Value) (x : Int) :
    Calls Try.prog 14 #[.agg #[v, .int .i32 x]] w fun e w' => e = .returned (.int .i32 x) ∧ w' = w.alloc (.cells #[v, .int .i32 x] 33) := by
  go_enter Try.func14, Try.ntmps14
  go_wp2
  go_ret
  exact ⟨rfl, rfl⟩

theorem BigIs.stored {w : World} {b : Nat} {neg : Bool} {u : Option Int} (h : BigIs w b neg u) {pb : Nat} {p : Option Addr} {y : Value} {fz : Nat × Nat} (hp : w.heap[pb]? = some (.cells #[.pointer p, y] 33 fz)) (i : Nat) (x : Value) : BigIs (w.setCell ⟨pb, i, none⟩ x) b neg u := by
  have ne : ∀ {sl : Value}, w.heap[b]? = some (.cells #[.bool neg, sl] 44 (0, 0)) → b ≠ pb := fun h1 e => by
    rw [e, hp] at h1
    simp at h1
  rcases h with ⟨e, h1⟩ | ⟨v, ab, e, h1, h2⟩
  · exact .inl ⟨e, (Below.heap_setCell _ _ _ _ (ne h1)).trans h1⟩
  · refine .inr ⟨v, ab, e, (Below.heap_setCell _ _ _ _ (ne h1)).trans h1, ?_⟩
    rw [World.cell?_setCell_other _ _ _ _ (fun e => ?_)]
    · exact h2
    · cases e
      have := cell_of_heap (i := 0) hp rfl
      rw [this] at h2
      cases h2

/-- The result's box, behind a call that left what was there. -/
theorem box_kept {w w1 : World} {cs : Array Value} (hb : Below (w.alloc (.cells cs 33)).heap.size (w.alloc (.cells cs 33)) w1) : w1.heap[w.heap.size]? = some (.cells cs 33 (0, 0)) :=
  (hb.block _ (by rw [size_alloc']; omega)).trans (heap_new _ _)

theorem frozen_of_heap {w : World} {b i : Nat} {cs : Array Value} {t : TypeId} (h : w.heap[b]? = some (.cells cs t (0, 0))) : w.frozen? ⟨b, i, none⟩ = false := by
  unfold World.frozen?
  simp only [h]
  simp

/-- A decimal stored into the result's box. -/
theorem dec_stored {w w1 : World} {b : Nat} {neg : Bool} {u : Option Int} {y : Int} (h : BigIs w1 b neg u) (hp : w1.heap[w.heap.size]? = some (.cells #[.pointer none, .int .i32 0] 33 (0, 0))) (hb : Below w.heap.size w w1) :
    BigIs ((w1.setCell ⟨w.heap.size, 0, none⟩ (.pointer (some ⟨b, 0, none⟩))).setCell ⟨w.heap.size, 1, none⟩ (.int .i32 y)) b neg u ∧
    Below w.heap.size w ((w1.setCell ⟨w.heap.size, 0, none⟩ (.pointer (some ⟨b, 0, none⟩))).setCell ⟨w.heap.size, 1, none⟩ (.int .i32 y)) := by
  refine ⟨(h.stored hp 0 _).stored (p := some ⟨b, 0, none⟩) (y := .int .i32 0) (fz := (0, 0)) ?_ 1 _, (hb.setCell (Nat.le_refl _) _).setCell (Nat.le_refl _) _⟩
  exact setCell_heap (i := 0) hp (.pointer (some ⟨b, 0, none⟩))

set_option maxHeartbeats 400000 in
/-- decimal.New. -/
theorem decNew (x : Int) (hx : (Lit.int .i64 x).wf = true) (y : Int) (w : World) :
    Calls Try.prog 16 #[.int .i64 x, .int .i32 y] w fun e w' => ∃ b neg u, e = .returned (.agg #[.pointer (some ⟨b, 0, none⟩), .int .i32 y]) ∧ Rep x neg u ∧ BigIs w' b neg u ∧ Below w.heap.size w w' := by
  have C := newInt_any x hx (w.alloc (.cells #[.pointer none, .int .i32 0] 33))
  go_enter Try.func16, Try.ntmps16
  go_wp2_with fail
  refine C.mono ?_
  rintro e w1 ⟨b, neg, u, rfl, hr, hbi, hbl⟩
  have hp := box_kept hbl
  have q0 : w1.cell? ⟨w.heap.size, 0, none⟩ = some (.pointer none) := cell_of_heap hp rfl
  have q1 : w1.cell? ⟨w.heap.size, 1, none⟩ = some (.int .i32 0) := cell_of_heap hp rfl
  have f0 : w1.frozen? ⟨w.heap.size, 0, none⟩ = false := frozen_of_heap hp
  have f1 : w1.frozen? ⟨w.heap.size, 1, none⟩ = false := frozen_of_heap hp
  have hfin := dec_stored (y := y) hbi hp ((below_box w _).trans (hbl.mono (by simp)))
  have HF : Hid (BigIs ((w1.setCell ⟨w.heap.size, 0, none⟩ (.pointer (some ⟨b, 0, none⟩))).setCell ⟨w.heap.size, 1, none⟩ (.int .i32 y)) b neg u ∧ Below w.heap.size w ((w1.setCell ⟨w.heap.size, 0, none⟩ (.pointer (some ⟨b, 0, none⟩))).setCell ⟨w.heap.size, 1, none⟩ (.int .i32 y))) := hfin
  clear C hfin hp
  go_wp2
  exact bodyPost_ret (v := .agg #[.pointer (some ⟨b, 0, none⟩), .int .i32 y]) (by simp [results, Try.results16, go_sem, q0, q1]) rfl ⟨b, neg, u, rfl, hr, HF.out.1, HF.out.2⟩

end Go.Proofs.Qxb6612285a
