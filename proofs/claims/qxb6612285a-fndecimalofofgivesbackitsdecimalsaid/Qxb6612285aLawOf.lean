/-
  Of (15), ZZof (8), and the walk of FnDecimalOfOfGivesBackItsDecimal (4).
-/
import Derived.Test.Qxb6612285aLaws
namespace Go.Proofs.Qxb6612285a
open Go.RowKit

theorem figOf (p : Option Addr) (y : Int) (w : World) :
    Calls Try.prog 15 #[.agg #[.pointer p, .int .i32 y]] w fun e w' => e = .returned (.agg #[.int .i64 0, .int .i32 0, .bool false, .pointer (some ⟨w.heap.size, 0, none⟩)]) ∧ w'.cell? ⟨w.heap.size, 0, none⟩ = some (.pointer p) ∧ w'.cell? ⟨w.heap.size, 1, none⟩ = some (.int .i32 y) ∧ Below w.heap.size w w' := by
  have hg := heap_new w (.cells #[.pointer p, .int .i32 y] 33)
  have h0 : ((w.alloc (.cells #[.pointer p, .int .i32 y] 33)).alloc (.cells #[.int .i64 0, .int .i32 0, .bool false, .pointer (some ⟨w.heap.size, 0, none⟩)] 26)).heap[w.heap.size]? = some (.cells #[.pointer p, .int .i32 y] 33 (0, 0)) :=
    (heap_old _ _ _ (by rw [size_alloc']; omega)).trans hg
  have H0 := (show Hid _ from cell_of_heap (i := 0) h0 rfl)
  have H1 := (show Hid _ from cell_of_heap (i := 1) h0 rfl)
  clear hg h0
  go_enter Try.func15, Try.ntmps15
  go_wp2
  exact bodyPost_ret (v := .agg #[.int .i64 0, .int .i32 0, .bool false, .pointer (some ⟨w.heap.size, 0, none⟩)]) (by simp [results, Try.results15, go_sem]) rfl ⟨rfl, H0.out, H1.out, ((Below.refl _ _).alloc (Nat.le_refl _) _).alloc (by simp) _⟩

/-- A decimal stands while the one block that is written is a figure's. -/
theorem DecIs.others {w W : World} {p : Option Addr} {x : Int} (h : DecIs w p x) {pb : Nat} {a : Int} {c1 c2 c3 : Value} {fz : Nat × Nat} (hp : w.heap[pb]? = some (.cells #[.int .i64 a, c1, c2, c3] 26 fz)) (ho : ∀ i, i ≠ pb → W.heap[i]? = w.heap[i]?) : DecIs W p x := by
  rcases h with h | ⟨b, neg, u, e, hr, hbi⟩
  · exact .inl h
  · refine .inr ⟨b, neg, u, e, hr, ?_⟩
    have ne : ∀ {sl : Value}, w.heap[b]? = some (.cells #[.bool neg, sl] 44 (0, 0)) → b ≠ pb := fun h1 e => by
      rw [e, hp] at h1
      simp at h1
    rcases hbi with ⟨e, h1⟩ | ⟨v, ab, e, h1, h2⟩
    · exact .inl ⟨e, (ho _ (ne h1)).trans h1⟩
    · refine .inr ⟨v, ab, e, (ho _ (ne h1)).trans h1, ?_⟩
      have nab : ab ≠ pb := fun e => by
        rw [e] at h2
        have h3 := cell_of_heap (i := 0) hp rfl
        rw [h3] at h2
        cases h2
      rw [World.cell?_of_block (w := w) (ho ab nab)]
      exact h2

/-- Four stores into one block. -/
theorem four_others (w : World) (pb : Nat) (a b c d : Value) (i : Nat) (h : i ≠ pb) : ((((w.setCell ⟨pb, 0, none⟩ a).setCell ⟨pb, 1, none⟩ b).setCell ⟨pb, 2, none⟩ c).setCell ⟨pb, 3, none⟩ d).heap[i]? = w.heap[i]? := by
  rw [Below.heap_setCell _ _ _ _ h, Below.heap_setCell _ _ _ _ h, Below.heap_setCell _ _ _ _ h, Below.heap_setCell _ _ _ _ h]

set_option maxHeartbeats 400000 in
theorem zzOf (c : Int) (hc : (Lit.int .i64 c).wf = true) (y : Int) (w : World) :
    Calls Try.prog 8 #[.int .i64 c, .int .i32 y] w fun e w' => ∃ db p, e = .returned (.agg #[.int .i64 0, .int .i32 0, .bool false, .pointer (some ⟨db, 0, none⟩)]) ∧ w'.cell? ⟨db, 0, none⟩ = some (.pointer p) ∧ w'.cell? ⟨db, 1, none⟩ = some (.int .i32 y) ∧ DecIs w' p c ∧ Below w.heap.size w w' := by
  have C := decNew c hc y (w.alloc (.cells #[.int .i64 0, .int .i32 0, .bool false, .pointer none] 26))
  go_enter Try.func8, Try.ntmps8
  go_wp2_with fail
  refine C.mono ?_
  rintro e w1 ⟨b, neg, u, rfl, hr, hbi, hb1⟩
  have hp1 : w1.heap[w.heap.size]? = some (.cells #[.int .i64 0, .int .i32 0, .bool false, .pointer none] 26 (0, 0)) := (hb1.block _ (by rw [size_alloc']; omega)).trans (heap_new _ _)
  have hd1 : DecIs w1 (some ⟨b, 0, none⟩) c := .inr ⟨b, neg, u, rfl, hr, hbi⟩
  have hs1 : w.heap.size < w1.heap.size := lt_of_heap hp1
  have hbw1 : Below w.heap.size w w1 := (below_box w _).trans (hb1.mono (by simp))
  clear C hb1 hbi hr
  go_wp2_with fail
  refine (figOf (some ⟨b, 0, none⟩) y w1).mono ?_
  rintro e w2 ⟨rfl, hc0, hc1, hb2⟩
  have hp2 := (hb2.block _ hs1).trans hp1
  have hd2 := hd1.kept hb2
  have q0 : w2.cell? ⟨w.heap.size, 0, none⟩ = some (.int .i64 0) := cell_of_heap hp2 rfl
  have q1 : w2.cell? ⟨w.heap.size, 1, none⟩ = some (.int .i32 0) := cell_of_heap hp2 rfl
  have q2 : w2.cell? ⟨w.heap.size, 2, none⟩ = some (.bool false) := cell_of_heap hp2 rfl
  have q3 : w2.cell? ⟨w.heap.size, 3, none⟩ = some (.pointer none) := cell_of_heap hp2 rfl
  have f0 : w2.frozen? ⟨w.heap.size, 0, none⟩ = false := frozen_of_heap hp2
  have f1 : w2.frozen? ⟨w.heap.size, 1, none⟩ = false := frozen_of_heap hp2
  have f2 : w2.frozen? ⟨w.heap.size, 2, none⟩ = false := frozen_of_heap hp2
  have f3 : w2.frozen? ⟨w.heap.size, 3, none⟩ = false := frozen_of_heap hp2
  have hbw2 : Below w.heap.size w w2 := hbw1.trans (hb2.mono (by omega))
  obtain ⟨W, hW⟩ : ∃ W, W = (((w2.setCell ⟨w.heap.size, 0, none⟩ (.int .i64 0)).setCell ⟨w.heap.size, 1, none⟩ (.int .i32 0)).setCell ⟨w.heap.size, 2, none⟩ (.bool false)).setCell ⟨w.heap.size, 3, none⟩ (.pointer (some ⟨w1.heap.size, 0, none⟩)) := ⟨_, rfl⟩
  have ho : ∀ i, i ≠ w.heap.size → W.heap[i]? = w2.heap[i]? := fun i hi => by rw [hW]; exact four_others w2 _ _ _ _ _ i hi
  have hdW := hd2.others hp2 ho
  have hW0 : W.cell? ⟨w1.heap.size, 0, none⟩ = some (.pointer (some ⟨b, 0, none⟩)) := by rw [World.cell?_of_block (w := w2) (ho _ (by simp; omega))]; exact hc0
  have hW1 : W.cell? ⟨w1.heap.size, 1, none⟩ = some (.int .i32 y) := by rw [World.cell?_of_block (w := w2) (ho _ (by simp; omega))]; exact hc1
  have hbW : Below w.heap.size w W := by rw [hW]; exact (((hbw2.setCell (Nat.le_refl _) _).setCell (Nat.le_refl _) _).setCell (Nat.le_refl _) _).setCell (Nat.le_refl _) _
  rw [hW] at hdW hW0 hW1 hbW
  have H1 := (show Hid _ from hdW)
  have H2 := (show Hid _ from hW0)
  have H3 := (show Hid _ from hW1)
  have H4 := (show Hid _ from hbW)
  clear hdW hW0 hW1 hbW hW ho hd1 hd2 hp1 hp2 hb2 hbw1 hbw2 hc0 hc1
  go_wp2
  exact bodyPost_ret (v := .agg #[.int .i64 0, .int .i32 0, .bool false, .pointer (some ⟨w1.heap.size, 0, none⟩)]) (by simp [results, Try.results8, go_sem, q0, q1, q2, q3]) rfl ⟨_, _, rfl, H2.out, H3.out, H1.out, H4.out⟩

set_option maxHeartbeats 400000 in
/-- FnDecimalOfOfGivesBackItsDecimal. -/
theorem law4 (c y : Int) (hc : (Lit.int .i64 c).wf = true) (w : World) :
    Calls Try.prog 4 #[.int .i64 c, .int .i32 y] w fun e w' => e = .returned (.bool true) ∧ Below w.heap.size w w' := by
  go_enter Try.func4, Try.ntmps4
  go_wp2_with fail
  refine (zzOf c hc y w).mono ?_
  rintro e w1 ⟨db, p, rfl, h0, h1, hd, hb1⟩
  have hbx := below_box w1 (.cells #[.int .i64 0, .int .i32 0, .bool false, .pointer (some ⟨db, 0, none⟩)] 26)
  have C := parts_big 0 0 db p c y (cell_kept hbx h0) (cell_kept hbx h1) (hd.kept hbx)
  have hlb := block_of_cell h0
  go_wp2_with fail
  refine C.mono ?_
  rintro e w2 ⟨rfl, hb2⟩
  have hg : w2.heap[w1.heap.size]? = some (.cells #[.int .i64 0, .int .i32 0, .bool false, .pointer (some ⟨db, 0, none⟩)] 26 (0, 0)) := (hb2.block _ (by rw [size_alloc']; omega)).trans (heap_new _ _)
  have q0 : w2.cell? ⟨w1.heap.size, 0, none⟩ = some (.int .i64 0) := cell_of_heap hg rfl
  have q1 : w2.cell? ⟨w1.heap.size, 1, none⟩ = some (.int .i32 0) := cell_of_heap hg rfl
  have q2 : w2.cell? ⟨w1.heap.size, 2, none⟩ = some (.bool false) := cell_of_heap hg rfl
  have q3 : w2.cell? ⟨w1.heap.size, 3, none⟩ = some (.pointer (some ⟨db, 0, none⟩)) := cell_of_heap hg rfl
  have hb12 : Below w1.heap.size w1 w2 := hbx.trans (hb2.mono (by simp))
  have C2 := parts_big 0 0 db p c y (cell_kept hb12 h0) (cell_kept hb12 h1) (hd.kept hb12)
  clear C hg h0 h1 hd hb2 hbx
  go_wp2_with fail
  refine C2.mono ?_
  rintro e w3 ⟨rfl, hb3⟩
  have hall := hb1.trans ((hb12.trans (hb3.mono hb12.size)).mono hb1.size)
  clear C2 hb1 hb12 hb3
  go_wp2
  go_ret
  exact ⟨rfl, hall⟩

end Go.Proofs.Qxb6612285a
