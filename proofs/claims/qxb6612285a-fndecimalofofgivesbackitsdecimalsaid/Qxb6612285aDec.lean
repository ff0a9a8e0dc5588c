/-
  Figure.Decimal (10), ZZdecimalParts (6), figure.New (7), Of (15), ZZof (8).
-/
import Derived.Test.Qxb6612285aCoef
namespace Go.Proofs.Qxb6612285a
open Go.RowKit

set_option maxHeartbeats 400000 in
/-- Of a small figure. -/
theorem decimal_small (c : Int) (hc : (Lit.int .i64 c).wf = true) (y : Int) (g : Option Addr) (w : World) :
    Calls Try.prog 10 #[.agg #[.int .i64 c, .int .i32 y, .bool true, .pointer g]] w fun e w' => ∃ b neg u, e = .returned (.agg #[.pointer (some ⟨b, 0, none⟩), .int .i32 y]) ∧ Rep c neg u ∧ BigIs w' b neg u ∧ Below w.heap.size w w' := by
  obtain ⟨w0, hw0⟩ : ∃ w0, w0 = w.alloc (.cells #[.int .i64 c, .int .i32 y, .bool true, .pointer g] 26) := ⟨_, rfl⟩
  have s0 : w0.heap.size = w.heap.size + 1 := by rw [hw0, size_alloc']
  have hb0 : Below w.heap.size w w0 := by rw [hw0]; exact below_box _ _
  have C := decNew c hc y (w0.alloc (.cells #[.pointer none, .int .i32 0] 33))
  have hfin : ∀ {w1 : World} {b : Nat} {neg : Bool} {u : Option Int}, BigIs w1 b neg u → Below (w0.alloc (.cells #[.pointer none, .int .i32 0] 33)).heap.size (w0.alloc (.cells #[.pointer none, .int .i32 0] 33)) w1 →
      w1.heap[w.heap.size + 1]? = some (.cells #[.pointer none, .int .i32 0] 33 (0, 0)) ∧ BigIs ((w1.setCell ⟨w.heap.size + 1, 0, none⟩ (.pointer (some ⟨b, 0, none⟩))).setCell ⟨w.heap.size + 1, 1, none⟩ (.int .i32 y)) b neg u ∧
      Below w.heap.size w ((w1.setCell ⟨w.heap.size + 1, 0, none⟩ (.pointer (some ⟨b, 0, none⟩))).setCell ⟨w.heap.size + 1, 1, none⟩ (.int .i32 y)) := by
    intro w1 b neg u hbi hbl
    have hp := box_kept hbl
    have h := dec_stored (y := y) hbi hp ((below_box w0 _).trans (hbl.mono (by simp)))
    rw [s0] at h hp
    exact ⟨hp, h.1, hb0.trans (h.2.mono (by omega))⟩
  rw [hw0] at C hfin
  have HF := (show Hid _ from @hfin)
  clear hfin hw0 s0 hb0
  go_enter Try.func10, Try.ntmps10
  go_wp2_with fail
  refine C.mono ?_
  rintro e w1 ⟨b, neg, u, rfl, hr, hbi, hbl⟩
  obtain ⟨hp, hb1, hb2⟩ := HF.out hbi hbl
  have q0 : w1.cell? ⟨w.heap.size + 1, 0, none⟩ = some (.pointer none) := cell_of_heap hp rfl
  have q1 : w1.cell? ⟨w.heap.size + 1, 1, none⟩ = some (.int .i32 0) := cell_of_heap hp rfl
  have f0 : w1.frozen? ⟨w.heap.size + 1, 0, none⟩ = false := frozen_of_heap hp
  have f1 : w1.frozen? ⟨w.heap.size + 1, 1, none⟩ = false := frozen_of_heap hp
  have H1 := (show Hid _ from hb1)
  have H2 := (show Hid _ from hb2)
  clear C hp HF hb1 hb2 hbi hbl
  go_wp2
  exact bodyPost_ret (v := .agg #[.pointer (some ⟨b, 0, none⟩), .int .i32 y]) (by simp [results, Try.results10, go_sem, q0, q1]) rfl ⟨b, neg, u, rfl, hr, H1.out, H2.out⟩

/-- Of the zero figure. -/
theorem decimal_zero (c y : Int) (w : World) :
    Calls Try.prog 10 #[.agg #[.int .i64 c, .int .i32 y, .bool false, .pointer none]] w fun e w' => e = .returned (.agg #[.pointer none, .int .i32 0]) ∧ Below w.heap.size w w' := by
  go_enter Try.func10, Try.ntmps10
  go_wp2
  exact bodyPost_ret (v := .agg #[.pointer none, .int .i32 0]) (by simp [results, Try.results10, go_sem]) rfl ⟨rfl, ((Below.refl _ _).alloc (Nat.le_refl _) _).alloc (by simp) _⟩

/-- Of a figure that has its decimal. -/
theorem decimal_big (c y : Int) (db : Nat) (p : Option Addr) (z : Int) (w : World) (h0 : w.cell? ⟨db, 0, none⟩ = some (.pointer p)) (h1 : w.cell? ⟨db, 1, none⟩ = some (.int .i32 z)) :
    Calls Try.prog 10 #[.agg #[.int .i64 c, .int .i32 y, .bool false, .pointer (some ⟨db, 0, none⟩)]] w fun e w' => e = .returned (.agg #[.pointer p, .int .i32 z]) ∧ Below w.heap.size w w' := by
  have hl := block_of_cell h0
  have hl' : db < w.heap.size := hl
  go_enter Try.func10, Try.ntmps10
  go_wp2
  exact bodyPost_ret (v := .agg #[.pointer p, .int .i32 z]) (by simp [results, Try.results10, go_sem]) rfl ⟨rfl, ((Below.refl _ _).alloc (Nat.le_refl _) _).alloc (by simp) _⟩

end Go.Proofs.Qxb6612285a
