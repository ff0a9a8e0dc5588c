/-
  ZZnewReaderNil (11), ZZsetHeld (17), ZZnewChunkStream (18), release (25), ZZrelease (20), ZZheld (15), ZZcsRoom (19), ZZcsPayload (21).
-/
import Derived.Test.Qxb6612420aRows
import Derived.WalkKit
import Derived.WalkSpells
import Derived.RegionTactic
import Derived.Deep.QuietTactic
import Derived.BigQuiet
namespace Go.Proofs.Qxb6612420a
open Go.RowKit

theorem heap_new (w : World) (o : Obj) : (w.alloc o).heap[w.heap.size]? = some o := by
  show (w.heap.push o)[w.heap.size]? = _
  simp

theorem heap_old (w : World) (o : Obj) (i : Nat) (h : i ≠ w.heap.size) : (w.alloc o).heap[i]? = w.heap[i]? := by
  show (w.heap.push o)[i]? = _
  rw [Array.getElem?_push, if_neg h]

theorem cell_of_heap {w : World} {b i : Nat} {cs : Array Value} {t : TypeId} {fz : Nat × Nat} {v : Value} (h : w.heap[b]? = some (.cells cs t fz)) (hi : cs[i]? = some v) : w.cell? ⟨b, i, none⟩ = some v := by
  unfold World.cell?
  simp only [h, hi]
  rfl

theorem frozen_of_heap {w : World} {b i : Nat} {cs : Array Value} {t : TypeId} (h : w.heap[b]? = some (.cells cs t (0, 0))) : w.frozen? ⟨b, i, none⟩ = false := by
  unfold World.frozen?
  simp only [h]
  simp

theorem block_of_cell {w : World} {a : Addr} {v : Value} (h : w.cell? a = some v) : a.block < w.heap.size := by
  rcases Nat.lt_or_ge a.block w.heap.size with h1 | h1
  · exact h1
  · unfold World.cell? at h
    rw [Array.getElem?_eq_none h1] at h
    simp at h

theorem size_alloc' (w : World) (o : Obj) : (w.alloc o).heap.size = w.heap.size + 1 := by simp
theorem size_setCell (w : World) (a : Addr) (u : Value) : (w.setCell a u).heap.size = w.heap.size := by simp [World.setCell]
theorem below_box (w : World) (o : Obj) : Below w.heap.size w (w.alloc o) := (Below.refl _ _).alloc (Nat.le_refl _) _
theorem ret_int {k : IntKind} {a b : Int} (h : a = b) : Ending.returned (.int k a) = .returned (.int k b) := by rw [h]
theorem ret_bool {a b : Bool} (h : a = b) : Ending.returned (.bool a) = .returned (.bool b) := by rw [h]

/-- A Reader at block rb that holds h. -/
structure Rd (w : World) (rb : Nat) (h : Int) : Prop where
  c : w.cell? ⟨rb, 13, none⟩ = some (.int .i64 h)
  f : w.frozen? ⟨rb, 13, none⟩ = false

/-- A chunk stream at block cb with payload pl and room k. -/
structure Cs (w : World) (cb : Nat) (pl : Value) (k : Int) : Prop where
  c6 : w.cell? ⟨cb, 6, none⟩ = some pl
  c7 : w.cell? ⟨cb, 7, none⟩ = some (.int .i64 k)
  f6 : w.frozen? ⟨cb, 6, none⟩ = false
  f7 : w.frozen? ⟨cb, 7, none⟩ = false

theorem Rd.of_block {w w' : World} {rb : Nat} {h : Int} (r : Rd w rb h) (hb : w'.heap[rb]? = w.heap[rb]?) : Rd w' rb h :=
  ⟨by rw [World.cell?_of_block (w := w) hb]; exact r.c, by rw [World.frozen?_of_block (w := w) hb]; exact r.f⟩

theorem Cs.of_block {w w' : World} {cb : Nat} {pl : Value} {k : Int} (r : Cs w cb pl k) (hb : w'.heap[cb]? = w.heap[cb]?) : Cs w' cb pl k :=
  ⟨by rw [World.cell?_of_block (w := w) hb]; exact r.c6, by rw [World.cell?_of_block (w := w) hb]; exact r.c7, by rw [World.frozen?_of_block (w := w) hb]; exact r.f6, by rw [World.frozen?_of_block (w := w) hb]; exact r.f7⟩

theorem newReader (w : World) : Calls Try.prog 11 #[] w fun e w' => e = .returned (.pointer (some ⟨w.heap.size, 0, none⟩)) ∧ Rd w' w.heap.size 0 ∧ Below w.heap.size w w' ∧ w'.heap.size = w.heap.size + 1 := by
  go_enter Try.func11, Try.ntmps11
  go_wp2
  go_ret
  exact ⟨rfl, ⟨cell_of_heap (heap_new w _) rfl, frozen_of_heap (heap_new w _)⟩, below_box _ _, size_alloc' _ _⟩

theorem setHeld {w : World} {rb : Nat} {h : Int} (r : Rd w rb h) (n : Int) : Calls Try.prog 17 #[.pointer (some ⟨rb, 0, none⟩), .int .i64 n] w fun e w' => e = .returned (.tuple #[]) ∧ w' = w.setCell ⟨rb, 13, none⟩ (.int .i64 n) := by
  have hc := r.c
  have hf := r.f
  go_enter Try.func17, Try.ntmps17
  go_wp2
  go_end0
  exact ⟨rfl, rfl⟩

theorem Rd.set {w : World} {rb : Nat} {h : Int} (r : Rd w rb h) (n : Int) : Rd (w.setCell ⟨rb, 13, none⟩ (.int .i64 n)) rb n :=
  ⟨World.cell?_setCell_same _ _ _ r.c, by rw [World.frozen?_setCell]; exact r.f⟩

theorem newCs (w : World) (a : Option Addr) (len cap : Nat) (n : Int) : Calls Try.prog 18 #[.slice a len cap, .int .i64 n] w fun e w' => e = .returned (.pointer (some ⟨w.heap.size, 0, none⟩)) ∧ Cs w' w.heap.size (.slice a len cap) n ∧ Below w.heap.size w w' ∧ w'.heap.size = w.heap.size + 1 := by
  go_enter Try.func18, Try.ntmps18
  go_wp2
  go_ret
  exact ⟨rfl, ⟨cell_of_heap (heap_new w _) rfl, cell_of_heap (heap_new w _) rfl, frozen_of_heap (heap_new w _), frozen_of_heap (heap_new w _)⟩, below_box _ _, size_alloc' _ _⟩

theorem held_any {w : World} {rb : Nat} {h : Int} (r : Rd w rb h) : Calls Try.prog 15 #[.pointer (some ⟨rb, 0, none⟩)] w fun e w' => e = .returned (.int .i64 h) ∧ w' = w := by
  have hc := r.c
  go_enter Try.func15, Try.ntmps15
  go_wp2
  go_ret
  exact ⟨rfl, rfl⟩

theorem room_any {w : World} {cb : Nat} {pl : Value} {k : Int} (r : Cs w cb pl k) : Calls Try.prog 19 #[.pointer (some ⟨cb, 0, none⟩)] w fun e w' => e = .returned (.int .i64 k) ∧ w' = w := by
  have hc := r.c7
  go_enter Try.func19, Try.ntmps19
  go_wp2
  go_ret
  exact ⟨rfl, rfl⟩

theorem payload_any {w : World} {cb : Nat} {pl : Value} {k : Int} (r : Cs w cb pl k) : Calls Try.prog 21 #[.pointer (some ⟨cb, 0, none⟩)] w fun e w' => e = .returned pl ∧ w' = w := by
  have hc := r.c6
  go_enter Try.func21, Try.ntmps21
  go_wp2
  go_ret
  exact ⟨rfl, rfl⟩

/-- The world behind 'release'. -/
def released (w : World) (rb cb : Nat) (h : Int) : World := ((w.setCell ⟨rb, 13, none⟩ (.int .i64 h)).setCell ⟨cb, 6, none⟩ (.slice none 0 0)).setCell ⟨cb, 7, none⟩ (.int .i64 0)

set_option maxHeartbeats 400000 in
theorem release_any {w : World} {rb cb : Nat} {h k : Int} {a : Option Addr} {len cap : Nat} (r : Rd w rb h) (c : Cs w cb (.slice a len cap) k) (h0 : 0 ≤ k) (h1 : k ≤ h) (h2 : h ≤ 9223372036854775807) :
    Calls Try.prog 25 #[.pointer (some ⟨rb, 0, none⟩), .pointer (some ⟨cb, 0, none⟩)] w fun e w' => e = .returned (.tuple #[]) ∧ w' = (released w rb cb (h - k)).drew := by
  have hc := r.c
  have hf := r.f
  have c6 := c.c6
  have c7 := c.c7
  have f6 := c.f6
  have f7 := c.f7
  clear r c
  go_enter Try.func25, Try.ntmps25
  go_wp2
  go_region
  all_goals
    go_wp2
    go_end0
    exact ⟨rfl, rfl⟩

end Go.Proofs.Qxb6612420a
