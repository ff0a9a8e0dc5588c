/-
  runsOf (27), change (28), endLast (22), ZZendLast (10), ended (24), ZZended (13), last (23), ZZlast (12), ZZhasRuns (11).
-/
import Derived.Test.Qxb6612280aNew
import Derived.Deep.QuietTactic
import Derived.BigQuiet
import Derived.RegionTactic
import Derived.Conc.EventLaws
namespace Go.Proofs.Qxb6612280a
open Go.RowKit Go.Maps

theorem zero49 (w : World) : (zeroValue 49).run Try.prog w = .ok (.pointer none) w := by kernel_rfl
theorem zero4 (w : World) : (zeroValue 4).run Try.prog w = .ok (.bool false) w := by kernel_rfl

/-- What stands in a block that is neither turned nor written stands. -/
theorem Mem.of_blocks {w w' : World} {B sb mb cb n : Nat} {f : Int → Option Value} (M : Mem w B sb mb cb n f) (h : ∀ i, i < w.heap.size → w'.heap[i]? = w.heap[i]?) : Mem w' B sb mb cb n f := by
  have hs : sb < w.heap.size := by
    rcases Nat.lt_or_ge sb w.heap.size with h1 | h1
    · exact h1
    · have := M.c5
      unfold World.cell? at this
      rw [Array.getElem?_eq_none h1] at this
      simp at this
  have hc : cb < w.heap.size := (Array.getElem?_eq_some_iff.1 M.ch).1
  refine ⟨?_, ?_, ?_, ?_, ?_, M.hsb, M.hmb, M.hcb⟩
  · rw [World.cell?_of_block (w := w) (h _ hs)]; exact M.c5
  · rw [World.cell?_of_block (w := w) (h _ hs)]; exact M.c8
  · rw [World.frozen?_of_block (w := w) (h _ hs)]; exact M.f8
  · rw [h _ hc]; exact M.ch
  · exact M.map.of_block (h _ M.map.lt)

theorem runsOf_known {w : World} {B sb mb cb n : Nat} {f : Int → Option Value} (M : Mem w B sb mb cb n f) {p : Int} (hp : (Lit.int .i64 p).wf = true) {v : Value} (hf : f p = some v) :
    Calls Try.prog 27 #[.pointer (some ⟨sb, 0, none⟩), .int .i64 p] w fun e w' => e = .returned v ∧ w' = w := by
  have hl := M.map.look Try.underlying3 Try.underlying39 (zero49 w) hp true
  rw [hf] at hl
  simp only [if_true, Option.getD_some, Option.isSome_some] at hl
  have hc5 := M.c5
  clear hf M
  go_enter Try.func27, Try.ntmps27
  go_wp2
  go_ret
  exact ⟨rfl, rfl⟩

/-- The world behind a record that was made anew. -/
theorem fresh_run {w : World} (w' : World) (cs : Array Value) (t : TypeId) (last : Int) {B : Nat} (hB : B ≤ w.heap.size) (h0 : cs[0]? = some (.int .u64 last)) (h1 : cs[1]? = some (.map (some w.heap.size)))
    (hw : w' = ((w.alloc (.map #[] 0)).alloc (.map #[] 0)).alloc (.cells cs t)) : Run w' B (w.heap.size + 1 + 1) w.heap.size 0 last (inB []) ∧ Below w.heap.size w w' ∧ ∀ i, i < w.heap.size → w'.heap[i]? = w.heap[i]? := by
  have e2 : ((w.alloc (.map #[] 0)).alloc (.map #[] 0)).heap.size = w.heap.size + 1 + 1 := by simp
  have nw : w'.heap[w.heap.size + 1 + 1]? = some (.cells cs t) := by rw [hw, ← e2]; exact heap_new _ _
  have hb : Below w.heap.size w w' := by
    rw [hw]
    exact (((Below.refl _ _).alloc (Nat.le_refl _) _).alloc (by simp) _).alloc (by simp; omega) _
  refine ⟨⟨cell_of_heap nw h0, cell_of_heap nw h1, ?_, by omega, by omega⟩, hb, hb.block⟩
  rw [hw]
  exact (((mapF_made w Try.prog 22 .u64).alloc _).alloc _).congr (fun x _ => by simp [inB])

theorem runsOf_new {w : World} {B sb mb cb n : Nat} {f : Int → Option Value} (M : Mem w B sb mb cb n f) (hB : B ≤ w.heap.size) (hn : n < maxLen) {p : Int} (hp : (Lit.int .i64 p).wf = true) (hf : f p = none) :
    Calls Try.prog 27 #[.pointer (some ⟨sb, 0, none⟩), .int .i64 p] w fun e w' => e = .returned (.pointer (some ⟨w.heap.size + 1 + 1, 0, none⟩)) ∧
      Mem w' B sb mb cb (n + 1) (fun x => if x = p then some (.pointer (some ⟨w.heap.size + 1 + 1, 0, none⟩)) else f x) ∧ Run w' B (w.heap.size + 1 + 1) w.heap.size 0 0 (inB []) ∧ Below B w w' ∧ w.heap.size ≠ mb := by
  have hl := M.map.look Try.underlying3 Try.underlying39 (zero49 w) hp true
  rw [hf] at hl
  simp only [if_true, Option.getD_none, Option.isSome_none] at hl
  have hc5 := M.c5
  have hlt := M.map.lt
  have hmm := @run_makeMap Try.prog
  obtain ⟨W, hW⟩ : ∃ W, W = ((w.alloc (.map #[] 0)).alloc (.map #[] 0)).alloc (.cells #[.int .u64 0, .map (some w.heap.size), .map (some (w.heap.size + 1))] 53) := ⟨_, rfl⟩
  obtain ⟨R, hb, hk⟩ := fresh_run (w := w) W _ _ 0 hB rfl rfl hW
  have M1 := M.of_blocks hk
  obtain ⟨w1, hrun, hmap, ht⟩ := M1.map.store Try.underlying3 Try.underlying39 hn hp (.pointer (some ⟨w.heap.size + 1 + 1, 0, none⟩))
  have hc5' := M1.c5
  have R1 := run_turned R ht (by omega)
  rw [hW] at hrun hc5'
  clear hf M hW hk
  go_enter Try.func27, Try.ntmps27
  go_wp2
  go_ret
  refine ⟨rfl, ⟨mapTurned_cell ht M1.c5, mapTurned_cell ht M1.c8, by rw [mapTurned_frozen ht]; exact M1.f8, ?_, hmap, M1.hsb, M1.hmb, M1.hcb⟩, R1, (hb.mono hB).trans (mapTurned_below ht M1.hmb), by omega⟩
  obtain ⟨es, clock, es', clock', hb', hw'⟩ := id ht
  rw [mapTurned_heap ht _ (fun e => by have := M1.ch; rw [e, hb'] at this; cases this)]
  exact M1.ch

/-- The world behind 'change': the old channel closed, a new one made and laid into the field. -/
def changed (w : World) (sb cb : Nat) : World := (({ w with heap := w.heap.setIfInBounds cb (.chan 0 #[] true 0 0 false) } : World).setCell ⟨sb, 8, none⟩ (.chan (some w.heap.size))).alloc (.chan 0 #[] false 0 0 false)

theorem size_setCell (w : World) (a : Addr) (u : Value) : (w.setCell a u).heap.size = w.heap.size := by simp [World.setCell]

theorem changed_heap (w : World) (sb cb i : Nat) (h1 : i ≠ sb) (h2 : i ≠ cb) (h3 : i ≠ w.heap.size) : (changed w sb cb).heap[i]? = w.heap[i]? := by
  unfold changed
  rw [heap_old _ _ _ (by rw [size_setCell]; simpa using h3), Below.heap_setCell _ _ _ _ h1]
  simp only [Array.getElem?_setIfInBounds]
  rw [if_neg (fun e => h2 e.symm)]

theorem changed_size (w : World) (sb cb : Nat) : (changed w sb cb).heap.size = w.heap.size + 1 := by
  unfold changed
  rw [size_alloc', size_setCell]
  simp

theorem changed_new (w : World) (sb cb : Nat) : (changed w sb cb).heap[w.heap.size]? = some (.chan 0 #[] false 0 0 false) := by
  unfold changed
  have h := heap_new (({ w with heap := w.heap.setIfInBounds cb (.chan 0 #[] true 0 0 false) } : World).setCell ⟨sb, 8, none⟩ (.chan (some w.heap.size))) (.chan 0 #[] false 0 0 false)
  rw [size_setCell] at h
  simpa using h

theorem block_of_cell {w : World} {a : Addr} {v : Value} (h : w.cell? a = some v) : a.block < w.heap.size := by
  rcases Nat.lt_or_ge a.block w.heap.size with h1 | h1
  · exact h1
  · unfold World.cell? at h
    rw [Array.getElem?_eq_none h1] at h
    simp at h

theorem not_chan_of_cell {w : World} {a : Addr} {v : Value} {cb room s rc : Nat} {buf : Array Value} {cl tm : Bool} (h : w.cell? a = some v) (hch : w.heap[cb]? = some (.chan room buf cl s rc tm)) : a.block ≠ cb := fun e => by
  unfold World.cell? at h
  rw [e, hch] at h
  simp at h

/-- The old channel closed: every cell reads as it did. -/
theorem shut_cell {w : World} {a : Addr} {v : Value} {cb room s rc : Nat} {buf : Array Value} {cl tm : Bool} (h : w.cell? a = some v) (hch : w.heap[cb]? = some (.chan room buf cl s rc tm)) :
    ({ w with heap := w.heap.setIfInBounds cb (.chan 0 #[] true 0 0 false) } : World).heap[a.block]? = w.heap[a.block]? := by
  have h2 := not_chan_of_cell h hch
  simp only [Array.getElem?_setIfInBounds]
  rw [if_neg (fun e => h2 e.symm)]

theorem changed_cell {w : World} {sb cb : Nat} {a : Addr} {v : Value} {room s rc : Nat} {buf : Array Value} {cl tm : Bool} (hch : w.heap[cb]? = some (.chan room buf cl s rc tm)) (h : w.cell? a = some v) (hne : a ≠ ⟨sb, 8, none⟩) : (changed w sb cb).cell? a = some v := by
  have hb := shut_cell h hch
  have h3 := block_of_cell h
  unfold changed
  rw [World.cell?_of_block (w := ({ w with heap := w.heap.setIfInBounds cb (.chan 0 #[] true 0 0 false) } : World).setCell ⟨sb, 8, none⟩ (.chan (some w.heap.size))) (heap_old _ _ _ (by rw [size_setCell]; simp; omega))]
  rw [World.cell?_setCell_other _ _ _ _ (fun e => hne e.symm), World.cell?_of_block (w := w) hb]
  exact h

theorem changed_field {w : World} {sb cb : Nat} {u : Value} {room s rc : Nat} {buf : Array Value} {cl tm : Bool} (hch : w.heap[cb]? = some (.chan room buf cl s rc tm)) (h : w.cell? ⟨sb, 8, none⟩ = some u) : (changed w sb cb).cell? ⟨sb, 8, none⟩ = some (.chan (some w.heap.size)) := by
  have hb := shut_cell h hch
  have h3 : sb < w.heap.size := block_of_cell h
  unfold changed
  rw [World.cell?_of_block (w := ({ w with heap := w.heap.setIfInBounds cb (.chan 0 #[] true 0 0 false) } : World).setCell ⟨sb, 8, none⟩ (.chan (some w.heap.size))) (heap_old _ _ _ (by rw [size_setCell]; simp; omega))]
  exact World.cell?_setCell_same _ _ _ (u := u) (by rw [World.cell?_of_block (w := w) hb]; exact h)

theorem change_any {w : World} {B sb mb cb n : Nat} {f : Int → Option Value} (M : Mem w B sb mb cb n f) :
    Calls Try.prog 28 #[.pointer (some ⟨sb, 0, none⟩)] w fun e w' => e = .returned (.tuple #[]) ∧ w' = changed w sb cb := by
  have hc8 := M.c8
  have hf8 := M.f8
  have hcl := fun ats ty => run_close_open (P := Try.prog) ats ty M.ch
  obtain ⟨W, hW⟩ : ∃ W : World, W = { w with heap := w.heap.setIfInBounds cb (.chan 0 #[] true 0 0 false) } := ⟨_, rfl⟩
  have hs : W.heap.size = w.heap.size := by rw [hW]; simp
  have HS : Hid (W.heap.size = w.heap.size) := hs
  clear hs
  have hbs : W.heap[sb]? = w.heap[sb]? := by
    rw [hW]
    simp only [Array.getElem?_setIfInBounds]
    rw [if_neg (fun e => by have := M.ch; rw [e] at this; unfold World.cell? at hc8; rw [this] at hc8; simp at hc8)]
  have hc8' : W.cell? ⟨sb, 8, none⟩ = some (.chan (some cb)) := by rw [World.cell?_of_block (w := w) hbs]; exact hc8
  have hf8' : W.frozen? ⟨sb, 8, none⟩ = false := by rw [World.frozen?_of_block (w := w) hbs]; exact hf8
  have hsb : sb < W.heap.size := by
    rcases Nat.lt_or_ge sb W.heap.size with h1 | h1
    · exact h1
    · unfold World.cell? at hc8'
      rw [Array.getElem?_eq_none h1] at hc8'
      simp at hc8'
  have hmc := mk40
  have HE : Hid (changed w sb cb = (W.setCell ⟨sb, 8, none⟩ (.chan (some W.heap.size))).alloc (.chan 0 #[] false 0 0 false)) := by
    show _ = _
    rw [hW]; unfold changed; simp
  rw [← hW] at hcl
  clear hW hbs M
  go_enter Try.func28, Try.ntmps28
  go_wp2
  go_end0
  exact ⟨rfl, HE.out.symm⟩

end Go.Proofs.Qxb6612280a
