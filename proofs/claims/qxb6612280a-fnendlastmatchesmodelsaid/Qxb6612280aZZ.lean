/-
  ZZendLast (10), ended (24), ZZended (13).
-/
import Derived.Test.Qxb6612280aLast
namespace Go.Proofs.Qxb6612280a
open Go.RowKit Go.Maps

theorem neq_chan (a b : Nat) (w : World) : (binOp .neq 40 (.chan (some a)) (.chan (some b))).run Try.prog w = .ok (.bool (!(a == b))) w := by
  have h : ∀ d : Nat, (Op.equalIn (d + 1) 40 (.chan (some a)) (.chan (some b))).run Try.prog w = .ok (a == b) w := fun d => by
    simp [Op.equalIn, run_underlying Try.underlying40]
  simp only [binOp]
  simp [Op.equal, Op.maxDepth, h 9999]

theorem map_ne_cell {w : World} {P : Program} {k : TypeId} {q : IntKind} {b n : Nat} {f : Int → Option Value} (h : MapF w P k q b n f) {a : Addr} {v : Value} (hc : w.cell? a = some v) : b ≠ a.block := fun e => by
  obtain ⟨es, clock, hb⟩ := h.isMap
  unfold World.cell? at hc
  rw [← e, hb] at hc
  simp at hc

theorem map_ne_chan {w : World} {P : Program} {k : TypeId} {q : IntKind} {b n : Nat} {f : Int → Option Value} (h : MapF w P k q b n f) {cb room s rc : Nat} {buf : Array Value} {cl tm : Bool} (hch : w.heap[cb]? = some (.chan room buf cl s rc tm)) : b ≠ cb := fun e => by
  obtain ⟨es, clock, hb⟩ := h.isMap
  rw [e, hch] at hb
  cases hb

theorem mem_changed {w : World} {B sb mb cb n : Nat} {f : Int → Option Value} (M : Mem w B sb mb cb n f) : Mem (changed w sb cb) B sb mb w.heap.size n f := by
  have hs : sb < w.heap.size := block_of_cell M.c5
  have hB := M.hsb
  refine ⟨changed_cell M.ch M.c5 (by intro e; cases e), changed_field M.ch M.c8, ?_, changed_new w sb cb, M.map.of_block (changed_heap w sb cb mb (map_ne_cell M.map M.c5) (map_ne_chan M.map M.ch) (by have := M.map.lt; omega)), M.hsb, M.hmb, by omega⟩
  have hb := shut_cell M.c8 M.ch
  have hf := M.f8
  unfold changed
  rw [World.frozen?_of_block (w := ({ w with heap := w.heap.setIfInBounds cb (.chan 0 #[] true 0 0 false) } : World).setCell ⟨sb, 8, none⟩ (.chan (some w.heap.size))) (heap_old _ _ _ (by rw [size_setCell]; simp; omega)), World.frozen?_setCell, World.frozen?_of_block (w := w) hb]
  exact hf

theorem run_changed {w : World} {B sb mb cb n rb eb m : Nat} {f : Int → Option Value} {last : Int} {E : Int → Bool} (M : Mem w B sb mb cb n f) (R : Run w B rb eb m last E) : Run (changed w sb cb) B rb eb m last E :=
  ⟨changed_cell M.ch R.c0 (by intro e; cases e), changed_cell M.ch R.c1 (by intro e; cases e),
    R.map.of_block (changed_heap w sb cb eb (map_ne_cell R.map M.c5) (map_ne_chan R.map M.ch) (by have := R.map.lt; omega)), R.hrb, R.heb⟩

theorem below_changed {w : World} {B sb mb cb n : Nat} {f : Int → Option Value} (M : Mem w B sb mb cb n f) : Below B w (changed w sb cb) := by
  have hs : sb < w.heap.size := block_of_cell M.c5
  have h1 := M.hsb
  have h2 := M.hcb
  exact ⟨rfl, rfl, rfl, by rw [changed_size]; omega, fun i hi => changed_heap w sb cb i (by omega) (by omega) (by omega)⟩

set_option maxHeartbeats 400000 in
/-- An unknown peer: a record is made; nothing is told. -/
theorem endLast_new {w : World} {B sb mb cb n : Nat} {f : Int → Option Value} (M : Mem w B sb mb cb n f) (hn : n < maxLen) {p : Int} (hp : (Lit.int .i64 p).wf = true) (hf : f p = none) :
    Calls Try.prog 22 #[.pointer (some ⟨sb, 0, none⟩), .int .i64 p] w fun e w' => e = .returned (.tuple #[]) ∧
      Mem w' B sb mb cb (n + 1) (fun x => if x = p then some (.pointer (some ⟨w.heap.size + 1 + 1, 0, none⟩)) else f x) ∧ Run w' B (w.heap.size + 1 + 1) w.heap.size 0 0 (inB []) ∧ Below B w w' ∧ w.heap.size ≠ mb := by
  have hB : B ≤ w.heap.size := by have := M.hsb; have : sb < w.heap.size := block_of_cell M.c5; omega
  have C := runsOf_new M hB hn hp hf
  clear hf
  go_enter Try.func22, Try.ntmps22
  go_wp2_with fail
  refine C.mono ?_
  rintro e w1 ⟨rfl, M1, R1, hb, hne⟩
  have hc0 := R1.c0
  have hc1 := R1.c1
  clear C
  go_wp2_with fail
  go_quiet (fail)
  go_wp2
  go_end0
  exact ⟨rfl, M1.of_heap rfl, R1.of_heap rfl, hb.trans ⟨rfl, rfl, rfl, Nat.le_refl _, fun _ _ => rfl⟩, hne⟩

set_option maxHeartbeats 400000 in
theorem zzEndLast_new {w : World} {B sb mb cb n : Nat} {f : Int → Option Value} (M : Mem w B sb mb cb n f) (hn : n < maxLen) {p : Int} (hp : (Lit.int .i64 p).wf = true) (hf : f p = none) :
    Calls Try.prog 10 #[.pointer (some ⟨sb, 0, none⟩), .int .i64 p] w fun e w' => e = .returned (.bool false) ∧
      Mem w' B sb mb cb (n + 1) (fun x => if x = p then some (.pointer (some ⟨w.heap.size + 1 + 1, 0, none⟩)) else f x) ∧ Run w' B (w.heap.size + 1 + 1) w.heap.size 0 0 (inB []) ∧ Below B w w' ∧ w.heap.size ≠ mb := by
  have C := endLast_new M hn hp hf
  have hc8 := M.c8
  clear hf
  go_enter Try.func10, Try.ntmps10
  go_wp2_with fail
  refine C.mono ?_
  rintro e w1 ⟨rfl, M1, R1, hb, hne⟩
  have hc8' := M1.c8
  have hq := neq_chan cb cb
  rw [beq_self_eq_true, Bool.not_true] at hq
  clear C
  go_wp2
  go_ret
  exact ⟨rfl, M1, R1, hb, hne⟩

/-- Is the last incarnation live? -/
def liveB (last : Int) (E : Int → Bool) : Bool := (last != 0) && !(E last)
/-- The ended ones behind 'endLast'. -/
def endedB (last : Int) (E : Int → Bool) (x : Int) : Bool := E x || ((last != 0) && (last == x))

theorem endedB_zero (E : Int → Bool) : endedB 0 E = E := by funext x; simp [endedB]
theorem endedB_done {last : Int} {E : Int → Bool} (h : E last = true) : endedB last E = E := by
  funext x
  unfold endedB
  by_cases e : last = x
  · subst e; simp [h]
  · have : (last == x) = false := by simpa using e
    simp [this]
theorem endedB_live {last : Int} (E : Int → Bool) (h : (last != 0) = true) : endedB last E = fun x => E x || (last == x) := by
  funext x
  simp [endedB, h]

set_option maxHeartbeats 400000 in
theorem zzEndLast_known {w : World} {B sb mb cb n rb eb m : Nat} {f : Int → Option Value} {E : Int → Bool} (M : Mem w B sb mb cb n f) {p last : Int} (hp : (Lit.int .i64 p).wf = true) (hl : (Lit.int .u64 last).wf = true) (hf : f p = some (.pointer (some ⟨rb, 0, none⟩)))
    (R : Run w B rb eb m last E) (hm : m < maxLen) (hne : mb ≠ eb) :
    Calls Try.prog 10 #[.pointer (some ⟨sb, 0, none⟩), .int .i64 p] w fun e w' => e = .returned (.bool (liveB last E)) ∧ ∃ cb' m', m' ≤ m + 1 ∧ Mem w' B sb mb cb' n f ∧ Run w' B rb eb m' last (endedB last E) ∧ Below B w w' := by
  have hc8 := M.c8
  have hq := neq_chan cb cb
  rw [beq_self_eq_true, Bool.not_true] at hq
  by_cases h0 : last = 0
  · subst h0
    have C := endLast_zero M hp hf R
    clear hf
    go_enter Try.func10, Try.ntmps10
    go_wp2_with fail
    refine C.mono ?_
    rintro e w1 ⟨rfl, nq, rfl⟩
    clear C
    go_wp2
    go_ret
    exact ⟨rfl, cb, m, by omega, M.of_heap rfl, by rw [endedB_zero]; exact R.of_heap rfl, ⟨rfl, rfl, rfl, Nat.le_refl _, fun _ _ => rfl⟩⟩
  · have h0' : (last != 0) = true := by simpa using h0
    cases hE : E last with
    | true =>
      have C := endLast_done M hp hl hf R h0' hE
      have HE : Hid (E last = true) := hE
      clear hf hE
      go_enter Try.func10, Try.ntmps10
      go_wp2_with fail
      refine C.mono ?_
      rintro e w1 ⟨rfl, nq, rfl⟩
      clear C
      go_wp2
      go_ret
      exact ⟨ret_bool (by simp [liveB, HE.out]), cb, m, by omega, M.of_heap rfl, by rw [endedB_done HE.out]; exact R.of_heap rfl, ⟨rfl, rfl, rfl, Nat.le_refl _, fun _ _ => rfl⟩⟩
    | false =>
      have C := endLast_live M hp hl hf R hm hne h0' hE
      have HE : Hid (E last = false) := hE
      clear hf hE
      go_enter Try.func10, Try.ntmps10
      go_wp2_with fail
      refine C.mono ?_
      rintro e w1 ⟨rfl, w2, M2, R2, hb, rfl⟩
      have M3 := mem_changed M2
      have hc8' := M3.c8
      have hlt : cb < w2.heap.size := (Array.getElem?_eq_some_iff.1 M2.ch).1
      have hq' := neq_chan w2.heap.size cb
      have hx : (w2.heap.size == cb) = false := by simp; omega
      rw [hx, Bool.not_false] at hq'
      clear C hx hlt
      go_wp2
      go_ret
      exact ⟨ret_bool (by simp [liveB, HE.out, h0']), w2.heap.size, m + 1, by omega, M3, by rw [endedB_live E h0']; exact run_changed M2 R2, hb.trans (below_changed M2)⟩

end Go.Proofs.Qxb6612280a
