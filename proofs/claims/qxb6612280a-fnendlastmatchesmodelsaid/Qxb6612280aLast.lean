import Derived.Test.Qxb6612280aEnd
namespace Go.Proofs.Qxb6612280a
open Go.RowKit Go.Maps

theorem Mem.of_heap {w w' : World} {B sb mb cb n : Nat} {f : Int → Option Value} (M : Mem w B sb mb cb n f) (h : w'.heap = w.heap) : Mem w' B sb mb cb n f := M.of_blocks (fun i _ => by rw [h])

theorem Run.of_heap {w w' : World} {B rb eb n : Nat} {last : Int} {E : Int → Bool} (R : Run w B rb eb n last E) (h : w'.heap = w.heap) : Run w' B rb eb n last E :=
  ⟨by rw [World.cell?_of_block (w := w) (by rw [h])]; exact R.c0, by rw [World.cell?_of_block (w := w) (by rw [h])]; exact R.c1, R.map.of_block (by rw [h]), R.hrb, R.heb⟩

set_option maxHeartbeats 400000 in
/-- The last incarnation is 0: nothing happens. -/
theorem endLast_zero {w : World} {B sb mb cb n rb eb m : Nat} {f : Int → Option Value} {E : Int → Bool} (M : Mem w B sb mb cb n f) {p : Int} (hp : (Lit.int .i64 p).wf = true) (hf : f p = some (.pointer (some ⟨rb, 0, none⟩)))
    (R : Run w B rb eb m 0 E) : Calls Try.prog 22 #[.pointer (some ⟨sb, 0, none⟩), .int .i64 p] w fun e w' => e = .returned (.tuple #[]) ∧ ∃ nq, w' = w.drewN nq := by
  have hc0 := R.c0
  have hc1 := R.c1
  have C := runsOf_known M hp hf
  clear hf
  go_enter Try.func22, Try.ntmps22
  go_wp2_with fail
  refine C.mono ?_
  rintro e w' ⟨rfl, rfl⟩
  go_wp2_with fail
  go_quiet (fail)
  go_wp2
  go_end0
  exact ⟨rfl, _, rfl⟩

set_option maxHeartbeats 400000 in
/-- The last incarnation is ended already: nothing happens. -/
theorem endLast_done {w : World} {B sb mb cb n rb eb m : Nat} {f : Int → Option Value} {E : Int → Bool} (M : Mem w B sb mb cb n f) {p last : Int} (hp : (Lit.int .i64 p).wf = true) (hl : (Lit.int .u64 last).wf = true) (hf : f p = some (.pointer (some ⟨rb, 0, none⟩)))
    (R : Run w B rb eb m last E) (h0 : (last != 0) = true) (hE : E last = true) : Calls Try.prog 22 #[.pointer (some ⟨sb, 0, none⟩), .int .i64 p] w fun e w' => e = .returned (.tuple #[]) ∧ ∃ nq, w' = w.drewN nq := by
  have hc0 := R.c0
  have hc1 := R.c1
  have C := runsOf_known M hp hf
  have hlk := fun nq => (R.of_heap (w' := w.drewN nq) rfl).map.look Try.underlying22 Try.underlying50 (zero4 (w.drewN nq)) hl false
  clear hf
  simp only [hE, if_true, Option.getD_some, Bool.false_eq_true, if_false] at hlk
  go_enter Try.func22, Try.ntmps22
  go_wp2_with fail
  refine C.mono ?_
  rintro e w' ⟨rfl, rfl⟩
  go_wp2_with fail
  go_quiet (fail)
  go_wp2
  go_end0
  exact ⟨rfl, _, rfl⟩

set_option maxHeartbeats 400000 in
/-- The last incarnation is live: it is ended, and a change is told. -/
theorem endLast_live {w : World} {B sb mb cb n rb eb m : Nat} {f : Int → Option Value} {E : Int → Bool} (M : Mem w B sb mb cb n f) {p last : Int} (hp : (Lit.int .i64 p).wf = true) (hl : (Lit.int .u64 last).wf = true) (hf : f p = some (.pointer (some ⟨rb, 0, none⟩)))
    (R : Run w B rb eb m last E) (hm : m < maxLen) (hne : mb ≠ eb) (h0 : (last != 0) = true) (hE : E last = false) : Calls Try.prog 22 #[.pointer (some ⟨sb, 0, none⟩), .int .i64 p] w fun e w' => e = .returned (.tuple #[]) ∧
      ∃ w1, Mem w1 B sb mb cb n f ∧ Run w1 B rb eb (m + 1) last (fun x => E x || (last == x)) ∧ Below B w w1 ∧ w' = changed w1 sb cb := by
  have hc0 := R.c0
  have hc1 := R.c1
  have C := runsOf_known M hp hf
  have hlk := fun nq => (R.of_heap (w' := w.drewN nq) rfl).map.look Try.underlying22 Try.underlying50 (zero4 (w.drewN nq)) hl false
  clear hf
  simp only [hE, if_false, Option.getD_none, Bool.false_eq_true] at hlk
  go_enter Try.func22, Try.ntmps22
  go_wp2_with fail
  refine C.mono ?_
  rintro e w' ⟨rfl, rfl⟩
  go_wp2_with fail
  go_quiet (fail)
  go_wp2_with fail
  obtain ⟨w1, hrun, R1, ht⟩ := run_ended (R.of_heap (w' := w'.drewN (nq + 1)) rfl) hm hl
  have M1 := mem_turned (M.of_heap (w' := w'.drewN (nq + 1)) rfl) ht hne
  have hbe : Below B w' w1 := Below.trans (b := w'.drewN (nq + 1)) ⟨rfl, rfl, rfl, Nat.le_refl _, fun _ _ => rfl⟩ (mapTurned_below ht R.heb)
  clear C hlk
  go_region
  all_goals
    go_wp2_with fail
    refine (change_any M1).mono ?_
    rintro e w'' ⟨rfl, rfl⟩
    go_wp2
    go_end0
    exact ⟨rfl, w1, M1, R1, hbe, rfl⟩

end Go.Proofs.Qxb6612280a
