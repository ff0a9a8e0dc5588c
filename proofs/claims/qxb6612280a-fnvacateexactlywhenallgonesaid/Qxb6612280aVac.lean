/-
  ZZvacancyAt (17), vacate (25), ZZvacate (18), ZZvacancyTold (20).
-/
import Derived.Test.Qxb6612280aGone
namespace Go.Proofs.Qxb6612280a
open Go.RowKit Go.Maps

theorem zero35 (w : World) : (zeroValue 35).run Try.prog w = .ok (.pointer none) w := by kernel_rfl

/-- The membership at block sb for vacate: its tree, the members of metagroup k, the gone, the vacancies. -/
structure Vac (w : World) (B sb tb mgb k gb vb ng nv : Nat) (am : Option Addr) (lm cm : Nat) (ms gs : List Int) (fv : Int → Option Value) : Prop where
  c0 : w.cell? ⟨sb, 0, none⟩ = some (.pointer (some ⟨tb, 0, none⟩))
  c4 : w.cell? ⟨sb, 4, none⟩ = some (.map (some gb))
  c7 : w.cell? ⟨sb, 7, none⟩ = some (.map (some vb))
  t0 : w.cell? ⟨tb, 0, none⟩ = some (.slice (some ⟨mgb, 0, none⟩) (k + 1) (k + 1))
  mem : w.cell? ⟨mgb, k * 7 + 1, none⟩ = some (.slice am lm cm)
  row : Row .i64 w am lm ms
  gone : MapF w Try.prog 3 .i64 gb ng (fun x => if inB gs x = true then some (.bool true) else none)
  vacs : MapF w Try.prog 3 .i64 vb nv fv
  hvb : B ≤ vb
  hgv : gb ≠ vb

variable {w : World} {B sb tb mgb k gb vb ng nv : Nat} {am : Option Addr} {lm cm : Nat} {ms gs : List Int} {fv : Int → Option Value}

/-- It stands while the blocks that were there stand. -/
theorem Vac.kept {w' : World} (V : Vac w B sb tb mgb k gb vb ng nv am lm cm ms gs fv) (hb : Below w.heap.size w w') : Vac w' B sb tb mgb k gb vb ng nv am lm cm ms gs fv := by
  have cell : ∀ {a : Addr} {v : Value}, w.cell? a = some v → w'.cell? a = some v := fun {a v} h => (hb.cell (block_of_cell h)).trans h
  refine ⟨cell V.c0, cell V.c4, cell V.c7, cell V.t0, cell V.mem, ?_, V.gone.of_block (hb.block _ V.gone.lt), V.vacs.of_block (hb.block _ V.vacs.lt), V.hvb, V.hgv⟩
  refine ⟨V.row.1, fun h => ?_⟩
  obtain ⟨b, off, e, hc⟩ := V.row.2 h
  exact ⟨b, off, e, fun i hi => cell (hc i hi)⟩

theorem vacancyAt_any (V : Vac w B sb tb mgb k gb vb ng nv am lm cm ms gs fv) {x : Int} (hx : (Lit.int .i64 x).wf = true) {v : Value} (hv : (fv x).getD (.pointer none) = v) :
    Calls Try.prog 17 #[.pointer (some ⟨sb, 0, none⟩), .int .i64 x] w fun e w' => e = .returned v ∧ w' = w := by
  have hl := V.vacs.look Try.underlying3 Try.underlying44 (zero35 w) hx false
  rw [hv] at hl
  simp only [Bool.false_eq_true, if_false] at hl
  have hc7 := V.c7
  clear V hv
  go_enter Try.func17, Try.ntmps17
  go_wp2
  go_ret
  exact ⟨rfl, rfl⟩

theorem below_box (w : World) (o : Obj) : Below w.heap.size w (w.alloc o) := (Below.refl _ _).alloc (Nat.le_refl _) _

set_option maxHeartbeats 400000 in
/-- A vacancy was noted: nil. -/
theorem vacate_noted (V : Vac w B sb tb mgb k gb vb ng nv am lm cm ms gs fv) (hk : (Lit.int .i64 (k : Int)).wf = true) {x : Addr} (hv : fv k = some (.pointer (some x))) :
    Calls Try.prog 25 #[.pointer (some ⟨sb, 0, none⟩), .int .i64 (k : Int)] w fun e w' => e = .returned (.pointer none) ∧ Below w.heap.size w w' := by
  have V' := V.kept (below_box w (.cells #[.pointer (some ⟨sb, 0, none⟩)] 26))
  have hl := V'.vacs.look Try.underlying3 Try.underlying44 (zero35 _) hk false
  rw [hv] at hl
  simp only [Bool.false_eq_true, if_false, Option.getD_some] at hl
  have hc7 := V'.c7
  clear V V' hv
  go_enter Try.func25, Try.ntmps25
  go_wp2
  go_ret
  exact ⟨rfl, below_box _ _⟩

/-- Behind a store into the map of vacancies. -/
theorem Vac.turned {w' : World} {nv' : Nat} {fv' : Int → Option Value} (V : Vac w B sb tb mgb k gb vb ng nv am lm cm ms gs fv) (ht : w.mapTurned w' vb) (hm : MapF w' Try.prog 3 .i64 vb nv' fv') : Vac w' B sb tb mgb k gb vb ng nv' am lm cm ms gs fv' := by
  refine ⟨mapTurned_cell ht V.c0, mapTurned_cell ht V.c4, mapTurned_cell ht V.c7, mapTurned_cell ht V.t0, mapTurned_cell ht V.mem, ?_, V.gone.of_block (mapTurned_heap ht _ V.hgv), hm, V.hvb, V.hgv⟩
  refine ⟨V.row.1, fun h => ?_⟩
  obtain ⟨b, off, e, hc⟩ := V.row.2 h
  exact ⟨b, off, e, fun i hi => mapTurned_cell ht (hc i hi)⟩

/-- What the closure sees, behind the box of the receiver. -/
theorem gone_box (V : Vac w B sb tb mgb k gb vb ng nv am lm cm ms gs fv) : Gone (w.alloc (.cells #[.pointer (some ⟨sb, 0, none⟩)] 26)) w.heap.size sb gb ng gs := by
  have V' := V.kept (below_box w (.cells #[.pointer (some ⟨sb, 0, none⟩)] 26))
  exact ⟨cell_of_heap (heap_new w _) rfl, V'.c4, V'.gone⟩

set_option maxHeartbeats 400000 in
/-- None was noted, a member is not gone: nil. -/
theorem vacate_live (V : Vac w B sb tb mgb k gb vb ng nv am lm cm ms gs fv) (hk : (Lit.int .i64 (k : Int)).wf = true) (hk' : k ≤ 65536) (hv : fv k = none) (ha : allB ms gs = false) (hl : lm ≤ 1048576) (hwm : ∀ m ∈ ms, (Lit.int .i64 m).wf = true) :
    Calls Try.prog 25 #[.pointer (some ⟨sb, 0, none⟩), .int .i64 (k : Int)] w fun e w' => e = .returned (.pointer none) ∧ Below w.heap.size w w' := by
  have V' := V.kept (below_box w (.cells #[.pointer (some ⟨sb, 0, none⟩)] 26))
  have hlk := V'.vacs.look Try.underlying3 Try.underlying44 (zero35 _) hk false
  rw [hv] at hlk
  simp only [Bool.false_eq_true, if_false, Option.getD_none] at hlk
  have hc0 := V'.c0
  have hc7 := V'.c7
  have ht0 := V'.t0
  have hmem := V'.mem
  clear hv
  go_enter Try.func25, Try.ntmps25
  go_wp2_with fail
  refine (contains_any (gone_box V) am lm cm ms ha V'.row hl hwm).mono ?_
  rintro e w' ⟨rfl, hw⟩
  subst hw
  clear V V' ha hwm
  go_wp2
  go_ret
  exact ⟨rfl, below_box _ _⟩

set_option maxHeartbeats 400000 in
/-- None was noted, every member is gone: a new vacancy, noted. -/
theorem vacate_gone (V : Vac w B sb tb mgb k gb vb ng nv am lm cm ms gs fv) (hk : (Lit.int .i64 (k : Int)).wf = true) (hk' : k ≤ 65536) (hv : fv k = none) (ha : allB ms gs = true) (hl : lm ≤ 1048576) (hn : nv < maxLen) (hwm : ∀ m ∈ ms, (Lit.int .i64 m).wf = true) :
    Calls Try.prog 25 #[.pointer (some ⟨sb, 0, none⟩), .int .i64 (k : Int)] w fun e w' => e = .returned (.pointer (some ⟨w.heap.size + 1, 0, none⟩)) ∧
      Vac w' B sb tb mgb k gb vb ng (nv + 1) am lm cm ms gs (fun x => if x = k then some (.pointer (some ⟨w.heap.size + 1, 0, none⟩)) else fv x) ∧ w'.cell? ⟨w.heap.size + 1, 0, none⟩ = some (.bool false) ∧ w.heap.size ≤ w'.heap.size ∧ (∀ i, i < w.heap.size → i ≠ vb → w'.heap[i]? = w.heap[i]?) ∧ Below B w w' := by
  have V' := V.kept (below_box w (.cells #[.pointer (some ⟨sb, 0, none⟩)] 26))
  have hlk := V'.vacs.look Try.underlying3 Try.underlying44 (zero35 _) hk false
  rw [hv] at hlk
  simp only [Bool.false_eq_true, if_false, Option.getD_none] at hlk
  have hc0 := V'.c0
  have hc7 := V'.c7
  have ht0 := V'.t0
  have hmem := V'.mem
  have hB : B ≤ w.heap.size := by have := V.vacs.lt; have := V.hvb; omega
  obtain ⟨W, hW⟩ : ∃ W, W = (w.alloc (.cells #[.pointer (some ⟨sb, 0, none⟩)] 26)).alloc (.cells #[.bool false] 63) := ⟨_, rfl⟩
  have hbW : Below w.heap.size w W := by rw [hW]; exact (below_box w _).alloc (by simp) _
  have V2 := V.kept hbW
  obtain ⟨w1, hrun, hmap, ht⟩ := V2.vacs.store Try.underlying3 Try.underlying44 hn hk (.pointer (some ⟨w.heap.size + 1, 0, none⟩))
  have hnew : W.cell? ⟨w.heap.size + 1, 0, none⟩ = some (.bool false) := by
    rw [hW]
    have h := heap_new (w.alloc (.cells #[.pointer (some ⟨sb, 0, none⟩)] 26)) (.cells #[.bool false] 63)
    rw [size_alloc'] at h
    exact cell_of_heap h rfl
  have hcp : W.cell? ⟨w.heap.size, 0, none⟩ = some (.pointer (some ⟨sb, 0, none⟩)) := by
    have h := heap_new w (.cells #[.pointer (some ⟨sb, 0, none⟩)] 26)
    rw [hW]
    refine cell_of_heap ((heap_old _ _ _ (by rw [size_alloc']; omega)).trans h) rfl
  have hc7' := V2.c7
  have hfin : Vac w1 B sb tb mgb k gb vb ng (nv + 1) am lm cm ms gs (fun x => if x = k then some (.pointer (some ⟨w.heap.size + 1, 0, none⟩)) else fv x) := V2.turned ht hmap
  have hb1 : Below B w w1 := (hbW.mono hB).trans (mapTurned_below ht V.hvb)
  have hoth : ∀ i, i < w.heap.size → i ≠ vb → w1.heap[i]? = w.heap[i]? := fun i hi hne => (mapTurned_heap ht i hne).trans (hbW.block i hi)
  have hnew' := mapTurned_cell ht hnew
  rw [hW] at hrun hc7' hcp
  have C := contains_any (gone_box V) am lm cm ms ha V'.row hl hwm
  clear hv V V' V2 ha hwm hmap ht hW hbW hnew
  have HO : Hid (∀ i, i < w.heap.size → i ≠ vb → w1.heap[i]? = w.heap[i]?) := hoth
  have HN : Hid (w1.cell? ⟨w.heap.size + 1, 0, none⟩ = some (.bool false)) := hnew'
  clear hoth hnew'
  go_enter Try.func25, Try.ntmps25
  go_wp2_with fail
  refine C.mono ?_
  rintro e w' ⟨rfl, hw⟩
  subst hw
  clear C
  go_wp2
  go_ret
  exact ⟨rfl, hfin, HN.out, hb1.size, HO.out, hb1⟩

theorem zzVacate {v : Value} {w : World} {Q : World → Prop} {sb k : Nat} (C : Calls Try.prog 25 #[.pointer (some ⟨sb, 0, none⟩), .int .i64 (k : Int)] w fun e w' => e = .returned v ∧ Q w') :
    Calls Try.prog 18 #[.pointer (some ⟨sb, 0, none⟩), .int .i64 (k : Int)] w fun e w' => e = .returned v ∧ Q w' := by
  go_enter Try.func18, Try.ntmps18
  go_wp2_with fail
  refine C.mono ?_
  rintro e w' ⟨rfl, hq⟩
  clear C
  have HQ : Hid (Q w') := hq
  clear hq
  go_wp2
  go_ret
  exact ⟨rfl, HQ.out⟩

theorem zzTold {w : World} {b : Nat} {x : Bool} (h : w.cell? ⟨b, 0, none⟩ = some (.bool x)) :
    Calls Try.prog 20 #[.pointer (some ⟨b, 0, none⟩)] w fun e w' => e = .returned (.bool x) ∧ w' = w := by
  go_enter Try.func20, Try.ntmps20
  go_wp2
  go_ret
  exact ⟨rfl, rfl⟩

end Go.Proofs.Qxb6612280a
