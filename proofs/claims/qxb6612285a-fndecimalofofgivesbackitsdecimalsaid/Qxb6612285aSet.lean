/-
  nat.set (27) with nat.make (28), Int.Set (18), ensureInitialized (17), Coefficient (11).
-/
import Derived.Test.Qxb6612285aInt
import Derived.LaidEqlPtr
import Derived.RegionTactic
import Derived.Deep.RegionWith
import Derived.Deep.QuietTactic
import Derived.BigQuiet
import Derived.Laws.CopyOwn
namespace Go.Proofs.Qxb6612285a
open Go.RowKit

theorem set_nil (w : World) : Calls Try.prog 27 #[.slice none 0 0, .slice none 0 0] w fun e w' => e = .returned (.slice none 0 0) ∧ w' = w := by
  have hcp := fun (w : World) ty => run_copy_none (P := Try.prog) w 42 42 ty 51 none none 0 0 0 0 Try.underlying42 (by kernel_rfl) rfl
  go_enter Try.func27, Try.ntmps27
  go_wp2
  go_ret
  exact ⟨rfl, rfl⟩

theorem mk1 (w : World) : (Instr.makeSlice 42 (.int .i64 1) (.int .i64 1)).run Try.prog w = .ok (.slice (some ⟨w.heap.size, 0, none⟩) 1 1) (w.alloc (.cells #[.int .u64 0] 51)) := by kernel_rfl

theorem copy_one (w : World) (ab : Nat) (v : Int) (h : w.cell? ⟨ab, 0, none⟩ = some (.int .u64 v)) :
    ∃ w2, (∀ ty, (Builtin.copy_ #[42, 42] ty #[.slice (some ⟨w.heap.size, 0, none⟩) 1 1, .slice (some ⟨ab, 0, none⟩) 1 1]).run Try.prog (w.alloc (.cells #[.int .u64 0] 51)) = .ok (.int .i64 1) w2) ∧
      w2.cell? ⟨w.heap.size, 0, none⟩ = some (.int .u64 v) ∧ Below w.heap.size w w2 := by
  have hg := heap_new w (.cells #[.int .u64 0] 51)
  have hb1 : Below w.heap.size w (w.alloc (.cells #[.int .u64 0] 51)) := (Below.refl _ _).alloc (Nat.le_refl _) _
  have hcell : ∀ j u, [Value.int .u64 v][j]? = some u → (w.alloc (.cells #[.int .u64 0] 51)).cell? ((⟨ab, 0, none⟩ : Addr).add j) = some u := by
    intro j u hj
    match j, hj with
    | 0, hj =>
      simp at hj
      subst hj
      exact cell_kept hb1 h
  have hcp := fun ty => run_copy_row (P := Try.prog) (w.alloc (.cells #[.int .u64 0] 51)) 42 42 ty 51 w.heap.size 0 1 1 ⟨ab, 0, none⟩ 1 1 #[.int .u64 0] 51 [.int .u64 v] Try.underlying42 (by kernel_rfl) hg rfl hcell (by simp) (by intro u hu; simp at hu; subst hu; rfl)
  exact ⟨_, fun ty => hcp ty, cell_of_heap (setRow_heap (w.alloc (.cells #[.int .u64 0] 51)) w.heap.size _ _ 51 (0, 0) hg) (by simp), below_setRow hb1 (Nat.le_refl _) _⟩

theorem set_one (w : World) (ab : Nat) (v : Int) (h : w.cell? ⟨ab, 0, none⟩ = some (.int .u64 v)) :
    Calls Try.prog 27 #[.slice none 0 0, .slice (some ⟨ab, 0, none⟩) 1 1] w fun e w' => e = .returned (.slice (some ⟨w.heap.size, 0, none⟩) 1 1) ∧ w'.cell? ⟨w.heap.size, 0, none⟩ = some (.int .u64 v) ∧ Below w.heap.size w w' := by
  have hmk := mk1
  obtain ⟨w2, hcp, hc, hb⟩ := copy_one w ab v h
  have HC : Hid (w2.cell? ⟨w.heap.size, 0, none⟩ = some (.int .u64 v)) := hc
  clear hc
  go_enter Try.func27, Try.ntmps27
  go_wp2
  go_ret
  exact ⟨rfl, HC.out, hb⟩

/-- Two addresses in different blocks of plain cells. -/
theorem neq_ptr (w : World) (a b : Nat) (ca cb : Array Value) (ta tb : TypeId) (hne : a ≠ b) (ha : w.heap[a]? = some (.cells ca ta (0, 0))) (hb : w.heap[b]? = some (.cells cb tb (0, 0))) :
    (binOp .neq 31 (.pointer (some ⟨a, 0, none⟩)) (.pointer (some ⟨b, 0, none⟩))).run Try.prog w = .ok (.bool true) w := by
  have hj : (Try.prog.info? 44).map (·.size) = some 2 := by kernel_rfl
  obtain ⟨j, hj1, hj2⟩ := Option.map_eq_some_iff.1 hj
  have h : ∀ d : Nat, (Op.equalIn (d + 1) 31 (.pointer (some ⟨a, 0, none⟩)) (.pointer (some ⟨b, 0, none⟩))).run Try.prog w = .ok false w := fun d => by
    simp [Op.equalIn, run_underlying Try.underlying31, sizeOf, typeInfo, hj1, hj2, run_sameAddr_other (P := Try.prog) w (a := ⟨a, 0, none⟩) (b := ⟨b, 0, none⟩) (by simp) ha hb]
  simp only [binOp]
  simp [Op.equal, Op.maxDepth, h 9999]

theorem setCell_heap {w : World} {b i : Nat} {cs : Array Value} {t : TypeId} {fz : Nat × Nat} (h : w.heap[b]? = some (.cells cs t fz)) (v : Value) : (w.setCell ⟨b, i, none⟩ v).heap[b]? = some (.cells (cs.setIfInBounds i v) t fz) := by
  rw [setCell_eq_setRow w b i cs t fz v h]
  exact setRow_heap w b cs _ t fz h

theorem set_heap {w : World} {zb : Nat} {sl : Value} (hz : w.heap[zb]? = some (.cells #[.bool false, .slice none 0 0] 44 (0, 0))) (neg : Bool) : ((w.setCell ⟨zb, 1, none⟩ sl).setCell ⟨zb, 0, none⟩ (.bool neg)).heap[zb]? = some (.cells #[.bool neg, sl] 44 (0, 0)) := by
  have h := setCell_heap (i := 0) (setCell_heap (i := 1) hz sl) (.bool neg)
  exact h

theorem set_fin {w w1 : World} {zb B : Nat} {neg : Bool} {v : Int} (hz : w.heap[zb]? = some (.cells #[.bool false, .slice none 0 0] 44 (0, 0))) (lz : zb < w.heap.size) (hB : B ≤ zb) (hb : Below w.heap.size w w1) (hc : w1.cell? ⟨w.heap.size, 0, none⟩ = some (.int .u64 v)) :
    BigIs ((w1.setCell ⟨zb, 1, none⟩ (.slice (some ⟨w.heap.size, 0, none⟩) 1 1)).setCell ⟨zb, 0, none⟩ (.bool neg)) zb neg (some v) ∧ Below B w ((w1.setCell ⟨zb, 1, none⟩ (.slice (some ⟨w.heap.size, 0, none⟩) 1 1)).setCell ⟨zb, 0, none⟩ (.bool neg)) := by
  refine ⟨.inr ⟨v, w.heap.size, rfl, set_heap ((hb.block _ lz).trans hz) neg, ?_⟩, ((hb.mono (by omega)).setCell hB _).setCell hB _⟩
  rw [World.cell?_setCell_other _ _ _ _ (by intro e; cases e; omega), World.cell?_setCell_other _ _ _ _ (by intro e; cases e)]
  exact hc

set_option maxHeartbeats 400000 in
/-- Set, from a big.Int without a word into a new one. -/
theorem intSet_nil {w : World} {zb b : Nat} {neg : Bool} (hz : w.heap[zb]? = some (.cells #[.bool false, .slice none 0 0] 44 (0, 0))) (hx : w.heap[b]? = some (.cells #[.bool neg, .slice none 0 0] 44 (0, 0))) (hne : zb ≠ b) {B : Nat} (hB : B ≤ zb) :
    Calls Try.prog 18 #[.pointer (some ⟨zb, 0, none⟩), .pointer (some ⟨b, 0, none⟩)] w fun e w' => e = .returned (.pointer (some ⟨zb, 0, none⟩)) ∧ BigIs w' zb neg none ∧ Below B w w' := by
  have hq := neq_ptr w zb b _ _ _ _ hne hz hx
  have z0 : w.cell? ⟨zb, 0, none⟩ = some (.bool false) := cell_of_heap hz rfl
  have z1 : w.cell? ⟨zb, 1, none⟩ = some (.slice none 0 0) := cell_of_heap hz rfl
  have x0 : w.cell? ⟨b, 0, none⟩ = some (.bool neg) := cell_of_heap hx rfl
  have x1 : w.cell? ⟨b, 1, none⟩ = some (.slice none 0 0) := cell_of_heap hx rfl
  have f0 : w.frozen? ⟨zb, 0, none⟩ = false := by unfold World.frozen?; simp only [hz]; rfl
  have f1 : w.frozen? ⟨zb, 1, none⟩ = false := by unfold World.frozen?; simp only [hz]; rfl
  go_enter Try.func18, Try.ntmps18
  go_wp2_with fail
  go_region_with (go_at_call 27; refine (set_nil _).mono ?_; rintro e w' ⟨rfl, rfl⟩)
  all_goals
    go_wp2
    go_ret
    exact ⟨rfl, .inl ⟨rfl, set_heap hz neg⟩, ((Below.refl _ _).setCell hB _).setCell hB _ |>.drew⟩

set_option maxHeartbeats 1000000 in
/-- Set, from a big.Int of one word into a new one. -/
theorem intSet_one {w : World} {zb b ab : Nat} {neg : Bool} {v : Int} (hz : w.heap[zb]? = some (.cells #[.bool false, .slice none 0 0] 44 (0, 0))) (hx : w.heap[b]? = some (.cells #[.bool neg, .slice (some ⟨ab, 0, none⟩) 1 1] 44 (0, 0))) (ha : w.cell? ⟨ab, 0, none⟩ = some (.int .u64 v)) (hne : zb ≠ b) {B : Nat} (hB : B ≤ zb) :
    Calls Try.prog 18 #[.pointer (some ⟨zb, 0, none⟩), .pointer (some ⟨b, 0, none⟩)] w fun e w' => e = .returned (.pointer (some ⟨zb, 0, none⟩)) ∧ BigIs w' zb neg (some v) ∧ Below B w w' := by
  have hq := neq_ptr w zb b _ _ _ _ hne hz hx
  have lz := lt_of_heap hz
  have lx := lt_of_heap hx
  have z0 : w.cell? ⟨zb, 0, none⟩ = some (.bool false) := cell_of_heap hz rfl
  have z1 : w.cell? ⟨zb, 1, none⟩ = some (.slice none 0 0) := cell_of_heap hz rfl
  have x0 : w.cell? ⟨b, 0, none⟩ = some (.bool neg) := cell_of_heap hx rfl
  have x1 : w.cell? ⟨b, 1, none⟩ = some (.slice (some ⟨ab, 0, none⟩) 1 1) := cell_of_heap hx rfl
  have f0 : w.frozen? ⟨zb, 0, none⟩ = false := by unfold World.frozen?; simp only [hz]; rfl
  have f1 : w.frozen? ⟨zb, 1, none⟩ = false := by unfold World.frozen?; simp only [hz]; rfl
  have HZ : Hid (w.heap[zb]? = some (.cells #[.bool false, .slice none 0 0] 44 (0, 0))) := hz
  clear hz hx
  go_enter Try.func18, Try.ntmps18
  go_wp2_with fail
  go_region_with (go_at_call 27; refine (set_one _ ab v ?_).mono ?_; exact ha; rintro e w1 ⟨rfl, hc, hb⟩; have z0' := (hb.cell (p := ⟨zb, 0, none⟩) lz).trans z0; have z1' := (hb.cell (p := ⟨zb, 1, none⟩) lz).trans z1; have x0' := (hb.cell (p := ⟨b, 0, none⟩) lx).trans x0; have f0' := (hb.frozen (p := ⟨zb, 0, none⟩) lz).trans f0; have f1' := (hb.frozen (p := ⟨zb, 1, none⟩) lz).trans f1)
  all_goals
    go_wp2
    go_ret
    exact ⟨rfl, set_fin HZ.out lz hB ((Below.refl w.heap.size w).drew.trans hb) hc⟩

/-- Coefficient's last step: Set into a new big.Int, from whatever of one word or none. -/
theorem intSet_any {w : World} {zb b : Nat} {neg : Bool} {u : Option Int} (hz : w.heap[zb]? = some (.cells #[.bool false, .slice none 0 0] 44 (0, 0))) (hx : BigIs w b neg u) (hne : zb ≠ b) {B : Nat} (hB : B ≤ zb) :
    Calls Try.prog 18 #[.pointer (some ⟨zb, 0, none⟩), .pointer (some ⟨b, 0, none⟩)] w fun e w' => e = .returned (.pointer (some ⟨zb, 0, none⟩)) ∧ BigIs w' zb neg u ∧ Below B w w' := by
  rcases hx with ⟨rfl, h1⟩ | ⟨v, ab, rfl, h1, h2⟩
  · exact intSet_nil hz h1 hne hB
  · exact intSet_one hz h1 h2 hne hB

end Go.Proofs.Qxb6612285a
