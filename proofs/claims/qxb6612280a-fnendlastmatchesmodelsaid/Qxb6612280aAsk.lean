/-
  ended (24), ZZended (13), last (23), ZZlast (12), ZZhasRuns (11).
-/
import Derived.Test.Qxb6612280aZZ
namespace Go.Proofs.Qxb6612280a
open Go.RowKit Go.Maps

theorem ended_known {w : World} {B sb mb cb n rb eb m : Nat} {f : Int → Option Value} {E : Int → Bool} (M : Mem w B sb mb cb n f) {p last x : Int} (hp : (Lit.int .i64 p).wf = true) (hx : (Lit.int .u64 x).wf = true) (hf : f p = some (.pointer (some ⟨rb, 0, none⟩)))
    (R : Run w B rb eb m last E) : Calls Try.prog 24 #[.pointer (some ⟨sb, 0, none⟩), .int .i64 p, .int .u64 x] w fun e w' => e = .returned (.bool (E x)) ∧ w' = w := by
  have hl := M.map.look Try.underlying3 Try.underlying39 (zero49 w) hp true
  rw [hf] at hl
  simp only [if_true, Option.getD_some, Option.isSome_some] at hl
  have hl2 := R.map.look Try.underlying22 Try.underlying50 (zero4 w) hx false
  have hq : (if E x = true then some (Value.bool true) else none).getD (.bool false) = .bool (E x) := by cases E x <;> rfl
  rw [hq] at hl2
  simp only [Bool.false_eq_true, if_false] at hl2
  have hc5 := M.c5
  have hc1 := R.c1
  clear hf M R hq
  obtain ⟨y, hy⟩ : ∃ y, y = E x := ⟨_, rfl⟩
  rw [← hy] at hl2
  have HY : Hid (y = E x) := hy
  clear hy
  go_enter Try.func24, Try.ntmps24
  go_wp2
  go_ret
  exact ⟨ret_bool HY.out, rfl⟩

theorem zzEnded {w : World} {B sb mb cb n rb eb m : Nat} {f : Int → Option Value} {E : Int → Bool} (M : Mem w B sb mb cb n f) {p last x : Int} (hp : (Lit.int .i64 p).wf = true) (hx : (Lit.int .u64 x).wf = true) (hf : f p = some (.pointer (some ⟨rb, 0, none⟩)))
    (R : Run w B rb eb m last E) : Calls Try.prog 13 #[.pointer (some ⟨sb, 0, none⟩), .int .i64 p, .int .u64 x] w fun e w' => e = .returned (.bool (E x)) ∧ w' = w := by
  have C := ended_known M hp hx hf R
  clear hf M R
  go_enter Try.func13, Try.ntmps13
  go_wp2_with fail
  refine C.mono ?_
  rintro e w' ⟨rfl, rfl⟩
  go_wp2
  go_ret
  exact ⟨rfl, rfl⟩

theorem zzHasRuns {w : World} {B sb mb cb n : Nat} {f : Int → Option Value} (M : Mem w B sb mb cb n f) {p : Int} (hp : (Lit.int .i64 p).wf = true) :
    Calls Try.prog 11 #[.pointer (some ⟨sb, 0, none⟩), .int .i64 p] w fun e w' => e = .returned (.bool (f p).isSome) ∧ Below w.heap.size w w' := by
  have hl := M.map.look Try.underlying3 Try.underlying39 (zero49 w) hp true
  simp only [if_true] at hl
  have hc5 := M.c5
  clear M
  obtain ⟨v, hv⟩ : ∃ v, v = (f p).getD (.pointer none) := ⟨_, rfl⟩
  obtain ⟨y, hy⟩ : ∃ y, y = (f p).isSome := ⟨_, rfl⟩
  rw [← hv, ← hy] at hl
  have HY : Hid (y = (f p).isSome) := hy
  clear hv hy
  go_enter Try.func11, Try.ntmps11
  go_wp2
  go_ret
  exact ⟨ret_bool HY.out, Below.refl _ _⟩

theorem zzLast {w : World} {B sb mb cb n rb eb m : Nat} {f : Int → Option Value} {E : Int → Bool} (M : Mem w B sb mb cb n f) {p last : Int} (hp : (Lit.int .i64 p).wf = true) (hf : f p = some (.pointer (some ⟨rb, 0, none⟩)))
    (R : Run w B rb eb m last E) : Calls Try.prog 12 #[.pointer (some ⟨sb, 0, none⟩), .int .i64 p] w fun e w' => e = .returned (.int .u64 last) ∧ w' = w := by
  have hl := M.map.look Try.underlying3 Try.underlying39 (zero49 w) hp true
  rw [hf] at hl
  simp only [if_true, Option.getD_some, Option.isSome_some] at hl
  have hc5 := M.c5
  have hc0 := R.c0
  clear hf M R
  go_enter Try.func12, Try.ntmps12
  go_wp2
  go_ret
  exact ⟨rfl, rfl⟩

end Go.Proofs.Qxb6612280a
