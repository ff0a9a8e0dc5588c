/-
  ZZdecimalParts (6).
-/
import Derived.Test.Qxb6612285aDec
namespace Go.Proofs.Qxb6612285a
open Go.RowKit

/-- The decimal's pointer p leads to a big.Int that is x, or is nil and x is 0. -/
def DecIs (w : World) (p : Option Addr) (x : Int) : Prop := (p = none ∧ x = 0) ∨ ∃ b neg u, p = some ⟨b, 0, none⟩ ∧ Rep x neg u ∧ BigIs w b neg u

theorem DecIs.kept {w w' : World} {p : Option Addr} {x : Int} (h : DecIs w p x) (hb : Below w.heap.size w w') : DecIs w' p x := by
  rcases h with h | ⟨b, neg, u, e, hr, hbi⟩
  · exact .inl h
  · exact .inr ⟨b, neg, u, e, hr, hbi.kept hb⟩

theorem coef_any {w : World} {p : Option Addr} {x : Int} (h : DecIs w p x) (z : Int) :
    Calls Try.prog 11 #[.agg #[.pointer p, .int .i32 z]] w fun e w' => ∃ zb neg u, e = .returned (.pointer (some ⟨zb, 0, none⟩)) ∧ Rep x neg u ∧ BigIs w' zb neg u ∧ Below w.heap.size w w' := by
  rcases h with ⟨rfl, rfl⟩ | ⟨b, neg, u, rfl, hr, hbi⟩
  · refine (coef_none w z).mono ?_
    rintro e w' ⟨zb, he, h1, h2⟩
    exact ⟨zb, false, none, he, .inl ⟨rfl, rfl, rfl⟩, h1, h2⟩
  · refine (coef_some hbi z).mono ?_
    rintro e w' ⟨zb, he, h1, h2⟩
    exact ⟨zb, neg, u, he, hr, h1, h2⟩

set_option maxHeartbeats 1000000 in
theorem parts_core {w : World} (c y : Int) (s : Bool) (g : Option Addr) (x z : Int)
    (C : Calls Try.prog 10 #[.agg #[.int .i64 c, .int .i32 y, .bool s, .pointer g]] (w.alloc (.cells #[.int .i64 c, .int .i32 y, .bool s, .pointer g] 26)) fun e w' =>
      ∃ p, e = .returned (.agg #[.pointer p, .int .i32 z]) ∧ DecIs w' p x ∧ Below (w.alloc (.cells #[.int .i64 c, .int .i32 y, .bool s, .pointer g] 26)).heap.size (w.alloc (.cells #[.int .i64 c, .int .i32 y, .bool s, .pointer g] 26)) w') :
    Calls Try.prog 6 #[.agg #[.int .i64 c, .int .i32 y, .bool s, .pointer g]] w fun e w' => e = .returned (.tuple #[.int .i64 x, .bool true, .int .i32 z]) ∧ Below w.heap.size w w' := by
  go_enter Try.func6, Try.ntmps6
  go_wp2_with fail
  refine C.mono ?_
  rintro e w1 ⟨p, rfl, hd, hb1⟩
  have hb1' : Below w.heap.size w w1 := (below_box w _).trans (hb1.mono (by simp))
  clear C hb1
  go_wp2_with fail
  refine (coef_any (hd.kept (below_box w1 (.cells #[.pointer p, .int .i32 z] 33))) z).mono ?_
  rintro e w2 ⟨zb, neg, u, rfl, hr, hbi, hb2⟩
  have q0 : w2.cell? ⟨w1.heap.size, 0, none⟩ = some (.pointer p) := cell_of_heap (box_kept hb2) rfl
  have q1 : w2.cell? ⟨w1.heap.size, 1, none⟩ = some (.int .i32 z) := cell_of_heap (box_kept hb2) rfl
  have hb2' : Below w.heap.size w w2 := hb1'.trans ((below_box w1 _ |>.trans (hb2.mono (by simp))).mono hb1'.size)
  clear hd hb2 hb1'
  go_wp2_with fail
  go_region_with (first | (go_at_call 12; refine (int64_any (b := zb) (neg := neg) (u := u) (x := x) ?_ hr).mono ?_; exact hbi; rintro e w' ⟨rfl, rfl⟩) | (go_at_call 13; refine (isInt64_any (b := zb) (neg := neg) (u := u) (x := x) ?_ hr).mono ?_; exact hbi; rintro e w' ⟨rfl, rfl⟩) | (go_at_call 14; refine (exponent_any _ (.pointer p) z).mono ?_; rintro e w' ⟨rfl, rfl⟩))
  all_goals
    go_wp2
    go_ret3
    refine ⟨rfl, ?_⟩
    exact hb2'.trans ((Below.refl _ _).drew.alloc hb2'.size _)

end Go.Proofs.Qxb6612285a
