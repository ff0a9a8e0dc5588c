/-
  Int64 (12), IsInt64 (13).
-/
import Derived.Test.Qxb6612285aBig
namespace Go.Proofs.Qxb6612285a
open Go.RowKit

theorem ret_int {k : IntKind} {a b : Int} (h : a = b) : Ending.returned (.int k a) = .returned (.int k b) := by rw [h]
theorem ret_bool {a b : Bool} (h : a = b) : Ending.returned (.bool a) = .returned (.bool b) := by rw [h]

theorem wrap_neg (x : Int) (h : x < 0) (h2 : -9223372036854775808 ≤ x) : wrap64 (-wrap64 (-x)) = x := by
  unfold wrap64
  omega

theorem least_is : (decide (0 ≤ wrap64 9223372036854775808) || wrap64 9223372036854775808 == wrap64 (-wrap64 9223372036854775808)) = true := by
  have e : wrap64 9223372036854775808 = -9223372036854775808 := by unfold wrap64; omega
  rw [e, show (- -9223372036854775808 : Int) = 9223372036854775808 from by omega, e]
  simp

set_option maxHeartbeats 400000 in
theorem int64_any {w : World} {b : Nat} {neg : Bool} {u : Option Int} {x : Int} (h : BigIs w b neg u) (hr : Rep x neg u) :
    Calls Try.prog 12 #[.pointer (some ⟨b, 0, none⟩)] w fun e w' => e = .returned (.int .i64 x) ∧ w' = w := by
  obtain ⟨h0, h1⟩ := h.parts
  clear h
  rcases hr with ⟨rfl, rfl, rfl⟩ | ⟨hx, hx2, rfl, rfl⟩ | ⟨hx, hx2, rfl, rfl⟩
  · obtain ⟨_, h1⟩ | ⟨v, ab, e, _⟩ := h1
    · go_enter Try.func12, Try.ntmps12
      go_wp2
      go_ret
      exact ⟨rfl, rfl⟩
    · cases e
  · obtain ⟨e, _⟩ | ⟨v, ab, e, h1, h2⟩ := h1
    · cases e
    · cases e
      go_enter Try.func12, Try.ntmps12
      go_wp2
      go_ret
      exact ⟨rfl, rfl⟩
  · obtain ⟨e, _⟩ | ⟨v, ab, e, h1, h2⟩ := h1
    · cases e
    · cases e
      have HX : Hid (wrap64 (-wrap64 (-x)) = x) := wrap_neg x hx hx2
      go_enter Try.func12, Try.ntmps12
      go_wp2
      go_ret
      exact ⟨ret_int HX.out, rfl⟩

set_option maxHeartbeats 400000 in
theorem isInt64_any {w : World} {b : Nat} {neg : Bool} {u : Option Int} {x : Int} (h : BigIs w b neg u) (hr : Rep x neg u) :
    Calls Try.prog 13 #[.pointer (some ⟨b, 0, none⟩)] w fun e w' => e = .returned (.bool true) ∧ w' = w := by
  obtain ⟨h0, h1⟩ := h.parts
  clear h
  rcases hr with ⟨rfl, rfl, rfl⟩ | ⟨hx, hx2, rfl, rfl⟩ | ⟨hx, hx2, rfl, rfl⟩
  · obtain ⟨_, h1⟩ | ⟨v, ab, e, _⟩ := h1
    · go_enter Try.func13, Try.ntmps13
      go_wp2
      go_ret
      exact ⟨rfl, rfl⟩
    · cases e
  · obtain ⟨e, _⟩ | ⟨v, ab, e, h1, h2⟩ := h1
    · cases e
    · cases e
      go_enter Try.func13, Try.ntmps13
      go_wp2
      go_ret
      exact ⟨rfl, rfl⟩
  · obtain ⟨e, _⟩ | ⟨v, ab, e, h1, h2⟩ := h1
    · cases e
    · cases e
      rcases (by omega : x = -9223372036854775808 ∨ -9223372036854775807 ≤ x) with rfl | h3
      · go_enter Try.func13, Try.ntmps13
        go_wp2
        all_goals
          go_ret
          first
          | exact ⟨rfl, rfl⟩
          | exact ⟨ret_bool least_is, rfl⟩
      · go_enter Try.func13, Try.ntmps13
        go_wp2
        go_ret
        exact ⟨rfl, rfl⟩

end Go.Proofs.Qxb6612285a
