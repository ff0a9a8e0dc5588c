/-
  THE WALK OF FnReleaseOnce (6).
-/
import Derived.Test.Qxb6612420aClone
namespace Go.Proofs.Qxb6612420a
open Go.RowKit

theorem bytes22 (h k : Int) (a : Option Addr) (len cap : Nat) (w : World) (hm : len ≤ maxLen) :
    Calls Try.prog 22 #[.int .i64 h, .int .i64 k, .slice a len cap] w fun e w' => e = .returned (.bool (decide (len ≤ 1048576))) ∧ w' = w := by
  unfold maxLen at hm
  by_cases h : len ≤ 1048576
  · go_enter Try.func22, Try.ntmps22
    go_wp2
    go_ret
    exact ⟨ret_bool (decide_eq_true h).symm, rfl⟩
  · go_enter Try.func22, Try.ntmps22
    go_wp2
    go_ret
    exact ⟨ret_bool (decide_eq_false h).symm, rfl⟩

/-- Out of the bounds: true at once. -/
theorem once_out (h k : Int) (a : Option Addr) (len cap : Nat) (w : World) (hm : len ≤ maxLen)
    (hh : 1048576 < len ∨ (len ≤ 1048576 ∧ (k < 0 ∨ (0 ≤ k ∧ (16777215 < k ∨ (k ≤ 16777215 ∧ (h < k ∨ (k ≤ h ∧ k < len)))))))) :
    Calls Try.prog 6 #[.int .i64 h, .int .i64 k, .slice a len cap] w fun e w' => e = .returned (.bool true) ∧ Below w.heap.size w w' := by
  have C := bytes22 h k a len cap w hm
  unfold maxLen at hm
  rcases hh with h1 | ⟨h1, h2 | ⟨h2, h3 | ⟨h3, h4 | ⟨h4, h5⟩⟩⟩⟩
  · rw [decide_eq_false (by omega : ¬ len ≤ 1048576)] at C
    go_enter Try.func6, Try.ntmps6
    go_wp2_with fail
    refine C.mono ?_
    rintro e w' ⟨rfl, hw⟩
    subst hw
    clear C
    go_wp2
    go_ret
    exact ⟨rfl, Below.refl _ _⟩
  all_goals
    rw [decide_eq_true h1] at C
    go_enter Try.func6, Try.ntmps6
    go_wp2_with fail
    refine C.mono ?_
    rintro e w' ⟨rfl, hw⟩
    subst hw
    clear C
    go_wp2
    go_ret
    exact ⟨rfl, Below.refl _ _⟩

/-- ZZsetHeld, by what it leaves. -/
theorem zzSetHeld {w : World} {rb : Nat} {h : Int} (r : Rd w rb h) (n : Int) : Calls Try.prog 17 #[.pointer (some ⟨rb, 0, none⟩), .int .i64 n] w fun e w' => e = .returned (.tuple #[]) ∧ Rd w' rb n ∧ Below rb w w' ∧ w'.heap.size = w.heap.size := by
  refine (setHeld r n).mono ?_
  rintro e w' ⟨he, rfl⟩
  exact ⟨he, r.set n, (Below.refl rb w).setCell (p := ⟨rb, 13, none⟩) (Nat.le_refl _) _, size_setCell _ _ _⟩

set_option maxHeartbeats 1000000 in
theorem once_main (h k : Int) (hh : h ≤ 9223372036854775807) (a : Option Addr) (len cap : Nat) (zs : List Int) (w : World) (h1 : len ≤ 1048576) (h2 : 0 ≤ k) (h3 : k ≤ 16777215) (h4 : k ≤ h) (h5 : (len : Int) ≤ k)
    (hr : Row .u8 w a len zs) (hn : a = none → len = 0 ∧ cap = 0) :
    Calls Try.prog 6 #[.int .i64 h, .int .i64 k, .slice a len cap] w fun e w' => e = .returned (.bool true) ∧ Below w.heap.size w w' := by
  have C := bytes22 h k a len cap w (by unfold maxLen; omega)
  rw [decide_eq_true h1] at C
  have C2 := copyBytes hr h1 hn
  clear hr hn
  have hq := fun (w : World) => run_neq_slice_nil_any (P := Try.prog) w 22 5 none 0 0 0 0 Try.underlying22
  have hq' := fun (w : World) => Lib.run_eql_slice_nil (P := Try.prog) w 22 5 none 0 0 0 0 Try.underlying22
  go_enter Try.func6, Try.ntmps6
  go_wp2_with fail
  refine C.mono ?_
  rintro e w' ⟨rfl, hw⟩
  subst hw
  clear C
  go_wp2_with fail
  refine C2.mono ?_
  rintro e w1 ⟨a2, c2, rfl, hb1⟩
  clear C2
  go_wp2_with fail
  refine (newReader w1).mono ?_
  rintro e w2 ⟨rfl, R2, hb2, hs2⟩
  go_wp2_with fail
  refine (zzSetHeld R2 h).mono ?_
  rintro e w3 ⟨rfl, R3, hb3, hs3⟩
  have hlt : w1.heap.size < w3.heap.size := by omega
  clear hs2 hs3
  go_wp2_with fail
  refine (newCs w3 a2 len c2 k).mono ?_
  rintro e w4 ⟨rfl, C4, hb4, hs4⟩
  clear hs4
  have R4 := R3.of_block (hb4.block _ hlt)
  go_wp2_with fail
  refine (zzRelease R4 C4 h2 h4 hh).mono ?_
  rintro e w5 ⟨rfl, L5⟩
  go_wp2_with fail
  refine (held_any L5.rd).mono ?_
  rintro e w6 ⟨rfl, hw⟩
  subst hw
  go_wp2_with fail
  refine (room_any L5.cs).mono ?_
  rintro e w6 ⟨rfl, hw⟩
  subst hw
  go_wp2_with fail
  refine (payload_any L5.cs).mono ?_
  rintro e w6 ⟨rfl, hw⟩
  subst hw
  go_wp2_with fail
  refine (zzRelease L5.rd L5.cs (by omega) (by omega) (by omega)).mono ?_
  rintro e w7 ⟨rfl, L7⟩
  have R7 := L7.rd
  rw [Int.sub_zero] at R7
  go_wp2_with fail
  refine (held_any R7).mono ?_
  rintro e w8 ⟨rfl, hw⟩
  subst hw
  go_wp2_with fail
  refine (room_any L7.cs).mono ?_
  rintro e w8 ⟨rfl, hw⟩
  subst hw
  go_wp2_with fail
  refine (payload_any L7.cs).mono ?_
  rintro e w8 ⟨rfl, hw⟩
  subst hw
  have s1 := hb1.size
  have hball := hb1.trans (((hb2.trans hb3).trans ((hb4.mono (by omega)).trans ((L5.below (by omega) (by omega)).trans (L7.below (by omega) (by omega))))).mono s1)
  clear hq s1 hb1 hb2 hb3 hb4 L5 L7 R2 R3 R4 C4 R7
  go_wp2
  go_ret
  exact ⟨rfl, hball⟩

end Go.Proofs.Qxb6612420a
