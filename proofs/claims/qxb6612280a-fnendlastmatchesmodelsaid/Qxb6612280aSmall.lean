/-
  THE SMALL FUNCTIONS: inU64 (8), inInt (26), allInInt (19), the bounds on total length (7, 14, 15, 21).
-/
import Derived.Test.Qxb6612280aMaps
import Derived.WalkSpells
namespace Go.Proofs.Qxb6612280a
open Go.RowKit Go.Maps

/-- Is x among zs? -/
def inB (zs : List Int) (x : Int) : Bool := zs.any (fun z => z == x)

theorem inB_take_succ (zs : List Int) (x : Int) (k : Nat) (h : k < zs.length) : inB (zs.take (k + 1)) x = (inB (zs.take k) x || (zs.getD k 0 == x)) := by
  unfold inB
  rw [List.take_succ_eq_append_getElem h, List.any_append]
  congr 1
  simp [List.getD_eq_getElem?_getD, h]

theorem inB_hit (zs : List Int) (x : Int) (k : Nat) (h : k < zs.length) (hz : (zs.getD k 0 == x) = true) : inB zs x = true := by
  unfold inB
  rw [List.any_eq_true]
  exact ⟨zs.getD k 0, by simp [List.getD_eq_getElem?_getD, h], hz⟩

/-- What the walk is told of a slice of integers: its 'len' elements 'zs' lie where it leads. -/
def Row (k : IntKind) (w : World) (a : Option Addr) (len : Nat) (zs : List Int) : Prop :=
  len = zs.length ∧ (0 < len → ∃ b off, a = some ⟨b, off, none⟩ ∧ ∀ i, i < len → w.cell? ⟨b, off + i, none⟩ = some (.int k (zs.getD i 0)))

theorem Row.len {k : IntKind} {w : World} {a : Option Addr} {len : Nat} {zs : List Int} (h : Row k w a len zs) : len = zs.length := h.1

theorem ret_bool {a b : Bool} (h : a = b) : Ending.returned (.bool a) = .returned (.bool b) := by rw [h]

set_option maxHeartbeats 400000 in
theorem inU64_any (a : Option Addr) (len cap : Nat) (zs : List Int) (x : Int) (w : World) (hr : Row .u64 w a len zs) (hl : len ≤ 1048576) :
    Calls Try.prog 8 #[.slice a len cap, .int .u64 x] w fun e w' => e = .returned (.bool (inB zs x)) ∧ w' = w := by
  obtain ⟨hlen, hr⟩ := hr
  have HL : Hid (len = zs.length) := hlen
  clear hlen
  by_cases h0 : len = 0
  · subst h0
    have hz : zs = [] := List.length_eq_zero_iff.1 HL.out.symm
    subst hz
    clear hr HL
    go_enter Try.func8, Try.ntmps8
    go_wp2
    refine wp_loop_rounds 1 ?_
    rw [rounds_succ]
    go_wp2
    go_ret
    exact ⟨rfl, rfl⟩
  · obtain ⟨b, off, rfl, hc⟩ := hr (by omega)
    clear hr
    go_enter Try.func8, Try.ntmps8
    go_wp2
    go_loop [5] (fun i => ∃ k : Nat, k ≤ len ∧ i = .int .i64 k ∧ inB (zs.take k) x = false) (fun i => len - (intOf i).toNat)
    case atStart => exact ⟨0, Nat.zero_le _, rfl, rfl⟩
    case round =>
      obtain ⟨k, hk, rfl, hno⟩ := hrel
      have HN : Hid (inB (zs.take k) x = false) := hno
      clear hno
      by_cases hlt : k < len
      · have hcell := hc k hlt
        clear hc
        obtain ⟨z, hz⟩ : ∃ z, z = zs.getD k 0 := ⟨_, rfl⟩
        rw [← hz] at hcell
        have HZ : Hid (z = zs.getD k 0) := hz
        clear hz
        go_wp2
        · have hzx : (z == x) = true := by assumption
          go_ret
          refine ⟨ret_bool ?_, rfl⟩
          rw [inB_hit zs x k (by rw [← HL.out]; exact hlt) (by rw [← HZ.out]; exact hzx)]
        · have hzx : (z == x) = false := by assumption
          go_round
          case rel => exact ⟨k + 1, by omega, by go_num, by rw [inB_take_succ zs x k (by rw [← HL.out]; exact hlt), HN.out, ← HZ.out, hzx]; rfl⟩
          case measure => simp [intOf]; omega
      · go_wp2
        go_ret
        have e : zs.take k = zs := List.take_of_length_le (by rw [← HL.out]; omega)
        refine ⟨ret_bool ?_, rfl⟩
        rw [← e, HN.out]

set_option maxHeartbeats 400000 in
theorem inInt_any (a : Option Addr) (len cap : Nat) (zs : List Int) (x : Int) (w : World) (hr : Row .i64 w a len zs) (hl : len ≤ 1048576) :
    Calls Try.prog 26 #[.slice a len cap, .int .i64 x] w fun e w' => e = .returned (.bool (inB zs x)) ∧ w' = w := by
  obtain ⟨hlen, hr⟩ := hr
  have HL : Hid (len = zs.length) := hlen
  clear hlen
  by_cases h0 : len = 0
  · subst h0
    have hz : zs = [] := List.length_eq_zero_iff.1 HL.out.symm
    subst hz
    clear hr HL
    go_enter Try.func26, Try.ntmps26
    go_wp2
    refine wp_loop_rounds 1 ?_
    rw [rounds_succ]
    go_wp2
    go_ret
    exact ⟨rfl, rfl⟩
  · obtain ⟨b, off, rfl, hc⟩ := hr (by omega)
    clear hr
    go_enter Try.func26, Try.ntmps26
    go_wp2
    go_loop [5] (fun i => ∃ k : Nat, k ≤ len ∧ i = .int .i64 k ∧ inB (zs.take k) x = false) (fun i => len - (intOf i).toNat)
    case atStart => exact ⟨0, Nat.zero_le _, rfl, rfl⟩
    case round =>
      obtain ⟨k, hk, rfl, hno⟩ := hrel
      have HN : Hid (inB (zs.take k) x = false) := hno
      clear hno
      by_cases hlt : k < len
      · have hcell := hc k hlt
        clear hc
        obtain ⟨z, hz⟩ : ∃ z, z = zs.getD k 0 := ⟨_, rfl⟩
        rw [← hz] at hcell
        have HZ : Hid (z = zs.getD k 0) := hz
        clear hz
        go_wp2
        · have hzx : (z == x) = true := by assumption
          go_ret
          refine ⟨ret_bool ?_, rfl⟩
          rw [inB_hit zs x k (by rw [← HL.out]; exact hlt) (by rw [← HZ.out]; exact hzx)]
        · have hzx : (z == x) = false := by assumption
          go_round
          case rel => exact ⟨k + 1, by omega, by go_num, by rw [inB_take_succ zs x k (by rw [← HL.out]; exact hlt), HN.out, ← HZ.out, hzx]; rfl⟩
          case measure => simp [intOf]; omega
      · go_wp2
        go_ret
        have e : zs.take k = zs := List.take_of_length_le (by rw [← HL.out]; omega)
        refine ⟨ret_bool ?_, rfl⟩
        rw [← e, HN.out]

/-- The bound on total length: one slice. -/
theorem bytes14 (a0 : Int) (a1 : Bool) (a2 : Int) (a : Option Addr) (len cap : Nat) (w : World) (hm : len ≤ maxLen) :
    Calls Try.prog 14 #[.int .i64 a0, .bool a1, .int .u64 a2, .slice a len cap] w fun e w' => e = .returned (.bool (decide (len ≤ 1048576))) ∧ w' = w := by
  unfold maxLen at hm
  by_cases h : len ≤ 1048576
  · go_enter Try.func14, Try.ntmps14
    go_wp2
    go_ret
    exact ⟨ret_bool (decide_eq_true h).symm, rfl⟩
  · go_enter Try.func14, Try.ntmps14
    go_wp2
    go_ret
    exact ⟨ret_bool (decide_eq_false h).symm, rfl⟩

end Go.Proofs.Qxb6612280a
