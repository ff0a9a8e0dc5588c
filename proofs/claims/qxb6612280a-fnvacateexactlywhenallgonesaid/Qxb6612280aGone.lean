/-
  allInInt (19); the closure of vacate (30), slices.IndexFunc (31) and slices.ContainsFunc (29) at it.
-/
import Derived.Test.Qxb6612280aZZ
namespace Go.Proofs.Qxb6612280a
open Go.RowKit Go.Maps

/-- Are all of ms among gs? -/
def allB (ms gs : List Int) : Bool := ms.all (fun m => inB gs m)

theorem allB_take_succ (ms gs : List Int) (k : Nat) (h : k < ms.length) : allB (ms.take (k + 1)) gs = (allB (ms.take k) gs && inB gs (ms.getD k 0)) := by
  unfold allB
  rw [List.take_succ_eq_append_getElem h, List.all_append]
  congr 1
  simp [List.getD_eq_getElem?_getD, h]

theorem allB_miss (ms gs : List Int) (k : Nat) (h : k < ms.length) (hz : inB gs (ms.getD k 0) = false) : allB ms gs = false := by
  unfold allB
  rw [List.all_eq_false]
  exact ⟨ms.getD k 0, by simp [List.getD_eq_getElem?_getD, h], by rw [hz]; decide⟩

set_option maxHeartbeats 400000 in
theorem allIn_any (a : Option Addr) (len cap : Nat) (ms : List Int) (a' : Option Addr) (len' cap' : Nat) (gs : List Int) (w : World) (hr : Row .i64 w a len ms) (hl : len ≤ 1048576) (hr' : Row .i64 w a' len' gs) (hl' : len' ≤ 1048576) :
    Calls Try.prog 19 #[.slice a len cap, .slice a' len' cap'] w fun e w' => e = .returned (.bool (allB ms gs)) ∧ w' = w := by
  obtain ⟨hlen, hr⟩ := hr
  have HL : Hid (len = ms.length) := hlen
  clear hlen
  have HR : Hid (Row .i64 w a' len' gs) := hr'
  clear hr'
  by_cases h0 : len = 0
  · subst h0
    have hz : ms = [] := List.length_eq_zero_iff.1 HL.out.symm
    subst hz
    clear hr HL
    go_enter Try.func19, Try.ntmps19
    go_wp2
    refine wp_loop_rounds 1 ?_
    rw [rounds_succ]
    go_wp2
    go_ret
    exact ⟨rfl, rfl⟩
  · obtain ⟨b, off, rfl, hc⟩ := hr (by omega)
    clear hr
    go_enter Try.func19, Try.ntmps19
    go_wp2
    go_loop [5] (fun i => ∃ k : Nat, k ≤ len ∧ i = .int .i64 k ∧ allB (ms.take k) gs = true) (fun i => len - (intOf i).toNat)
    case atStart => exact ⟨0, Nat.zero_le _, rfl, rfl⟩
    case round =>
      obtain ⟨k, hk, rfl, hno⟩ := hrel
      have HN : Hid (allB (ms.take k) gs = true) := hno
      clear hno
      by_cases hlt : k < len
      · have hcell := hc k hlt
        clear hc
        obtain ⟨z, hz⟩ : ∃ z, z = ms.getD k 0 := ⟨_, rfl⟩
        rw [← hz] at hcell
        have HZ : Hid (z = ms.getD k 0) := hz
        clear hz
        have C := inInt_any a' len' cap' gs z w HR.out hl'
        cases hb : inB gs z with
        | true =>
          rw [hb] at C
          have HB : Hid (inB gs z = true) := hb
          clear hb
          go_wp2_with fail
          refine C.mono ?_
          rintro e w' ⟨rfl, hw⟩
          subst hw
          clear C
          go_wp2
          go_round
          case rel => exact ⟨k + 1, by omega, by go_num, by rw [allB_take_succ ms gs k (by rw [← HL.out]; exact hlt), HN.out, ← HZ.out, HB.out]; rfl⟩
          case measure => simp [intOf]; omega
        | false =>
          rw [hb] at C
          have HB : Hid (inB gs z = false) := hb
          clear hb
          go_wp2_with fail
          refine C.mono ?_
          rintro e w' ⟨rfl, hw⟩
          subst hw
          clear C
          go_wp2
          go_ret
          refine ⟨ret_bool ?_, rfl⟩
          rw [allB_miss ms gs k (by rw [← HL.out]; exact hlt) (by rw [← HZ.out]; exact HB.out)]
      · go_wp2
        go_ret
        have e : ms.take k = ms := List.take_of_length_le (by rw [← HL.out]; omega)
        refine ⟨ret_bool ?_, rfl⟩
        rw [← e, HN.out]

/-- The set of the gone, at block gb, in the field of the membership at sb, seen from the variable at pb that the closure captured. -/
structure Gone (w : World) (pb sb gb n : Nat) (gs : List Int) : Prop where
  cp : w.cell? ⟨pb, 0, none⟩ = some (.pointer (some ⟨sb, 0, none⟩))
  c4 : w.cell? ⟨sb, 4, none⟩ = some (.map (some gb))
  map : MapF w Try.prog 3 .i64 gb n (fun x => if inB gs x = true then some (.bool true) else none)

theorem gone_clos {w : World} {pb sb gb n : Nat} {gs : List Int} (G : Gone w pb sb gb n gs) {x : Int} {v : Bool} (hx : (Lit.int .i64 x).wf = true) (hv : inB gs x = v) :
    Calls Try.prog 30 #[.int .i64 x, .pointer (some ⟨pb, 0, none⟩)] w fun e w' => e = .returned (.bool (!v)) ∧ w' = w := by
  have hl := G.map.look Try.underlying3 Try.underlying42 (zero4 w) hx false
  have hq : (if inB gs x = true then some (Value.bool true) else none).getD (.bool false) = .bool v := by rw [hv]; cases v <;> rfl
  rw [hq] at hl
  simp only [Bool.false_eq_true, if_false] at hl
  have hcp := G.cp
  have hc4 := G.c4
  clear G hq hv
  go_enter Try.func30, Try.ntmps30
  go_wp2
  go_ret
  exact ⟨rfl, rfl⟩

set_option maxHeartbeats 400000 in
/-- slices.IndexFunc at the closure: the first member that is not gone, or -1. -/
theorem index_any {w : World} {pb sb gb n : Nat} {gs : List Int} (G : Gone w pb sb gb n gs) (a : Option Addr) (len cap : Nat) (ms : List Int) (hr : Row .i64 w a len ms) (hl : len ≤ 1048576) (hwm : ∀ m ∈ ms, (Lit.int .i64 m).wf = true) :
    Calls Try.prog 31 #[.slice a len cap, .func (.func 30) #[] #[.pointer (some ⟨pb, 0, none⟩)]] w fun e w' => ∃ r : Int, e = .returned (.int .i64 r) ∧ decide (0 ≤ r) = !(allB ms gs) ∧ w' = w := by
  obtain ⟨hlen, hr⟩ := hr
  have HL : Hid (len = ms.length) := hlen
  clear hlen
  by_cases h0 : len = 0
  · subst h0
    have hz : ms = [] := List.length_eq_zero_iff.1 HL.out.symm
    subst hz
    clear hr HL G hwm
    go_enter Try.func31, Try.ntmps31
    go_wp2
    refine wp_loop_rounds 1 ?_
    rw [rounds_succ]
    go_wp2
    go_ret
    exact ⟨-1, rfl, rfl, rfl⟩
  · obtain ⟨b, off, rfl, hc⟩ := hr (by omega)
    clear hr
    go_enter Try.func31, Try.ntmps31
    go_wp2
    go_loop [5, 8] (fun _ i => ∃ k : Nat, k ≤ len ∧ i = .int .i64 k ∧ allB (ms.take k) gs = true) (fun _ i => len - (intOf i).toNat)
    case atStart => exact ⟨0, Nat.zero_le _, rfl, rfl⟩
    case round =>
      obtain ⟨k, hk, rfl, hno⟩ := hrel
      have HN : Hid (allB (ms.take k) gs = true) := hno
      clear hno
      by_cases hlt : k < len
      · have hcell := hc k hlt
        clear hc
        obtain ⟨z, hz⟩ : ∃ z, z = ms.getD k 0 := ⟨_, rfl⟩
        rw [← hz] at hcell
        have HZ : Hid (z = ms.getD k 0) := hz
        clear hz
        have HK : Hid (k < ms.length) := by show k < ms.length; rw [← HL.out]; exact hlt
        have wz : (Lit.int .i64 z).wf = true := hwm z (by rw [HZ.out, List.getD_eq_getElem?_getD, List.getElem?_eq_getElem HK.out]; simp)
        clear hwm
        cases hb : inB gs z with
        | true =>
          have C := gone_clos G wz hb
          have HB : Hid (inB gs z = true) := hb
          clear hb
          go_wp2_with fail
          refine C.mono ?_
          rintro e w' ⟨rfl, hw⟩
          subst hw
          clear C
          go_wp2
          go_round
          case rel => exact ⟨k + 1, by omega, by go_num, by rw [allB_take_succ ms gs k HK.out, HN.out, ← HZ.out, HB.out]; rfl⟩
          case measure => simp [intOf]; omega
        | false =>
          have C := gone_clos G wz hb
          have HB : Hid (inB gs z = false) := hb
          clear hb
          go_wp2_with fail
          refine C.mono ?_
          rintro e w' ⟨rfl, hw⟩
          subst hw
          clear C
          go_wp2
          go_ret
          refine ⟨k, rfl, ?_, rfl⟩
          rw [allB_miss ms gs k HK.out (by rw [← HZ.out]; exact HB.out)]
          simp
      · go_wp2
        go_ret
        have e : ms.take k = ms := List.take_of_length_le (by rw [← HL.out]; omega)
        refine ⟨-1, rfl, ?_, rfl⟩
        rw [← e, HN.out]
        rfl

/-- slices.ContainsFunc at the closure: is there a member that is not gone? -/
theorem contains_any {w : World} {pb sb gb n : Nat} {gs : List Int} (G : Gone w pb sb gb n gs) (a : Option Addr) (len cap : Nat) (ms : List Int) {v : Bool} (hv : allB ms gs = v) (hr : Row .i64 w a len ms) (hl : len ≤ 1048576) (hwm : ∀ m ∈ ms, (Lit.int .i64 m).wf = true) :
    Calls Try.prog 29 #[.slice a len cap, .func (.func 30) #[] #[.pointer (some ⟨pb, 0, none⟩)]] w fun e w' => e = .returned (.bool (!v)) ∧ w' = w := by
  have C := index_any G a len cap ms hr hl hwm
  rw [hv] at C
  clear G hr hwm hv
  go_enter Try.func29, Try.ntmps29
  go_wp2_with fail
  refine C.mono ?_
  rintro e w' ⟨r, rfl, hd, hw⟩
  subst hw
  have HD : Hid (decide (0 ≤ r) = !v) := hd
  clear hd C
  go_wp2
  go_ret
  refine ⟨ret_bool ?_, rfl⟩
  exact HD.out

end Go.Proofs.Qxb6612280a
