/-
  THE WALK OF FnEndLastOnlyOnce (4).
-/
import Derived.Test.Qxb6612280aAsk
import Derived.Test.Qxb6612280aClone
namespace Go.Proofs.Qxb6612280a
open Go.RowKit Go.Maps

theorem info22 : (Try.prog.info? 22).map (fun i => (i.zero, i.size, i.bytes)) = some (some (.int .u64 0), 1, 8) := by kernel_rfl
theorem info3 : (Try.prog.info? 3).map (fun i => (i.zero, i.size, i.bytes)) = some (some (.int .i64 0), 1, 8) := by kernel_rfl

/-- Too long: true at once. -/
theorem once_long (a0 : Int) (a1 : Bool) (a2 : Int) (a : Option Addr) (len cap : Nat) (w : World) (hm : len ≤ maxLen) (h : 4096 < len) :
    Calls Try.prog 4 #[.int .i64 a0, .bool a1, .int .u64 a2, .slice a len cap] w fun e w' => e = .returned (.bool true) ∧ Below w.heap.size w w' := by
  have C := bytes14 a0 a1 a2 a len cap w hm
  unfold maxLen at hm
  by_cases h2 : len ≤ 1048576
  · rw [decide_eq_true h2] at C
    go_enter Try.func4, Try.ntmps4
    go_wp2_with fail
    refine C.mono ?_
    rintro e w' ⟨rfl, rfl⟩
    go_wp2
    go_ret
    exact ⟨rfl, Below.refl _ _⟩
  · rw [decide_eq_false h2] at C
    go_enter Try.func4, Try.ntmps4
    go_wp2_with fail
    refine C.mono ?_
    rintro e w' ⟨rfl, rfl⟩
    go_wp2
    go_ret
    exact ⟨rfl, Below.refl _ _⟩

/-- 0 among the ended ones: true at once. -/
theorem once_zero (a0 : Int) (a1 : Bool) (a2 : Int) (a : Option Addr) (len cap : Nat) (zs : List Int) (w : World) (h : len ≤ 4096) (hr : Row .u64 w a len zs) (h0 : inB zs 0 = true) :
    Calls Try.prog 4 #[.int .i64 a0, .bool a1, .int .u64 a2, .slice a len cap] w fun e w' => e = .returned (.bool true) ∧ Below w.heap.size w w' := by
  have C := bytes14 a0 a1 a2 a len cap w (by unfold maxLen; omega)
  rw [decide_eq_true (by omega : len ≤ 1048576)] at C
  have C2 := inU64_any a len cap zs 0 w hr (by omega)
  rw [h0] at C2
  clear h0
  go_enter Try.func4, Try.ntmps4
  go_wp2_with fail
  refine C.mono ?_
  rintro e w' ⟨rfl, hw⟩
  subst hw
  go_wp2_with fail
  refine C2.mono ?_
  rintro e w' ⟨rfl, hw⟩
  subst hw
  go_wp2
  go_ret
  exact ⟨rfl, Below.refl _ _⟩

/-- What stands where the membership is made: the slice handed to it, in the world as it is there. -/
def Ready (t : TypeId) (q : IntKind) (w : World) (a : Option Addr) (len cap : Nat) (zs : List Int) (a2 : Option Addr) (cap2 : Nat) (w2 : World) : Prop :=
  Row q w2 a2 len zs ∧ Below w.heap.size w w2 ∧ (∀ x, a2 = some x → x.block < w2.heap.size) ∧
  ((a = none ∧ len = 0 ∧ cap = 0 ∧ a2 = none ∧ cap2 = 0 ∧ w2 = w) ∨ ∃ ad w1, a = some ad ∧ a2 = some ⟨w.heap.size, 0, none⟩ ∧ cap2 = len ∧
    (Instr.makeSlice t (.int .i64 (len : Int)) (.int .i64 (len : Int))).run Try.prog w = .ok (.slice (some ⟨w.heap.size, 0, none⟩) len len) w1 ∧
    (∀ ty, (Builtin.copy_ #[t, t] ty #[.slice (some ⟨w.heap.size, 0, none⟩) len len, .slice (some ad) len cap]).run Try.prog w1 = .ok (.int .i64 (len : Int)) w2))

theorem ready_mk {t e : TypeId} {q : IntKind} (ht : Try.prog.underlying t = some (.slice e)) (hi : (Try.prog.info? e).map (fun i => (i.zero, i.size, i.bytes)) = some (some (.int q 0), 1, 8)) {w : World} {a : Option Addr} {len cap : Nat} {zs : List Int} (hr : Row q w a len zs) (hl : len ≤ 1048576) (hn : a = none → len = 0 ∧ cap = 0) :
    ∃ a2 cap2 w2, Ready t q w a len cap zs a2 cap2 w2 := by
  cases a with
  | none =>
    obtain ⟨rfl, rfl⟩ := hn rfl
    exact ⟨none, 0, w, hr, Below.refl _ _, fun x hx => (by cases hx), .inl ⟨rfl, rfl, rfl, rfl, rfl, rfl⟩⟩
  | some ad =>
    obtain ⟨w1, w2, r1, r2, r3, r4, r5⟩ := clone_runs Try.prog ht hi (Nat.le_refl _) w ad len cap zs hr hl (fun h0 => by
      obtain ⟨b, off, e, hc⟩ := hr.2 h0
      cases e
      exact block_of_cell (a := ⟨b, off + 0, none⟩) (hc 0 h0))
    exact ⟨_, _, w2, r3, r4, fun x hx => by cases hx; simp; omega, .inr ⟨ad, w1, rfl, rfl, rfl, r1, r2⟩⟩

set_option maxHeartbeats 1000000 in
/-- An absent peer. -/
theorem once_absent (a0 : Int) (a2 : Int) (a : Option Addr) (len cap : Nat) (zs : List Int) (w : World) (h0 : (Lit.int .i64 a0).wf = true) (h : len ≤ 4096) (hr : Row .u64 w a len zs) (hz : inB zs 0 = false) (hn : a = none → len = 0 ∧ cap = 0) :
    Calls Try.prog 4 #[.int .i64 a0, .bool false, .int .u64 a2, .slice a len cap] w fun e w' => e = .returned (.bool true) ∧ Below w.heap.size w w' := by
  have C := bytes14 a0 false a2 a len cap w (by unfold maxLen; omega)
  rw [decide_eq_true (by omega : len ≤ 1048576)] at C
  have C2 := inU64_any a len cap zs 0 w hr (by omega)
  rw [hz] at C2
  clear hz
  obtain ⟨ar, capr, wr, hrr, hbr, holdr, hcase⟩ := ready_mk Try.underlying23 info22 hr (by omega) hn
  clear hr hn
  have hq := fun (w : World) (a : Option Addr) (n c : Nat) => run_neq_slice_nil_any (P := Try.prog) w 23 22 a n c 0 0 Try.underlying23
  have C3 := new_absent a0 a2 ar len capr wr
  rcases hcase with ⟨rfl, rfl, rfl, rfl, rfl, rfl⟩ | ⟨ad, w1, rfl, rfl, rfl, hmk, hcp⟩
  all_goals
    go_enter Try.func4, Try.ntmps4
    go_wp2_with fail
    refine C.mono ?_
    rintro e w' ⟨rfl, hw⟩
    subst hw
    go_wp2_with fail
    refine C2.mono ?_
    rintro e w' ⟨rfl, hw⟩
    subst hw
    go_wp2_with fail
    refine C3.mono ?_
    rintro e w3 ⟨rfl, M3, hb3⟩
    go_wp2_with fail
    refine (zzEndLast_new M3 (by unfold maxLen; omega) h0 rfl).mono ?_
    rintro e w4 ⟨rfl, M4, R4, hb4, hne⟩
    go_wp2_with fail
    have C5 := zzEndLast_known M4 h0 (by decide) (if_pos rfl) R4 (by unfold maxLen; omega) hne.symm
    rw [show liveB 0 (inB []) = false from rfl] at C5
    refine C5.mono ?_
    rintro e w5 ⟨rfl, cb5, m5, hm5, M5, R5, hb5⟩
    clear C C2 C3 C5
    go_wp2
    go_ret
    exact ⟨rfl, hbr.trans ((hb3.trans (hb4.trans hb5)).mono hbr.size)⟩

theorem inU64_is {a : Option Addr} {len : Nat} (cap : Nat) {zs : List Int} {x : Int} {v : Bool} {w : World} (hv : inB zs x = v) (hr : Row .u64 w a len zs) (hl : len ≤ 1048576) :
    Calls Try.prog 8 #[.slice a len cap, .int .u64 x] w fun e w' => e = .returned (.bool v) ∧ w' = w := by
  rw [← hv]
  exact inU64_any a len cap zs x w hr hl

theorem liveB_ended (last : Int) (E : Int → Bool) : liveB last (endedB last E) = false := by
  unfold liveB endedB
  by_cases h : last = 0
  · subst h; rfl
  · have : (last != 0) = true := by simpa using h
    simp [this]

theorem endedB_last {last : Int} (E : Int → Bool) (h : (last != 0) = true) : endedB last E last = true := by
  unfold endedB
  simp [h]

set_option maxHeartbeats 1000000 in
/-- A present peer. -/
theorem once_present (a0 : Int) (a2 : Int) (a : Option Addr) (len cap : Nat) (zs : List Int) (w : World) (h0 : (Lit.int .i64 a0).wf = true) (h2 : (Lit.int .u64 a2).wf = true) (hwz : ∀ z ∈ zs, (Lit.int .u64 z).wf = true) (h : len ≤ 4096) (hr : Row .u64 w a len zs) (hz : inB zs 0 = false) (hn : a = none → len = 0 ∧ cap = 0) :
    Calls Try.prog 4 #[.int .i64 a0, .bool true, .int .u64 a2, .slice a len cap] w fun e w' => e = .returned (.bool true) ∧ Below w.heap.size w w' := by
  have C := bytes14 a0 true a2 a len cap w (by unfold maxLen; omega)
  rw [decide_eq_true (by omega : len ≤ 1048576)] at C
  have C2 := inU64_any a len cap zs 0 w hr (by omega)
  rw [hz] at C2
  clear hz
  obtain ⟨ar, capr, wr, hrr, hbr, holdr, hcase⟩ := ready_mk Try.underlying23 info22 hr (by omega) hn
  clear hr hn
  have hq := fun (w : World) (a : Option Addr) (n c : Nat) => run_neq_slice_nil_any (P := Try.prog) w 23 22 a n c 0 0 Try.underlying23
  have C3 := new_present a0 a2 ar len capr zs wr h0 hrr (by omega) hwz holdr
  have HR : Hid (Row .u64 wr ar len zs) := hrr
  have HO : Hid (∀ x, ar = some x → x.block < wr.heap.size) := holdr
  clear hrr holdr hwz
  have hcl : (a2 = 0 ∧ liveB a2 (inB zs) = false) ∨ ((a2 != 0) = true ∧ (a2 == 0) = false ∧ inB zs a2 = true ∧ liveB a2 (inB zs) = false) ∨ ((a2 != 0) = true ∧ (a2 == 0) = false ∧ inB zs a2 = false ∧ liveB a2 (inB zs) = true) := by
    by_cases e : a2 = 0
    · subst e; exact .inl ⟨rfl, rfl⟩
    · have e1 : (a2 != 0) = true := by simpa using e
      have e2 : (a2 == 0) = false := by simpa using e
      cases e3 : inB zs a2 with
      | true => exact .inr (.inl ⟨e1, e2, rfl, by simp [liveB, e1, e3]⟩)
      | false => exact .inr (.inr ⟨e1, e2, rfl, by simp [liveB, e1, e3]⟩)
  rcases hcase with ⟨rfl, rfl, rfl, rfl, rfl, rfl⟩ | ⟨ad, w1, rfl, rfl, rfl, hmk, hcp⟩
  all_goals
    go_enter Try.func4, Try.ntmps4
    go_wp2_with fail
    refine C.mono ?_
    rintro e w' ⟨rfl, hw⟩
    subst hw
    go_wp2_with fail
    refine C2.mono ?_
    rintro e w' ⟨rfl, hw⟩
    subst hw
    go_wp2_with fail
    refine C3.mono ?_
    rintro e w3 ⟨rfl, M3, R3, hb3⟩
    go_wp2_with fail
    have C4 := zzEndLast_known M3 h0 h2 (if_pos rfl) R3 (by unfold maxLen; omega) (by omega)
    clear C C2 C3
    rcases hcl with ⟨rfl, hL⟩ | ⟨e1, e2, e3, hL⟩ | ⟨e1, e2, e3, hL⟩
    · rw [hL] at C4
      refine C4.mono ?_
      rintro e w4 ⟨rfl, cb4, m4, hm4, M4, R4, hb4⟩
      clear C4 hL
      go_wp2_with fail
      have C5 := zzEndLast_known M4 h0 h2 (if_pos rfl) R4 (by unfold maxLen; omega) (by omega)
      rw [liveB_ended] at C5
      refine C5.mono ?_
      rintro e w5 ⟨rfl, cb5, m5, hm5, M5, R5, hb5⟩
      clear C5
      go_wp2
      go_ret
      exact ⟨rfl, hbr.trans ((hb3.trans (hb4.trans hb5)).mono hbr.size)⟩
    all_goals
      rw [hL] at C4
      refine C4.mono ?_
      rintro e w4 ⟨rfl, cb4, m4, hm4, M4, R4, hb4⟩
      clear C4 hL
      go_wp2_with fail
      have C5 := zzEndLast_known M4 h0 h2 (if_pos rfl) R4 (by unfold maxLen; omega) (by omega)
      rw [liveB_ended] at C5
      refine C5.mono ?_
      rintro e w5 ⟨rfl, cb5, m5, hm5, M5, R5, hb5⟩
      clear C5
      go_wp2_with fail
      refine (inU64_is _ e3 (HR.out.mono (hb3.trans (hb4.trans hb5)) HO.out) (by omega)).mono ?_
      rintro e w6 ⟨rfl, hw⟩
      subst hw
      clear e3
      go_wp2_with fail
      have C7 := zzEnded M5 h0 h2 (if_pos rfl) R5
      rw [endedB_last _ e1] at C7
      refine C7.mono ?_
      rintro e w7 ⟨rfl, hw⟩
      subst hw
      clear C7
      go_wp2
      go_ret
      exact ⟨rfl, hbr.trans ((hb3.trans (hb4.trans hb5)).mono hbr.size)⟩

end Go.Proofs.Qxb6612280a
