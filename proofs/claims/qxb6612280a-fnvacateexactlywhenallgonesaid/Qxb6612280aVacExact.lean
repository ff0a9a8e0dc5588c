/-
  THE WALK OF FnVacateExactlyWhenAllGone (5).
-/
import Derived.Test.Qxb6612280aVacOnce
namespace Go.Proofs.Qxb6612280a
open Go.RowKit Go.Maps

theorem bytes15_any (a0 : Int) (am : Option Addr) (lm cm : Nat) (ag : Option Addr) (lg cg : Nat) (a3 : Bool) (w : World) (hm : lm ≤ maxLen) (hg : lg ≤ maxLen) :
    Calls Try.prog 15 #[.int .i64 a0, .slice am lm cm, .slice ag lg cg, .bool a3] w fun e w' => ∃ v, e = .returned (.bool v) ∧ (lm ≤ 4096 → lg ≤ 4096 → v = true) ∧ w' = w := by
  unfold maxLen at hm hg
  by_cases h1 : lm ≤ 1048576
  · by_cases h2 : lg ≤ 1048576
    · by_cases h3 : lm + lg ≤ 1048576
      · go_enter Try.func15, Try.ntmps15
        go_wp2
        go_ret
        exact ⟨true, rfl, fun _ _ => rfl, rfl⟩
      · go_enter Try.func15, Try.ntmps15
        go_wp2
        go_ret
        exact ⟨false, rfl, fun _ _ => by omega, rfl⟩
    · go_enter Try.func15, Try.ntmps15
      go_wp2
      go_ret
      exact ⟨false, rfl, fun _ _ => by omega, rfl⟩
  · go_enter Try.func15, Try.ntmps15
    go_wp2
    go_ret
    exact ⟨false, rfl, fun _ _ => by omega, rfl⟩

/-- Too long, or k out of its bounds: true at once. -/
theorem vexact_out (a0 : Int) (am : Option Addr) (lm cm : Nat) (ag : Option Addr) (lg cg : Nat) (a3 : Bool) (w : World) (hm : lm ≤ maxLen) (hg : lg ≤ maxLen) (h : 4096 < lm ∨ (lm ≤ 4096 ∧ 4096 < lg) ∨ (lm ≤ 4096 ∧ lg ≤ 4096 ∧ (a0 < 0 ∨ (0 ≤ a0 ∧ 65536 < a0)))) :
    Calls Try.prog 5 #[.int .i64 a0, .slice am lm cm, .slice ag lg cg, .bool a3] w fun e w' => e = .returned (.bool true) ∧ Below w.heap.size w w' := by
  have C := bytes15_any a0 am lm cm ag lg cg a3 w hm hg
  unfold maxLen at hm hg
  rcases h with h | ⟨h1, h⟩ | ⟨h1, h2, h | ⟨h3, h⟩⟩
  all_goals
    go_enter Try.func5, Try.ntmps5
    go_wp2_with fail
    refine C.mono ?_
    rintro e w' ⟨v, rfl, hv, hw⟩
    subst hw
    clear C hv
    cases v
    all_goals
      go_wp2
      go_ret
      exact ⟨rfl, Below.refl _ _⟩

set_option maxHeartbeats 2000000 in
/-- A vacancy was noted. -/
theorem vexact_noted (k : Nat) (hk : k ≤ 65536) (hwk : (Lit.int .i64 (k : Int)).wf = true) (am : Option Addr) (lm cm : Nat) (ms : List Int) (ag : Option Addr) (lg cg : Nat) (gs : List Int) (w : World)
    (hm : Row .i64 w am lm ms) (hlm : lm ≤ 4096) (hnm : am = none → lm = 0 ∧ cm = 0) (hg : Row .i64 w ag lg gs) (hlg : lg ≤ 4096) (hng : ag = none → lg = 0 ∧ cg = 0) (hwg : ∀ z ∈ gs, (Lit.int .i64 z).wf = true) :
    Calls Try.prog 5 #[.int .i64 (k : Int), .slice am lm cm, .slice ag lg cg, .bool true] w fun e w' => e = .returned (.bool true) ∧ Below w.heap.size w w' := by
  have C := bytes15_any (k : Int) am lm cm ag lg cg true w (by unfold maxLen; omega) (by unfold maxLen; omega)
  obtain ⟨am2, cm2, wa, ag2, cg2, wb, ⟨_, hba, _, hc1⟩, ⟨hrg, hbb, hog, hc2⟩, hrm, hom, hbw⟩ := ready_two hm hlm hnm hg hlg hng
  clear hm hnm hg hng
  have hq := fun (w : World) (a : Option Addr) (n c : Nat) => run_neq_slice_nil_any (P := Try.prog) w 32 3 a n c 0 0 Try.underlying32
  have heq := eql_same
  have C3 := newV_present k hk hwk am2 lm cm2 ms ag2 lg cg2 gs wb hrm hom hrg (by omega) hwg hog
  clear hrm hom hrg hog hwg
  rcases hc1 with ⟨rfl, rfl, rfl, rfl, rfl, rfl⟩ | ⟨ad, w1, rfl, rfl, rfl, hmk, hcp⟩ <;> rcases hc2 with ⟨rfl, rfl, rfl, rfl, rfl, rfl⟩ | ⟨ad', w1', rfl, rfl, rfl, hmk', hcp'⟩
  all_goals
    go_enter Try.func5, Try.ntmps5
    go_wp2_with fail
    refine C.mono ?_
    rintro e w' ⟨v, rfl, hv, hw⟩
    subst hw
    obtain rfl := hv (by omega) (by omega)
    clear C
    go_wp2_with fail
    refine C3.mono ?_
    rintro e w3 ⟨sb, tb, mgb, gb, vb, vp, rfl, V3, hb3⟩
    clear C3
    go_wp2_with fail
    refine (vacancyAt_any V3 hwk (v := .pointer (some ⟨vp, 0, none⟩)) (by simp)).mono ?_
    rintro e w4 ⟨rfl, hw⟩
    subst hw
    go_wp2_with fail
    refine (zzVacate (vacate_noted V3 hwk (if_pos rfl))).mono ?_
    rintro e w5 ⟨rfl, hb5⟩
    have V5 := V3.kept hb5
    go_wp2_with fail
    refine (vacancyAt_any V5 hwk (v := .pointer (some ⟨vp, 0, none⟩)) (by simp)).mono ?_
    rintro e w7 ⟨rfl, hw⟩
    subst hw
    go_wp2
    go_ret
    exact ⟨rfl, hbw.trans ((hb3.trans (hb5.mono hb3.size)).mono hbw.size)⟩

set_option maxHeartbeats 2000000 in
/-- None was noted, a member is not gone. -/
theorem vexact_live (k : Nat) (hk : k ≤ 65536) (hwk : (Lit.int .i64 (k : Int)).wf = true) (am : Option Addr) (lm cm : Nat) (ms : List Int) (ag : Option Addr) (lg cg : Nat) (gs : List Int) (w : World)
    (hm : Row .i64 w am lm ms) (hlm : lm ≤ 4096) (hnm : am = none → lm = 0 ∧ cm = 0) (hg : Row .i64 w ag lg gs) (hlg : lg ≤ 4096) (hng : ag = none → lg = 0 ∧ cg = 0) (hwg : ∀ z ∈ gs, (Lit.int .i64 z).wf = true) (hwm : ∀ z ∈ ms, (Lit.int .i64 z).wf = true) (ha : allB ms gs = false) :
    Calls Try.prog 5 #[.int .i64 (k : Int), .slice am lm cm, .slice ag lg cg, .bool false] w fun e w' => e = .returned (.bool true) ∧ Below w.heap.size w w' := by
  have C := bytes15_any (k : Int) am lm cm ag lg cg false w (by unfold maxLen; omega) (by unfold maxLen; omega)
  obtain ⟨am2, cm2, wa, ag2, cg2, wb, ⟨_, hba, _, hc1⟩, ⟨hrg, hbb, hog, hc2⟩, hrm, hom, hbw⟩ := ready_two hm hlm hnm hg hlg hng
  clear hm hnm hg hng
  have hq := fun (w : World) (a : Option Addr) (n c : Nat) => run_neq_slice_nil_any (P := Try.prog) w 32 3 a n c 0 0 Try.underlying32
  have C3 := newV_absent k hk am2 lm cm2 ms ag2 lg cg2 gs wb hrm hom hrg (by omega) hwg hog
  have HG : Hid (Row .i64 wb ag2 lg gs) := hrg
  have HO : Hid (∀ x, ag2 = some x → x.block < wb.heap.size) := hog
  have HA : Hid (allB ms gs = false) := ha
  have HW : Hid (∀ z ∈ ms, (Lit.int .i64 z).wf = true) := hwm
  clear hrm hom hrg hog hwg ha hwm
  rcases hc1 with ⟨rfl, rfl, rfl, rfl, rfl, rfl⟩ | ⟨ad, w1, rfl, rfl, rfl, hmk, hcp⟩ <;> rcases hc2 with ⟨rfl, rfl, rfl, rfl, rfl, rfl⟩ | ⟨ad', w1', rfl, rfl, rfl, hmk', hcp'⟩
  all_goals
    go_enter Try.func5, Try.ntmps5
    go_wp2_with fail
    refine C.mono ?_
    rintro e w' ⟨v, rfl, hv, hw⟩
    subst hw
    obtain rfl := hv (by omega) (by omega)
    clear C
    go_wp2_with fail
    refine C3.mono ?_
    rintro e w3 ⟨sb, tb, mgb, gb, vb, rfl, V3, hb3⟩
    clear C3
    go_wp2_with fail
    refine (vacancyAt_any V3 hwk (v := .pointer none) rfl).mono ?_
    rintro e w4 ⟨rfl, hw⟩
    subst hw
    go_wp2_with fail
    refine (zzVacate (vacate_live V3 hwk hk rfl HA.out (by omega) HW.out)).mono ?_
    rintro e w5 ⟨rfl, hb5⟩
    have V5 := V3.kept hb5
    have hbx := hb3.trans (hb5.mono hb3.size)
    go_wp2_with fail
    refine (allIn_is _ _ HA.out V5.row (by omega) (HG.out.mono hbx HO.out) (by omega)).mono ?_
    rintro e w7 ⟨rfl, hw⟩
    subst hw
    go_wp2_with fail
    refine (vacancyAt_any V5 hwk (v := .pointer none) rfl).mono ?_
    rintro e w8 ⟨rfl, hw⟩
    subst hw
    go_wp2
    go_ret
    exact ⟨rfl, hbw.trans (hbx.mono hbw.size)⟩

set_option maxHeartbeats 2000000 in
/-- None was noted, every member is gone. -/
theorem vexact_gone (k : Nat) (hk : k ≤ 65536) (hwk : (Lit.int .i64 (k : Int)).wf = true) (am : Option Addr) (lm cm : Nat) (ms : List Int) (ag : Option Addr) (lg cg : Nat) (gs : List Int) (w : World)
    (hm : Row .i64 w am lm ms) (hlm : lm ≤ 4096) (hnm : am = none → lm = 0 ∧ cm = 0) (hg : Row .i64 w ag lg gs) (hlg : lg ≤ 4096) (hng : ag = none → lg = 0 ∧ cg = 0) (hwg : ∀ z ∈ gs, (Lit.int .i64 z).wf = true) (hwm : ∀ z ∈ ms, (Lit.int .i64 z).wf = true) (ha : allB ms gs = true) :
    Calls Try.prog 5 #[.int .i64 (k : Int), .slice am lm cm, .slice ag lg cg, .bool false] w fun e w' => e = .returned (.bool true) ∧ Below w.heap.size w w' := by
  have C := bytes15_any (k : Int) am lm cm ag lg cg false w (by unfold maxLen; omega) (by unfold maxLen; omega)
  obtain ⟨am2, cm2, wa, ag2, cg2, wb, ⟨_, hba, _, hc1⟩, ⟨hrg, hbb, hog, hc2⟩, hrm, hom, hbw⟩ := ready_two hm hlm hnm hg hlg hng
  clear hm hnm hg hng
  have hq := fun (w : World) (a : Option Addr) (n c : Nat) => run_neq_slice_nil_any (P := Try.prog) w 32 3 a n c 0 0 Try.underlying32
  have heq := eql_same
  have C3 := newV_absent k hk am2 lm cm2 ms ag2 lg cg2 gs wb hrm hom hrg (by omega) hwg hog
  have HG : Hid (Row .i64 wb ag2 lg gs) := hrg
  have HO : Hid (∀ x, ag2 = some x → x.block < wb.heap.size) := hog
  have HA : Hid (allB ms gs = true) := ha
  have HW : Hid (∀ z ∈ ms, (Lit.int .i64 z).wf = true) := hwm
  clear hrm hom hrg hog hwg ha hwm
  rcases hc1 with ⟨rfl, rfl, rfl, rfl, rfl, rfl⟩ | ⟨ad, w1, rfl, rfl, rfl, hmk, hcp⟩ <;> rcases hc2 with ⟨rfl, rfl, rfl, rfl, rfl, rfl⟩ | ⟨ad', w1', rfl, rfl, rfl, hmk', hcp'⟩
  all_goals
    go_enter Try.func5, Try.ntmps5
    go_wp2_with fail
    refine C.mono ?_
    rintro e w' ⟨v, rfl, hv, hw⟩
    subst hw
    obtain rfl := hv (by omega) (by omega)
    clear C
    go_wp2_with fail
    refine C3.mono ?_
    rintro e w3 ⟨sb, tb, mgb, gb, vb, rfl, V3, hb3⟩
    clear C3
    go_wp2_with fail
    refine (vacancyAt_any V3 hwk (v := .pointer none) rfl).mono ?_
    rintro e w4 ⟨rfl, hw⟩
    subst hw
    go_wp2_with fail
    refine (zzVacate (vacate_gone V3 hwk hk rfl HA.out (by omega) (by unfold maxLen; omega) HW.out)).mono ?_
    rintro e w5 ⟨rfl, V5, htold, hs5, _, hb5⟩
    have hbx := hb3.trans hb5
    have HT := hideIt htold
    clear htold
    go_wp2_with fail
    refine (allIn_is _ _ HA.out V5.row (by omega) (HG.out.mono hbx HO.out) (by omega)).mono ?_
    rintro e w7 ⟨rfl, hw⟩
    subst hw
    go_wp2_with fail
    refine (vacancyAt_any V5 hwk (by rw [if_pos rfl])).mono ?_
    rintro e w8 ⟨rfl, hw⟩
    subst hw
    go_wp2_with fail
    refine (zzTold HT.out).mono ?_
    rintro e w9 ⟨rfl, hw⟩
    subst hw
    go_wp2
    go_ret
    exact ⟨rfl, hbw.trans (hbx.mono hbw.size)⟩

end Go.Proofs.Qxb6612280a
