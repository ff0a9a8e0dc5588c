/-
  THE WALK OF FnVacateOnlyOnce (6).
-/
import Derived.Test.Qxb6612280aNewV
import Derived.Test.Qxb6612280aOnce
import Derived.Lib.Builder
namespace Go.Proofs.Qxb6612280a
open Go.RowKit Go.Maps

theorem eql_same (a : Addr) (w : World) : (binOp .eql 35 (.pointer (some a)) (.pointer (some a))).run Try.prog w = .ok (.bool true) w := by
  have hj : (Try.prog.info? 63).map (·.size) = some 1 := by kernel_rfl
  obtain ⟨j, hj1, hj2⟩ := Option.map_eq_some_iff.1 hj
  have h : ∀ d : Nat, (Op.equalIn (d + 1) 35 (.pointer (some a)) (.pointer (some a))).run Try.prog w = .ok true w := fun d => by
    simp [Op.equalIn, run_underlying Try.underlying35, sizeOf, typeInfo, hj1, run_sameAddr_same]
  simp only [binOp]
  simp [Op.equal, Op.maxDepth, h 9999]

theorem bytes21_any (a0 : Int) (am : Option Addr) (lm cm : Nat) (ag : Option Addr) (lg cg : Nat) (a3 : Bool) (w : World) (hm : lm ≤ maxLen) (hg : lg ≤ maxLen) :
    Calls Try.prog 21 #[.int .i64 a0, .slice am lm cm, .slice ag lg cg, .bool a3] w fun e w' => ∃ v, e = .returned (.bool v) ∧ (lm ≤ 4096 → lg ≤ 4096 → v = true) ∧ w' = w := by
  unfold maxLen at hm hg
  by_cases h1 : lm ≤ 1048576
  · by_cases h2 : lg ≤ 1048576
    · by_cases h3 : lm + lg ≤ 1048576
      · go_enter Try.func21, Try.ntmps21
        go_wp2
        go_ret
        exact ⟨true, rfl, fun _ _ => rfl, rfl⟩
      · go_enter Try.func21, Try.ntmps21
        go_wp2
        go_ret
        exact ⟨false, rfl, fun _ _ => by omega, rfl⟩
    · go_enter Try.func21, Try.ntmps21
      go_wp2
      go_ret
      exact ⟨false, rfl, fun _ _ => by omega, rfl⟩
  · go_enter Try.func21, Try.ntmps21
    go_wp2
    go_ret
    exact ⟨false, rfl, fun _ _ => by omega, rfl⟩

/-- Too long, or k out of its bounds: true at once. -/
theorem vonce_out (a0 : Int) (am : Option Addr) (lm cm : Nat) (ag : Option Addr) (lg cg : Nat) (a3 : Bool) (w : World) (hm : lm ≤ maxLen) (hg : lg ≤ maxLen) (h : 4096 < lm ∨ (lm ≤ 4096 ∧ 4096 < lg) ∨ (lm ≤ 4096 ∧ lg ≤ 4096 ∧ (a0 < 0 ∨ (0 ≤ a0 ∧ 65536 < a0)))) :
    Calls Try.prog 6 #[.int .i64 a0, .slice am lm cm, .slice ag lg cg, .bool a3] w fun e w' => e = .returned (.bool true) ∧ Below w.heap.size w w' := by
  have C := bytes21_any a0 am lm cm ag lg cg a3 w hm hg
  unfold maxLen at hm hg
  rcases h with h | ⟨h1, h⟩ | ⟨h1, h2, h | ⟨h3, h⟩⟩
  all_goals
    go_enter Try.func6, Try.ntmps6
    go_wp2_with fail
    refine C.mono ?_
    rintro e w' ⟨v, rfl, hv, hw⟩
    subst hw
    clear C hv
    cases v
    all_goals
      go_wp2
      go_ret
      exact ⟨rfl, Below.refl _ _⟩

/-- Both slices, as they are where the membership is made. -/
theorem ready_two {w : World} {am : Option Addr} {lm cm : Nat} {ms : List Int} {ag : Option Addr} {lg cg : Nat} {gs : List Int} (hm : Row .i64 w am lm ms) (hlm : lm ≤ 4096) (hnm : am = none → lm = 0 ∧ cm = 0) (hg : Row .i64 w ag lg gs) (hlg : lg ≤ 4096) (hng : ag = none → lg = 0 ∧ cg = 0) :
    ∃ am2 cm2 wa ag2 cg2 wb, Ready 32 .i64 w am lm cm ms am2 cm2 wa ∧ Ready 32 .i64 wa ag lg cg gs ag2 cg2 wb ∧ Row .i64 wb am2 lm ms ∧ (∀ x, am2 = some x → x.block < wb.heap.size) ∧ Below w.heap.size w wb := by
  obtain ⟨am2, cm2, wa, R1⟩ := ready_mk Try.underlying32 info3 hm (by omega) hnm
  have hg' : Row .i64 wa ag lg gs := ⟨hg.1, fun h0 => by
    obtain ⟨b, off, e, hc⟩ := hg.2 h0
    exact ⟨b, off, e, fun i hi => (R1.2.1.cell (p := ⟨b, off + i, none⟩) (block_of_cell (a := ⟨b, off + i, none⟩) (hc i hi))).trans (hc i hi)⟩⟩
  obtain ⟨ag2, cg2, wb, R2⟩ := ready_mk Try.underlying32 info3 hg' (by omega) hng
  refine ⟨am2, cm2, wa, ag2, cg2, wb, R1, R2, R1.1.mono R2.2.1 R1.2.2.1, fun x hx => Nat.lt_of_lt_of_le (R1.2.2.1 x hx) R2.2.1.size, R1.2.1.trans (R2.2.1.mono R1.2.1.size)⟩

set_option maxHeartbeats 2000000 in
/-- A vacancy was noted. -/
theorem vonce_noted (k : Nat) (hk : k ≤ 65536) (hwk : (Lit.int .i64 (k : Int)).wf = true) (am : Option Addr) (lm cm : Nat) (ms : List Int) (ag : Option Addr) (lg cg : Nat) (gs : List Int) (w : World)
    (hm : Row .i64 w am lm ms) (hlm : lm ≤ 4096) (hnm : am = none → lm = 0 ∧ cm = 0) (hg : Row .i64 w ag lg gs) (hlg : lg ≤ 4096) (hng : ag = none → lg = 0 ∧ cg = 0) (hwg : ∀ z ∈ gs, (Lit.int .i64 z).wf = true) :
    Calls Try.prog 6 #[.int .i64 (k : Int), .slice am lm cm, .slice ag lg cg, .bool true] w fun e w' => e = .returned (.bool true) ∧ Below w.heap.size w w' := by
  have C := bytes21_any (k : Int) am lm cm ag lg cg true w (by unfold maxLen; omega) (by unfold maxLen; omega)
  obtain ⟨am2, cm2, wa, ag2, cg2, wb, ⟨_, hba, _, hc1⟩, ⟨hrg, hbb, hog, hc2⟩, hrm, hom, hbw⟩ := ready_two hm hlm hnm hg hlg hng
  clear hm hnm hg hng
  have hq := fun (w : World) (a : Option Addr) (n c : Nat) => run_neq_slice_nil_any (P := Try.prog) w 32 3 a n c 0 0 Try.underlying32
  have heq := eql_same
  have C3 := newV_present k hk hwk am2 lm cm2 ms ag2 lg cg2 gs wb hrm hom hrg (by omega) hwg hog
  clear hrm hom hrg hog hwg
  rcases hc1 with ⟨rfl, rfl, rfl, rfl, rfl, rfl⟩ | ⟨ad, w1, rfl, rfl, rfl, hmk, hcp⟩ <;> rcases hc2 with ⟨rfl, rfl, rfl, rfl, rfl, rfl⟩ | ⟨ad', w1', rfl, rfl, rfl, hmk', hcp'⟩
  all_goals
    go_enter Try.func6, Try.ntmps6
    go_wp2_with fail
    refine C.mono ?_
    rintro e w' ⟨v, rfl, hv, hw⟩
    subst hw
    obtain rfl := hv (by omega) (by omega)
    clear C
    go_wp2_with fail
    refine C3.mono ?_
    rintro e w3 ⟨sb, tb, mgb, gb, vb, vp, rfl, V3, hb3⟩
    clear C3
    go_wp2_with fail
    refine (vacancyAt_any V3 hwk (v := .pointer (some ⟨vp, 0, none⟩)) (by simp)).mono ?_
    rintro e w4 ⟨rfl, hw⟩
    subst hw
    go_wp2_with fail
    refine (zzVacate (vacate_noted V3 hwk (if_pos rfl))).mono ?_
    rintro e w5 ⟨rfl, hb5⟩
    have V5 := V3.kept hb5
    go_wp2_with fail
    refine (zzVacate (vacate_noted V5 hwk (if_pos rfl))).mono ?_
    rintro e w6 ⟨rfl, hb6⟩
    have V6 := V5.kept hb6
    go_wp2_with fail
    refine (vacancyAt_any V6 hwk (v := .pointer (some ⟨vp, 0, none⟩)) (by simp)).mono ?_
    rintro e w7 ⟨rfl, hw⟩
    subst hw
    go_wp2
    go_ret
    exact ⟨rfl, hbw.trans ((hb3.trans ((hb5.mono hb3.size).trans (hb6.mono (Nat.le_trans hb3.size hb5.size)))).mono hbw.size)⟩

theorem allIn_is {a : Option Addr} {len : Nat} (cap : Nat) {ms : List Int} {a' : Option Addr} {len' : Nat} (cap' : Nat) {gs : List Int} {w : World} {v : Bool} (hv : allB ms gs = v) (hr : Row .i64 w a len ms) (hl : len ≤ 4096) (hr' : Row .i64 w a' len' gs) (hl' : len' ≤ 4096) :
    Calls Try.prog 19 #[.slice a len cap, .slice a' len' cap'] w fun e w' => e = .returned (.bool v) ∧ w' = w := by
  rw [← hv]
  exact allIn_any a len cap ms a' len' cap' gs w hr (by omega) hr' (by omega)

set_option maxHeartbeats 2000000 in
/-- None was noted, a member is not gone. -/
theorem vonce_live (k : Nat) (hk : k ≤ 65536) (hwk : (Lit.int .i64 (k : Int)).wf = true) (am : Option Addr) (lm cm : Nat) (ms : List Int) (ag : Option Addr) (lg cg : Nat) (gs : List Int) (w : World)
    (hm : Row .i64 w am lm ms) (hlm : lm ≤ 4096) (hnm : am = none → lm = 0 ∧ cm = 0) (hg : Row .i64 w ag lg gs) (hlg : lg ≤ 4096) (hng : ag = none → lg = 0 ∧ cg = 0) (hwg : ∀ z ∈ gs, (Lit.int .i64 z).wf = true) (hwm : ∀ z ∈ ms, (Lit.int .i64 z).wf = true) (ha : allB ms gs = false) :
    Calls Try.prog 6 #[.int .i64 (k : Int), .slice am lm cm, .slice ag lg cg, .bool false] w fun e w' => e = .returned (.bool true) ∧ Below w.heap.size w w' := by
  have C := bytes21_any (k : Int) am lm cm ag lg cg false w (by unfold maxLen; omega) (by unfold maxLen; omega)
  obtain ⟨am2, cm2, wa, ag2, cg2, wb, ⟨_, hba, _, hc1⟩, ⟨hrg, hbb, hog, hc2⟩, hrm, hom, hbw⟩ := ready_two hm hlm hnm hg hlg hng
  clear hm hnm hg hng
  have hq := fun (w : World) (a : Option Addr) (n c : Nat) => run_neq_slice_nil_any (P := Try.prog) w 32 3 a n c 0 0 Try.underlying32
  have C3 := newV_absent k hk am2 lm cm2 ms ag2 lg cg2 gs wb hrm hom hrg (by omega) hwg hog
  have HG : Hid (Row .i64 wb ag2 lg gs) := hrg
  have HO : Hid (∀ x, ag2 = some x → x.block < wb.heap.size) := hog
  have HA : Hid (allB ms gs = false) := ha
  have HW : Hid (∀ z ∈ ms, (Lit.int .i64 z).wf = true) := hwm
  clear hrm hom hrg hog hwg ha hwm
  rcases hc1 with ⟨rfl, rfl, rfl, rfl, rfl, rfl⟩ | ⟨ad, w1, rfl, rfl, rfl, hmk, hcp⟩ <;> rcases hc2 with ⟨rfl, rfl, rfl, rfl, rfl, rfl⟩ | ⟨ad', w1', rfl, rfl, rfl, hmk', hcp'⟩
  all_goals
    go_enter Try.func6, Try.ntmps6
    go_wp2_with fail
    refine C.mono ?_
    rintro e w' ⟨v, rfl, hv, hw⟩
    subst hw
    obtain rfl := hv (by omega) (by omega)
    clear C
    go_wp2_with fail
    refine C3.mono ?_
    rintro e w3 ⟨sb, tb, mgb, gb, vb, rfl, V3, hb3⟩
    clear C3
    go_wp2_with fail
    refine (vacancyAt_any V3 hwk (v := .pointer none) rfl).mono ?_
    rintro e w4 ⟨rfl, hw⟩
    subst hw
    go_wp2_with fail
    refine (zzVacate (vacate_live V3 hwk hk rfl HA.out (by omega) HW.out)).mono ?_
    rintro e w5 ⟨rfl, hb5⟩
    have V5 := V3.kept hb5
    go_wp2_with fail
    refine (zzVacate (vacate_live V5 hwk hk rfl HA.out (by omega) HW.out)).mono ?_
    rintro e w6 ⟨rfl, hb6⟩
    have V6 := V5.kept hb6
    have hbx := hb3.trans ((hb5.mono hb3.size).trans (hb6.mono (Nat.le_trans hb3.size hb5.size)))
    go_wp2_with fail
    refine (allIn_is _ _ HA.out V6.row (by omega) (HG.out.mono hbx HO.out) (by omega)).mono ?_
    rintro e w7 ⟨rfl, hw⟩
    subst hw
    go_wp2_with fail
    refine (vacancyAt_any V6 hwk (v := .pointer none) rfl).mono ?_
    rintro e w8 ⟨rfl, hw⟩
    subst hw
    go_wp2
    go_ret
    exact ⟨rfl, hbw.trans (hbx.mono hbw.size)⟩

set_option maxHeartbeats 2000000 in
/-- None was noted, every member is gone. -/
theorem vonce_gone (k : Nat) (hk : k ≤ 65536) (hwk : (Lit.int .i64 (k : Int)).wf = true) (am : Option Addr) (lm cm : Nat) (ms : List Int) (ag : Option Addr) (lg cg : Nat) (gs : List Int) (w : World)
    (hm : Row .i64 w am lm ms) (hlm : lm ≤ 4096) (hnm : am = none → lm = 0 ∧ cm = 0) (hg : Row .i64 w ag lg gs) (hlg : lg ≤ 4096) (hng : ag = none → lg = 0 ∧ cg = 0) (hwg : ∀ z ∈ gs, (Lit.int .i64 z).wf = true) (hwm : ∀ z ∈ ms, (Lit.int .i64 z).wf = true) (ha : allB ms gs = true) :
    Calls Try.prog 6 #[.int .i64 (k : Int), .slice am lm cm, .slice ag lg cg, .bool false] w fun e w' => e = .returned (.bool true) ∧ Below w.heap.size w w' := by
  have C := bytes21_any (k : Int) am lm cm ag lg cg false w (by unfold maxLen; omega) (by unfold maxLen; omega)
  obtain ⟨am2, cm2, wa, ag2, cg2, wb, ⟨_, hba, _, hc1⟩, ⟨hrg, hbb, hog, hc2⟩, hrm, hom, hbw⟩ := ready_two hm hlm hnm hg hlg hng
  clear hm hnm hg hng
  have hq := fun (w : World) (a : Option Addr) (n c : Nat) => run_neq_slice_nil_any (P := Try.prog) w 32 3 a n c 0 0 Try.underlying32
  have heq := eql_same
  have C3 := newV_absent k hk am2 lm cm2 ms ag2 lg cg2 gs wb hrm hom hrg (by omega) hwg hog
  have HG : Hid (Row .i64 wb ag2 lg gs) := hrg
  have HO : Hid (∀ x, ag2 = some x → x.block < wb.heap.size) := hog
  have HA : Hid (allB ms gs = true) := ha
  have HW : Hid (∀ z ∈ ms, (Lit.int .i64 z).wf = true) := hwm
  clear hrm hom hrg hog hwg ha hwm
  rcases hc1 with ⟨rfl, rfl, rfl, rfl, rfl, rfl⟩ | ⟨ad, w1, rfl, rfl, rfl, hmk, hcp⟩ <;> rcases hc2 with ⟨rfl, rfl, rfl, rfl, rfl, rfl⟩ | ⟨ad', w1', rfl, rfl, rfl, hmk', hcp'⟩
  all_goals
    go_enter Try.func6, Try.ntmps6
    go_wp2_with fail
    refine C.mono ?_
    rintro e w' ⟨v, rfl, hv, hw⟩
    subst hw
    obtain rfl := hv (by omega) (by omega)
    clear C
    go_wp2_with fail
    refine C3.mono ?_
    rintro e w3 ⟨sb, tb, mgb, gb, vb, rfl, V3, hb3⟩
    clear C3
    go_wp2_with fail
    refine (vacancyAt_any V3 hwk (v := .pointer none) rfl).mono ?_
    rintro e w4 ⟨rfl, hw⟩
    subst hw
    go_wp2_with fail
    refine (zzVacate (vacate_gone V3 hwk hk rfl HA.out (by omega) (by unfold maxLen; omega) HW.out)).mono ?_
    rintro e w5 ⟨rfl, V5, _, hs5, _, hb5⟩
    go_wp2_with fail
    refine (zzVacate (vacate_noted V5 hwk (if_pos rfl))).mono ?_
    rintro e w6 ⟨rfl, hb6⟩
    have V6 := V5.kept hb6
    have hbx := hb3.trans (hb5.trans (hb6.mono (Nat.le_trans hb3.size hb5.size)))
    go_wp2_with fail
    refine (allIn_is _ _ HA.out V6.row (by omega) (HG.out.mono hbx HO.out) (by omega)).mono ?_
    rintro e w7 ⟨rfl, hw⟩
    subst hw
    go_wp2_with fail
    refine (vacancyAt_any V6 hwk (by rw [if_pos rfl])).mono ?_
    rintro e w8 ⟨rfl, hw⟩
    subst hw
    go_wp2
    go_ret
    exact ⟨rfl, hbw.trans (hbx.mono hbw.size)⟩

end Go.Proofs.Qxb6612280a
