/-
  THE WALK OF FnEndLastMatchesModel (3).
-/
import Derived.Test.Qxb6612280aOnce
namespace Go.Proofs.Qxb6612280a
open Go.RowKit Go.Maps

theorem hidden {p : Prop} (h : p) : Hid p := h

theorem bytes7_any (a0 a1 : Int) (a2 : Bool) (a3 : Int) (am : Option Addr) (lm cm : Nat) (ag : Option Addr) (lg cg : Nat) (w : World) (hm : lm ≤ maxLen) (hg : lg ≤ maxLen) :
    Calls Try.prog 7 #[.int .i64 a0, .int .i64 a1, .bool a2, .int .u64 a3, .slice am lm cm, .slice ag lg cg] w fun e w' => ∃ v, e = .returned (.bool v) ∧ (lm ≤ 4096 → lg ≤ 4096 → v = true) ∧ w' = w := by
  unfold maxLen at hm hg
  by_cases h1 : lm ≤ 1048576
  · by_cases h2 : lg ≤ 1048576
    · by_cases h3 : lm + lg ≤ 1048576
      · go_enter Try.func7, Try.ntmps7
        go_wp2
        go_ret
        exact ⟨true, rfl, fun _ _ => rfl, rfl⟩
      · go_enter Try.func7, Try.ntmps7
        go_wp2
        go_ret
        exact ⟨false, rfl, fun _ _ => by omega, rfl⟩
    · go_enter Try.func7, Try.ntmps7
      go_wp2
      go_ret
      exact ⟨false, rfl, fun _ _ => by omega, rfl⟩
  · go_enter Try.func7, Try.ntmps7
    go_wp2
    go_ret
    exact ⟨false, rfl, fun _ _ => by omega, rfl⟩

/-- Too long: true at once. -/
theorem model_long (a0 a1 : Int) (a2 : Bool) (a3 : Int) (am : Option Addr) (lm cm : Nat) (ag : Option Addr) (lg cg : Nat) (w : World) (hm : lm ≤ maxLen) (hg : lg ≤ maxLen) (h : 4096 < lm ∨ (lm ≤ 4096 ∧ 4096 < lg)) :
    Calls Try.prog 3 #[.int .i64 a0, .int .i64 a1, .bool a2, .int .u64 a3, .slice am lm cm, .slice ag lg cg] w fun e w' => e = .returned (.bool true) ∧ Below w.heap.size w w' := by
  have C := bytes7_any a0 a1 a2 a3 am lm cm ag lg cg w hm hg
  unfold maxLen at hm hg
  rcases h with h | ⟨h1, h⟩
  all_goals
    go_enter Try.func3, Try.ntmps3
    go_wp2_with fail
    refine C.mono ?_
    rintro e w' ⟨v, rfl, hv, hw⟩
    subst hw
    clear C hv
    cases v
    all_goals
      go_wp2
      go_ret
      exact ⟨rfl, Below.refl _ _⟩

/-- 0 among the ended ones: true at once. -/
theorem model_zero (a0 a1 : Int) (a2 : Bool) (a3 : Int) (am : Option Addr) (lm cm : Nat) (ag : Option Addr) (lg cg : Nat) (zs : List Int) (w : World) (h1 : lm ≤ 4096) (h2 : lg ≤ 4096) (hr : Row .u64 w am lm zs) (h0 : inB zs 0 = true) :
    Calls Try.prog 3 #[.int .i64 a0, .int .i64 a1, .bool a2, .int .u64 a3, .slice am lm cm, .slice ag lg cg] w fun e w' => e = .returned (.bool true) ∧ Below w.heap.size w w' := by
  have C := bytes7_any a0 a1 a2 a3 am lm cm ag lg cg w (by unfold maxLen; omega) (by unfold maxLen; omega)
  have C2 := inU64_any am lm cm zs 0 w hr (by omega)
  rw [h0] at C2
  clear h0 hr
  go_enter Try.func3, Try.ntmps3
  go_wp2_with fail
  refine C.mono ?_
  rintro e w' ⟨v, rfl, hv, hw⟩
  subst hw
  obtain rfl := hv h1 h2
  clear C hv
  go_wp2_with fail
  refine C2.mono ?_
  rintro e w' ⟨rfl, hw⟩
  subst hw
  clear C2
  go_wp2
  go_ret
  exact ⟨rfl, Below.refl _ _⟩

theorem zzHasRuns_is {w : World} {B sb mb cb n : Nat} {f : Int → Option Value} (M : Mem w B sb mb cb n f) {p : Int} {v : Bool} (hp : (Lit.int .i64 p).wf = true) (hv : (f p).isSome = v) :
    Calls Try.prog 11 #[.pointer (some ⟨sb, 0, none⟩), .int .i64 p] w fun e w' => e = .returned (.bool v) ∧ w' = w := by
  have hl := M.map.look Try.underlying3 Try.underlying39 (zero49 w) hp true
  simp only [if_true] at hl
  have hc5 := M.c5
  clear M
  obtain ⟨u, hu⟩ : ∃ u, u = (f p).getD (.pointer none) := ⟨_, rfl⟩
  rw [← hu, hv] at hl
  clear hu hv
  go_enter Try.func11, Try.ntmps11
  go_wp2
  go_ret
  exact ⟨rfl, rfl⟩

theorem zzEnded_is {w : World} {B sb mb cb n rb eb m : Nat} {f : Int → Option Value} {E : Int → Bool} (M : Mem w B sb mb cb n f) {p last x : Int} {v : Bool} (hp : (Lit.int .i64 p).wf = true) (hx : (Lit.int .u64 x).wf = true) (hf : f p = some (.pointer (some ⟨rb, 0, none⟩)))
    (R : Run w B rb eb m last E) (hv : E x = v) : Calls Try.prog 13 #[.pointer (some ⟨sb, 0, none⟩), .int .i64 p, .int .u64 x] w fun e w' => e = .returned (.bool v) ∧ w' = w := by
  rw [← hv]
  exact zzEnded M hp hx hf R

theorem wf_getD {q : IntKind} {zs : List Int} (h : ∀ z ∈ zs, (Lit.int q z).wf = true) {k : Nat} (hk : k < zs.length) : (Lit.int q (zs.getD k 0)).wf = true :=
  h _ (by rw [List.getD_eq_getElem?_getD, List.getElem?_eq_getElem hk]; simp)

set_option maxHeartbeats 2000000 in
/-- An absent peer. -/
theorem model_absent (a0 a1 : Int) (a3 : Int) (am : Option Addr) (lm cm : Nat) (ag : Option Addr) (lg cg : Nat) (zs ps : List Int) (w : World) (w0 : (Lit.int .i64 a0).wf = true) (w1 : (Lit.int .i64 a1).wf = true) (h1 : lm ≤ 4096) (h2 : lg ≤ 4096)
    (hr : Row .u64 w am lm zs) (hz : inB zs 0 = false) (hn : am = none → lm = 0 ∧ cm = 0) (hwz : ∀ z ∈ zs, (Lit.int .u64 z).wf = true) (hp : Row .u64 w ag lg ps) (hwp : ∀ z ∈ ps, (Lit.int .u64 z).wf = true) :
    Calls Try.prog 3 #[.int .i64 a0, .int .i64 a1, .bool false, .int .u64 a3, .slice am lm cm, .slice ag lg cg] w fun e w' => e = .returned (.bool true) ∧ Below w.heap.size w w' := by
  have C := bytes7_any a0 a1 false a3 am lm cm ag lg cg w (by unfold maxLen; omega) (by unfold maxLen; omega)
  have C2 := inU64_any am lm cm zs 0 w hr (by omega)
  rw [hz] at C2
  clear hz
  obtain ⟨ar, capr, wr, hrr, hbr, holdr, hcase⟩ := ready_mk Try.underlying23 info22 hr (by omega) hn
  clear hr hn
  have hq := fun (w : World) (a : Option Addr) (n c : Nat) => run_neq_slice_nil_any (P := Try.prog) w 23 22 a n c 0 0 Try.underlying23
  have C3 := new_absent a0 a3 ar lm capr wr
  have HR := hidden hrr
  have HO := hidden holdr
  have HP := hidden hp
  have HZ := hidden hwz
  have HW := hidden hwp
  clear hrr holdr hp hwz hwp
  rcases hcase with ⟨rfl, hl0, rfl, rfl, rfl, hww⟩ | ⟨ad, w1', rfl, rfl, hcap, hmk, hcp⟩
  case' inl =>
    have HL0 := hidden hl0
    clear hl0
    subst hww
  case' inr =>
    have hcap' := hcap.symm
    subst hcap'
  all_goals
    go_enter Try.func3, Try.ntmps3
    go_wp2_with fail
    refine C.mono ?_
    rintro e w' ⟨v, rfl, hv, hw⟩
    subst hw
    obtain rfl := hv (by omega) (by omega)
    clear C hv
    go_wp2_with fail
    refine C2.mono ?_
    rintro e w' ⟨rfl, hw⟩
    subst hw
    clear C2
    go_wp2_with fail
    refine C3.mono ?_
    rintro e w3 ⟨rfl, M3, hb3⟩
    clear C3
    go_wp2_with fail
    refine (zzEndLast_new M3 (by unfold maxLen; omega) w0 rfl).mono ?_
    rintro e w4 ⟨rfl, M4, R4, hb4, hne⟩
    have hb34 := hb3.trans hb4
    have hball := hbr.trans (hb34.mono hbr.size)
    clear hq hbr hb3 hb4 M3
    try clear hmk hcp
    go_wp2_with fail
    refine (zzHasRuns_is M4 (v := true) w0 (by simp)).mono ?_
    rintro e w5 ⟨rfl, hw⟩
    subst hw
    cases hqp : (a1 != a0)
    case' false => go_wp2_with fail
    case' true =>
      go_wp2_with fail
      refine (zzHasRuns_is M4 (v := false) w1 (by simp at hqp; simp [hqp])).mono ?_
      rintro e w6 ⟨rfl, hw⟩
      subst hw
      go_wp2_with fail
    all_goals
      clear hqp
      refine (zzLast M4 w0 (if_pos rfl) R4).mono ?_
      rintro e w7 ⟨rfl, hw⟩
      subst hw
      go_wp2
      go_loop [18] (fun i => ∃ k : Nat, k ≤ lm ∧ i = .int .i64 k) (fun i => lm - (intOf i).toNat)
      case atStart => exact ⟨0, Nat.zero_le _, rfl⟩
      case round =>
        obtain ⟨k, hk, rfl⟩ := hrel
        by_cases hlt : k < lm
        · first
          | (exfalso; have := HL0.out; omega)
          | (obtain ⟨b, off, e, hc⟩ := (HR.out.mono hb34 HO.out).2 (by omega)
             cases e
             have hcell := hc k hlt
             rw [Nat.zero_add] at hcell
             clear hc
             obtain ⟨z, hz⟩ : ∃ z, z = zs.getD k 0 := ⟨_, rfl⟩
             rw [← hz] at hcell
             have wz : (Lit.int .u64 z).wf = true := by rw [hz]; exact wf_getD HZ.out (by rw [← HR.out.1]; exact hlt)
             clear hz
             go_wp2_with fail
             refine (zzEnded_is M4 (v := false) w0 wz (if_pos rfl) R4 rfl).mono ?_
             rintro e w8 ⟨rfl, hw⟩
             subst hw
             go_wp2
             go_round
             case rel => exact ⟨k + 1, by omega, by go_num⟩
             case measure => simp [intOf]; omega)
        · go_wp2
          go_loop [19, 20, 21] (fun i _ _ => ∃ j : Nat, j ≤ lg ∧ i = .int .i64 j) (fun i _ _ => lg - (intOf i).toNat)
          case atStart => exact ⟨0, Nat.zero_le _, rfl⟩
          case round =>
            obtain ⟨j, hj, rfl⟩ := hrel
            by_cases hlt2 : j < lg
            · obtain ⟨b, off, e, hc⟩ := HP.out.2 (by omega)
              have hcell := (hball.cell (p := ⟨b, off + j, none⟩) (block_of_cell (a := ⟨b, off + j, none⟩) (hc j hlt2))).trans (hc j hlt2)
              clear hc
              obtain ⟨z, hz⟩ : ∃ z, z = ps.getD j 0 := ⟨_, rfl⟩
              rw [← hz] at hcell
              have wz : (Lit.int .u64 z).wf = true := by rw [hz]; exact wf_getD HW.out (by rw [← HP.out.1]; exact hlt2)
              clear hz
              subst e
              go_wp2_with fail
              refine (zzEnded_is M4 (v := false) w0 wz (if_pos rfl) R4 rfl).mono ?_
              rintro e w8 ⟨rfl, hw⟩
              subst hw
              go_wp2
              go_round
              case rel => exact ⟨j + 1, by omega, by go_num⟩
              case measure => simp [intOf]; omega
            · go_wp2
              go_ret
              exact ⟨rfl, hball⟩

end Go.Proofs.Qxb6612280a
