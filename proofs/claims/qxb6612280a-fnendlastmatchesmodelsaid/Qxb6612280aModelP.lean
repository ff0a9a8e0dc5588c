/-
  THE WALK OF FnEndLastMatchesModel (3), a present peer.
-/
import Derived.Test.Qxb6612280aModel
namespace Go.Proofs.Qxb6612280a
open Go.RowKit Go.Maps

theorem endedB_of_in {last : Int} {E : Int → Bool} {x : Int} (h : E x = true) : endedB last E x = true := by
  unfold endedB
  rw [h]
  rfl

theorem endedB_zero_at {E : Int → Bool} {x : Int} {v : Bool} (h : E x = v) : endedB 0 E x = v := by
  rw [endedB_zero]
  exact h

theorem endedB_not {last : Int} {E : Int → Bool} {x : Int} (h : E x = false) (hx : (x == last) = false) : endedB last E x = false := by
  unfold endedB
  have : (last == x) = false := by
    have h1 : ¬ x = last := by simpa using hx
    simpa using fun e => h1 e.symm
  rw [h, this]
  simp

theorem endedB_is {last : Int} {E : Int → Bool} {x : Int} (h0 : (last != 0) = true) (hx : (x == last) = true) : endedB last E x = true := by
  have h1 : x = last := by simpa using hx
  rw [h1]
  exact endedB_last E h0

theorem inB_getD (zs : List Int) {k : Nat} (hk : k < zs.length) : inB zs (zs.getD k 0) = true := inB_hit zs _ k hk (by simp)

set_option maxHeartbeats 2000000 in
/-- A present peer, its last incarnation 0. -/
theorem model_last0 (a0 a1 : Int) (am : Option Addr) (lm cm : Nat) (ag : Option Addr) (lg cg : Nat) (zs ps : List Int) (w : World) (w0 : (Lit.int .i64 a0).wf = true) (w1 : (Lit.int .i64 a1).wf = true) (h1 : lm ≤ 4096) (h2 : lg ≤ 4096)
    (hr : Row .u64 w am lm zs) (hz : inB zs 0 = false) (hn : am = none → lm = 0 ∧ cm = 0) (hwz : ∀ z ∈ zs, (Lit.int .u64 z).wf = true) (hp : Row .u64 w ag lg ps) (hwp : ∀ z ∈ ps, (Lit.int .u64 z).wf = true) :
    Calls Try.prog 3 #[.int .i64 a0, .int .i64 a1, .bool true, .int .u64 0, .slice am lm cm, .slice ag lg cg] w fun e w' => e = .returned (.bool true) ∧ Below w.heap.size w w' := by
  have C := bytes7_any a0 a1 true 0 am lm cm ag lg cg w (by unfold maxLen; omega) (by unfold maxLen; omega)
  have C2 := inU64_any am lm cm zs 0 w hr (by omega)
  rw [hz] at C2
  clear hz
  obtain ⟨ar, capr, wr, hrr, hbr, holdr, hcase⟩ := ready_mk Try.underlying23 info22 hr (by omega) hn
  clear hr hn
  have hq := fun (w : World) (a : Option Addr) (n c : Nat) => run_neq_slice_nil_any (P := Try.prog) w 23 22 a n c 0 0 Try.underlying23
  have C3 := new_present a0 0 ar lm capr zs wr w0 hrr (by omega) hwz holdr
  have HR := hidden hrr
  have HO := hidden holdr
  have HP := hidden hp
  have HZ := hidden hwz
  have HW := hidden hwp
  clear hrr holdr hp hwz hwp
  rcases hcase with ⟨rfl, hl0, rfl, rfl, rfl, hww⟩ | ⟨ad, w1', rfl, rfl, hcap, hmk, hcp⟩
  case' inl =>
    have HL0 := hidden hl0
    clear hl0
    subst hww
  case' inr =>
    have hcap' := hcap.symm
    subst hcap'
  all_goals
    go_enter Try.func3, Try.ntmps3
    go_wp2_with fail
    refine C.mono ?_
    rintro e w' ⟨v, rfl, hv, hw⟩
    subst hw
    obtain rfl := hv (by omega) (by omega)
    clear C hv
    go_wp2_with fail
    refine C2.mono ?_
    rintro e w' ⟨rfl, hw⟩
    subst hw
    clear C2
    go_wp2_with fail
    refine C3.mono ?_
    rintro e w3 ⟨rfl, M3, R3, hb3⟩
    clear C3
    go_wp2_with fail
    have C4 := zzEndLast_known M3 w0 (by decide) (if_pos rfl) R3 (by unfold maxLen; omega) (by omega)
    rw [show liveB 0 (inB zs) = false from rfl] at C4
    refine C4.mono ?_
    rintro e w4 ⟨rfl, cb4, m4, hm4, M4, R4, hb4⟩
    clear C4 R3 hm4
    have hb34 := hb3.trans hb4
    have hball := hbr.trans (hb34.mono hbr.size)
    clear hq hbr hb3 hb4 M3
    try clear hmk hcp
    go_wp2_with fail
    refine (zzHasRuns_is M4 (v := true) w0 (by simp)).mono ?_
    rintro e w5 ⟨rfl, hw⟩
    subst hw
    cases hqp : (a1 != a0)
    case' false => go_wp2_with fail
    case' true =>
      go_wp2_with fail
      refine (zzHasRuns_is M4 (v := false) w1 (by simp at hqp; simp [hqp])).mono ?_
      rintro e w6 ⟨rfl, hw⟩
      subst hw
      go_wp2_with fail
    all_goals
      clear hqp
      refine (zzLast M4 w0 (if_pos rfl) R4).mono ?_
      rintro e w7 ⟨rfl, hw⟩
      subst hw
      go_wp2
      go_loop [18] (fun i => ∃ k : Nat, k ≤ lm ∧ i = .int .i64 k) (fun i => lm - (intOf i).toNat)
      case atStart => exact ⟨0, Nat.zero_le _, rfl⟩
      case round =>
        obtain ⟨k, hk, rfl⟩ := hrel
        by_cases hlt : k < lm
        · first
          | (exfalso; have := HL0.out; omega)
          | (obtain ⟨b, off, e, hc⟩ := (HR.out.mono hb34 HO.out).2 (by omega)
             cases e
             have hcell := hc k hlt
             rw [Nat.zero_add] at hcell
             clear hc
             obtain ⟨z, hz⟩ : ∃ z, z = zs.getD k 0 := ⟨_, rfl⟩
             rw [← hz] at hcell
             have wz : (Lit.int .u64 z).wf = true := by rw [hz]; exact wf_getD HZ.out (by rw [← HR.out.1]; exact hlt)
             have HI := hidden (show inB zs z = true by rw [hz]; exact inB_getD zs (by rw [← HR.out.1]; exact hlt))
             clear hz
             go_wp2_with fail
             refine (zzEnded_is M4 (v := true) w0 wz (if_pos rfl) R4 (endedB_of_in HI.out)).mono ?_
             rintro e w8 ⟨rfl, hw⟩
             subst hw
             go_wp2
             go_round
             case rel => exact ⟨k + 1, by omega, by go_num⟩
             case measure => simp [intOf]; omega)
        · go_wp2
          go_loop [19, 20, 21] (fun i _ _ => ∃ j : Nat, j ≤ lg ∧ i = .int .i64 j) (fun i _ _ => lg - (intOf i).toNat)
          case atStart => exact ⟨0, Nat.zero_le _, rfl⟩
          case round =>
            obtain ⟨j, hj, rfl⟩ := hrel
            by_cases hlt2 : j < lg
            · obtain ⟨b, off, e, hc⟩ := HP.out.2 (by omega)
              have hcell := (hball.cell (p := ⟨b, off + j, none⟩) (block_of_cell (a := ⟨b, off + j, none⟩) (hc j hlt2))).trans (hc j hlt2)
              clear hc
              obtain ⟨z, hz⟩ : ∃ z, z = ps.getD j 0 := ⟨_, rfl⟩
              rw [← hz] at hcell
              have wz : (Lit.int .u64 z).wf = true := by rw [hz]; exact wf_getD HW.out (by rw [← HP.out.1]; exact hlt2)
              clear hz
              subst e
              cases hb : inB zs z
              all_goals
                have HB := hidden hb
                clear hb
                go_wp2_with fail
                refine (inU64_is _ HB.out (HR.out.mono hb34 HO.out) (by omega)).mono ?_
                rintro e w8 ⟨rfl, hw⟩
                subst hw
                go_wp2_with fail
                refine (zzEnded_is M4 w0 wz (if_pos rfl) R4 (endedB_zero_at HB.out)).mono ?_
                rintro e w9 ⟨rfl, hw⟩
                subst hw
                go_wp2
                go_round
                case rel => exact ⟨j + 1, by omega, by go_num⟩
                case measure => simp [intOf]; omega
            · go_wp2
              go_ret
              exact ⟨rfl, hball⟩

end Go.Proofs.Qxb6612280a
