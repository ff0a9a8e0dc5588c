/-
  THE WALK OF FnEndLastMatchesModel (3), a present peer whose last incarnation is not 0.
-/
import Derived.Test.Qxb6612280aModelP
namespace Go.Proofs.Qxb6612280a
open Go.RowKit Go.Maps

set_option maxHeartbeats 2000000 in
/-- A present peer, its last incarnation not 0. -/
theorem model_last (a0 a1 : Int) (a3 : Int) (v3 : Bool) (w3 : (Lit.int .u64 a3).wf = true) (e1 : (a3 != 0) = true) (am : Option Addr) (lm cm : Nat) (ag : Option Addr) (lg cg : Nat) (zs ps : List Int) (w : World) (w0 : (Lit.int .i64 a0).wf = true) (w1 : (Lit.int .i64 a1).wf = true) (h1 : lm ≤ 4096) (h2 : lg ≤ 4096)
    (hr : Row .u64 w am lm zs) (hz : inB zs 0 = false) (hn : am = none → lm = 0 ∧ cm = 0) (hwz : ∀ z ∈ zs, (Lit.int .u64 z).wf = true) (hp : Row .u64 w ag lg ps) (hwp : ∀ z ∈ ps, (Lit.int .u64 z).wf = true) (hi3 : inB zs a3 = v3) :
    Calls Try.prog 3 #[.int .i64 a0, .int .i64 a1, .bool true, .int .u64 a3, .slice am lm cm, .slice ag lg cg] w fun e w' => e = .returned (.bool true) ∧ Below w.heap.size w w' := by
  have C := bytes7_any a0 a1 true a3 am lm cm ag lg cg w (by unfold maxLen; omega) (by unfold maxLen; omega)
  have C2 := inU64_any am lm cm zs 0 w hr (by omega)
  rw [hz] at C2
  clear hz
  obtain ⟨ar, capr, wr, hrr, hbr, holdr, hcase⟩ := ready_mk Try.underlying23 info22 hr (by omega) hn
  clear hr hn
  have hq := fun (w : World) (a : Option Addr) (n c : Nat) => run_neq_slice_nil_any (P := Try.prog) w 23 22 a n c 0 0 Try.underlying23
  have C3 := new_present a0 a3 ar lm capr zs wr w0 hrr (by omega) hwz holdr
  have HI3 := hidden hi3
  have HLV := hidden (show liveB a3 (inB zs) = !v3 by unfold liveB; rw [e1, hi3]; rfl)
  clear hi3
  have HR := hidden hrr
  have HO := hidden holdr
  have HP := hidden hp
  have HZ := hidden hwz
  have HW := hidden hwp
  clear hrr holdr hp hwz hwp
  rcases hcase with ⟨rfl, hl0, rfl, rfl, rfl, hww⟩ | ⟨ad, w1', rfl, rfl, hcap, hmk, hcp⟩
  case' inl =>
    have HL0 := hidden hl0
    clear hl0
    subst hww
  case' inr =>
    have hcap' := hcap.symm
    subst hcap'
  all_goals
    go_enter Try.func3, Try.ntmps3
    go_wp2_with fail
    refine C.mono ?_
    rintro e w' ⟨v, rfl, hv, hw⟩
    subst hw
    obtain rfl := hv (by omega) (by omega)
    clear C hv
    go_wp2_with fail
    refine C2.mono ?_
    rintro e w' ⟨rfl, hw⟩
    subst hw
    clear C2
    go_wp2_with fail
    refine C3.mono ?_
    rintro e wx ⟨rfl, M3, R3, hb3⟩
    clear C3
    go_wp2_with fail
    have C4 := zzEndLast_known M3 w0 w3 (if_pos rfl) R3 (by unfold maxLen; omega) (by omega)
    rw [HLV.out] at C4
    refine C4.mono ?_
    rintro e w4 ⟨rfl, cb4, m4, hm4, M4, R4, hb4⟩
    clear C4 R3 hm4
    have hb34 := hb3.trans hb4
    have hball := hbr.trans (hb34.mono hbr.size)
    clear hq hbr hb3 hb4 M3
    try clear hmk hcp
    go_wp2_with fail
    refine (inU64_is _ HI3.out (HR.out.mono hb34 HO.out) (by omega)).mono ?_
    rintro e w5 ⟨rfl, hw⟩
    subst hw
    cases v3
    all_goals
     go_wp2_with fail
     refine (zzHasRuns_is M4 (v := true) w0 (by simp)).mono ?_
     rintro e w5 ⟨rfl, hw⟩
     subst hw
     cases hqp : (a1 != a0)
     case' false => go_wp2_with fail
     case' true =>
       go_wp2_with fail
       refine (zzHasRuns_is M4 (v := false) w1 (by simp at hqp; simp [hqp])).mono ?_
       rintro e w6 ⟨rfl, hw⟩
       subst hw
       go_wp2_with fail
     all_goals
       clear hqp
       refine (zzLast M4 w0 (if_pos rfl) R4).mono ?_
       rintro e w7 ⟨rfl, hw⟩
       subst hw
       go_wp2_with fail
       refine (zzEnded_is M4 w0 w3 (if_pos rfl) R4 (endedB_last _ e1)).mono ?_
       rintro e w7 ⟨rfl, hw⟩
       subst hw
       go_wp2
       go_loop [18] (fun i => ∃ k : Nat, k ≤ lm ∧ i = .int .i64 k) (fun i => lm - (intOf i).toNat)
       case atStart => exact ⟨0, Nat.zero_le _, rfl⟩
       case round =>
         obtain ⟨k, hk, rfl⟩ := hrel
         by_cases hlt : k < lm
         · first
           | (exfalso; have := HL0.out; omega)
           | (obtain ⟨b, off, e, hc⟩ := (HR.out.mono hb34 HO.out).2 (by omega)
              cases e
              have hcell := hc k hlt
              rw [Nat.zero_add] at hcell
              clear hc
              obtain ⟨z, hz⟩ : ∃ z, z = zs.getD k 0 := ⟨_, rfl⟩
              rw [← hz] at hcell
              have wz : (Lit.int .u64 z).wf = true := by rw [hz]; exact wf_getD HZ.out (by rw [← HR.out.1]; exact hlt)
              have HI := hidden (show inB zs z = true by rw [hz]; exact inB_getD zs (by rw [← HR.out.1]; exact hlt))
              clear hz
              go_wp2_with fail
              refine (zzEnded_is M4 (v := true) w0 wz (if_pos rfl) R4 (endedB_of_in HI.out)).mono ?_
              rintro e w8 ⟨rfl, hw⟩
              subst hw
              go_wp2
              go_round
              case rel => exact ⟨k + 1, by omega, by go_num⟩
              case measure => simp [intOf]; omega)
         · go_wp2
           go_loop [19, 20, 21] (fun i _ _ => ∃ j : Nat, j ≤ lg ∧ i = .int .i64 j) (fun i _ _ => lg - (intOf i).toNat)
           case atStart => exact ⟨0, Nat.zero_le _, rfl⟩
           case round =>
             obtain ⟨j, hj, rfl⟩ := hrel
             by_cases hlt2 : j < lg
             · obtain ⟨b, off, e, hc⟩ := HP.out.2 (by omega)
               have hcell := (hball.cell (p := ⟨b, off + j, none⟩) (block_of_cell (a := ⟨b, off + j, none⟩) (hc j hlt2))).trans (hc j hlt2)
               clear hc
               obtain ⟨z, hz⟩ : ∃ z, z = ps.getD j 0 := ⟨_, rfl⟩
               rw [← hz] at hcell
               have wz : (Lit.int .u64 z).wf = true := by rw [hz]; exact wf_getD HW.out (by rw [← HP.out.1]; exact hlt2)
               clear hz
               subst e
               cases hb : inB zs z
               case' true =>
                 have HB := hidden hb
                 clear hb
                 go_wp2_with fail
                 refine (inU64_is _ HB.out (HR.out.mono hb34 HO.out) (by omega)).mono ?_
                 rintro e w8 ⟨rfl, hw⟩
                 subst hw
                 go_wp2_with fail
                 refine (zzEnded_is M4 w0 wz (if_pos rfl) R4 (endedB_of_in HB.out)).mono ?_
               case' false =>
                 have HB := hidden hb
                 clear hb
                 cases hx : (z == a3)
                 case' true =>
                   go_wp2_with fail
                   refine (inU64_is _ HB.out (HR.out.mono hb34 HO.out) (by omega)).mono ?_
                   rintro e w8 ⟨rfl, hw⟩
                   subst hw
                   go_wp2_with fail
                   refine (zzEnded_is M4 w0 wz (if_pos rfl) R4 (endedB_is e1 hx)).mono ?_
                 case' false =>
                   go_wp2_with fail
                   refine (inU64_is _ HB.out (HR.out.mono hb34 HO.out) (by omega)).mono ?_
                   rintro e w8 ⟨rfl, hw⟩
                   subst hw
                   go_wp2_with fail
                   refine (zzEnded_is M4 w0 wz (if_pos rfl) R4 (endedB_not HB.out hx)).mono ?_
               all_goals
                 rintro e w9 ⟨rfl, hw⟩
                 subst hw
                 go_wp2
                 go_round
                 case rel => exact ⟨j + 1, by omega, by go_num⟩
                 case measure => simp [intOf]; omega
             · go_wp2
               go_ret
               exact ⟨rfl, hball⟩

end Go.Proofs.Qxb6612280a
