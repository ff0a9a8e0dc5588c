/-
  THE WALK OF FnReleaseScript (5).
-/
import Derived.Test.Qxb6612420aCss
namespace Go.Proofs.Qxb6612420a
open Go.RowKit

theorem hidden {p : Prop} (h : p) : Hid p := h

theorem bytes16 (a : Option Addr) (len cap : Nat) (w : World) (hm : len ≤ maxLen) :
    Calls Try.prog 16 #[.slice a len cap] w fun e w' => e = .returned (.bool (decide (len ≤ 1048576))) ∧ w' = w := by
  unfold maxLen at hm
  by_cases h : len ≤ 1048576
  · go_enter Try.func16, Try.ntmps16
    go_wp2
    go_ret
    exact ⟨ret_bool (decide_eq_true h).symm, rfl⟩
  · go_enter Try.func16, Try.ntmps16
    go_wp2
    go_ret
    exact ⟨ret_bool (decide_eq_false h).symm, rfl⟩

/-- Too long: true at once. -/
theorem script_long (a : Option Addr) (len cap : Nat) (w : World) (hm : len ≤ maxLen) (h : 4096 < len) :
    Calls Try.prog 5 #[.slice a len cap] w fun e w' => e = .returned (.bool true) ∧ Below w.heap.size w w' := by
  have C := bytes16 a len cap w hm
  unfold maxLen at hm
  by_cases h2 : len ≤ 1048576
  · rw [decide_eq_true h2] at C
    go_enter Try.func5, Try.ntmps5
    go_wp2_with fail
    refine C.mono ?_
    rintro e w' ⟨rfl, hw⟩
    subst hw
    clear C
    go_wp2
    go_ret
    exact ⟨rfl, Below.refl _ _⟩
  · rw [decide_eq_false h2] at C
    go_enter Try.func5, Try.ntmps5
    go_wp2_with fail
    refine C.mono ?_
    rintro e w' ⟨rfl, hw⟩
    subst hw
    clear C
    go_wp2
    go_ret
    exact ⟨rfl, Below.refl _ _⟩

set_option maxHeartbeats 2000000 in
theorem script_main (a : Option Addr) (n cap : Nat) (zs : List Int) (w : World) (hn : n ≤ 4096) (hr : Row .i64 w a n zs) :
    Calls Try.prog 5 #[.slice a n cap] w fun e w' => e = .returned (.bool true) ∧ Below w.heap.size w w' := by
  have C := bytes16 a n cap w (by unfold maxLen; omega)
  rw [decide_eq_true (by omega : n ≤ 1048576)] at C
  have HR := hidden hr
  clear hr
  have HL : Hid (n = zs.length) := HR.out.1
  go_enter Try.func5, Try.ntmps5
  go_wp2_with fail
  refine C.mono ?_
  rintro e w' ⟨rfl, hw⟩
  subst hw
  clear C
  go_wp2
  go_loop [4, 5] (fun t i => ∃ k : Nat, k ≤ n ∧ i = .int .i64 k ∧ t = .int .i64 (sumI (zs.take k)) ∧ Okay zs k) (fun _ i => n - (intOf i).toNat)
  case atStart => exact ⟨0, Nat.zero_le _, rfl, rfl, fun j hj => by omega⟩
  case round =>
    obtain ⟨k, hk, rfl, rfl, hok⟩ := hrel
    have OK := hidden hok
    clear hok
    by_cases hlt : k < n
    · obtain ⟨b, off, e, hc⟩ := HR.out.2 (by omega)
      have hcell := hc k hlt
      clear hc
      have hkz : k < zs.length := by rw [← HL.out]; exact hlt
      have hbd := sumI_bounds (Nat.le_of_lt hkz) OK.out
      have HS := hidden (sumI_take_succ zs k hkz)
      clear hkz
      obtain ⟨z, hz⟩ : ∃ z, z = zs.getD k 0 := ⟨_, rfl⟩
      rw [← hz] at hcell
      have HZ := hidden hz
      clear hz
      obtain ⟨s, hs⟩ : ∃ s, s = sumI (zs.take k) := ⟨_, rfl⟩
      rw [← hs] at hbd
      rw [← hs]
      have HT := hidden hs
      clear hs
      obtain ⟨hs0, hs1⟩ := hbd
      have hs2 : s ≤ 68719476736 := by omega
      clear hs1
      subst e
      by_cases h0 : 0 ≤ z
      · by_cases h1 : z ≤ 16777215
        · go_wp2
          go_round
          case rel => exact ⟨k + 1, by omega, by go_num, by rw [HS.out, ← HT.out, ← HZ.out], OK.out.succ (by rw [← HZ.out]; exact h0) (by rw [← HZ.out]; exact h1)⟩
          case measure => simp [intOf]; omega
        · go_wp2
          go_ret
          exact ⟨rfl, Below.refl _ _⟩
      · go_wp2
        go_ret
        exact ⟨rfl, Below.refl _ _⟩
    · have hkn : k = n := by omega
      have ezs : zs.take k = zs := List.take_of_length_le (by rw [← HL.out]; omega)
      have OKn : Hid (Okay zs n) := by show Okay zs n; rw [← hkn]; exact OK.out
      obtain ⟨T, hT⟩ : ∃ T, T = sumI (zs.take k) := ⟨_, rfl⟩
      rw [← hT]
      rw [ezs] at hT
      have HT := hidden hT
      have hTb := sumI_bounds (zs := zs) (k := n) (by rw [← HL.out]; exact Nat.le_refl _) OKn.out
      rw [List.take_of_length_le (by rw [← HL.out]; exact Nat.le_refl _), ← hT] at hTb
      have hT0 : 0 ≤ T := hTb.1
      have hT1 : T ≤ 68719476736 := by have := hTb.2; omega
      clear hT hTb ezs hkn OK
      go_wp2_with fail
      refine (newReader _).mono ?_
      rintro e w2 ⟨rfl, R2, hb2, hs2⟩
      have hl2 : w'.heap.size < w2.heap.size := by omega
      clear hs2
      go_wp2_with fail
      refine (zzSetHeld R2 T).mono ?_
      rintro e w3 ⟨rfl, R3, hb3, hs3⟩
      have hl3 : w'.heap.size < w3.heap.size := by omega
      clear hs3
      obtain ⟨w4, hmk, hm1, hm2, hm3, hm4⟩ := make_css n hn w3
      have R4 := R3.of_block (hm4.block _ hl3)
      have S4 := css_made (zs := zs) hm1 hm2 hm3
      have hb4 : Below w'.heap.size w' w4 := (hb2.trans hb3).trans (hm4.mono (by omega))
      clear hm1 hm2 hm3 hm4 hb2 hb3 R2 R3
      go_wp2
      go_loopw [8, 9] (fun i _ wr => ∃ (j : Nat) (cb : Nat → Nat), j ≤ n ∧ i = .int .i64 j ∧ Css wr w3.heap.size n j zs cb ∧ Rd wr w'.heap.size T ∧ Below w'.heap.size w' wr) (fun i _ _ => n - (intOf i).toNat)
      case atStart => exact ⟨0, _, Nat.zero_le _, rfl, S4, R4, hb4⟩
      case round =>
        clear S4 R4 hb4 hmk
        obtain ⟨j, cb, hj, rfl, S, R, hb⟩ := hrel
        by_cases hjn : j < n
        · obtain ⟨b, off, e, hc⟩ := HR.out.2 (by omega)
          have hcell := (hb.cell (p := ⟨b, off + j, none⟩) (block_of_cell (a := ⟨b, off + j, none⟩) (hc j hjn))).trans (hc j hjn)
          have hz01 := OKn.out j hjn
          clear hc
          obtain ⟨z, hz⟩ : ∃ z, z = zs.getD j 0 := ⟨_, rfl⟩
          rw [← hz] at hcell hz01
          have HZ := hidden hz
          clear hz
          obtain ⟨hz0, hz1⟩ := hz01
          have hsl := S.lt
          have hbl : b < wr.heap.size := block_of_cell hcell
          subst e
          by_cases hp : 0 < z
          · have hbx := below_box wr (.cells #[.int .u8 ((j : Int) % 256)] 5)
            have S' := S.kept hbx
            have R' := R.of_block (hbx.block _ (by omega))
            go_wp2_with fail
            refine (newCs _ _ _ _ _).mono ?_
            rintro e w5 ⟨rfl, C5, hb5, hs5⟩
            have hl5 : (wr.alloc (.cells #[.int .u8 ((j : Int) % 256)] 5)).heap.size < w5.heap.size := by omega
            clear hs5
            have hcell5 := (S'.kept hb5).rest j (Nat.le_refl _) hjn
            have hfr5 := (S'.kept hb5).free j
            have P0 := S'.put hjn (HZ.out ▸ C5) hb5 hl5
            rw [size_alloc'] at P0
            have P := hidden P0
            have hl6 : wr.heap.size + 1 < w5.heap.size := by rw [size_alloc'] at hl5; exact hl5
            have R5 : Hid (Rd (w5.setCell ⟨w3.heap.size, j, none⟩ (.pointer (some ⟨wr.heap.size + 1, 0, none⟩))) w'.heap.size T) := by
              show Rd _ _ _
              exact (R'.of_block (hb5.block _ (by rw [size_alloc']; omega))).of_block (Below.heap_setCell _ _ _ _ (by simp; omega))
            have hb6 : Below w'.heap.size w' (w5.setCell ⟨w3.heap.size, j, none⟩ (.pointer (some ⟨wr.heap.size + 1, 0, none⟩))) := (hb.trans ((hbx.trans (hb5.mono (by rw [size_alloc']; omega))).mono (by omega))).setCell (by simp; omega) _
            clear P0 hl5 hbx S' R' S R hb5 C5
            go_wp2
            go_roundw
            case rel => exact ⟨j + 1, _, by omega, by go_num, P.out, R5.out, hb6⟩
            case measure => simp [intOf]; omega
          · go_wp2_with fail
            refine (newCs _ _ _ _ _).mono ?_
            rintro e w5 ⟨rfl, C5, hb5, hs5⟩
            have hl5 : wr.heap.size < w5.heap.size := by omega
            clear hs5
            have hcell5 := (S.kept hb5).rest j (Nat.le_refl _) hjn
            have hfr5 := (S.kept hb5).free j
            have P := hidden (S.put hjn (HZ.out ▸ C5) hb5 hl5)
            have R5 : Hid (Rd (w5.setCell ⟨w3.heap.size, j, none⟩ (.pointer (some ⟨wr.heap.size, 0, none⟩))) w'.heap.size T) := by
              show Rd _ _ _
              exact (R.of_block (hb5.block _ (by omega))).of_block (Below.heap_setCell _ _ _ _ (by simp; omega))
            have hb6 : Below w'.heap.size w' (w5.setCell ⟨w3.heap.size, j, none⟩ (.pointer (some ⟨wr.heap.size, 0, none⟩))) := (hb.trans (hb5.mono (by omega))).setCell (by simp; omega) _
            go_wp2
            go_roundw
            case rel => exact ⟨j + 1, _, by omega, by go_num, P.out, R5.out, hb6⟩
            case measure => simp [intOf]; omega
        · have hjn' : j = n := by omega
          have L0 : Left wr w3.heap.size n 0 zs cb := by
            have S' := S
            rw [hjn'] at S'
            exact S'.all
          have hrs : w'.heap.size < w3.heap.size := hl3
          have hq := fun (w : World) => run_neq_slice_nil_any (P := Try.prog) w 22 5 none 0 0 0 0 Try.underlying22
          clear S hjn'
          go_wp2
          go_loopw [10, 11, 12] (fun r i _ wv => ∃ m : Nat, m ≤ n ∧ i = .int .i64 m ∧ r = .int .i64 (T - sumI (zs.take m)) ∧ Left wv w3.heap.size n m zs cb ∧ Rd wv w'.heap.size (T - sumI (zs.take m)) ∧ Below w'.heap.size w' wv) (fun _ i _ _ => n - (intOf i).toNat)
          case atStart => exact ⟨0, Nat.zero_le _, rfl, by simp [sumI], L0, by simpa [sumI] using R, hb⟩
          case round =>
            clear L0 R hb
            obtain ⟨m, hm, rfl, rfl, L, R, hb⟩ := hrel
            by_cases hmn : m < n
            · obtain ⟨b, off, e, hc⟩ := HR.out.2 (by omega)
              have hcw := hc m hmn
              have hcell := (hb.cell (p := ⟨b, off + m, none⟩) (block_of_cell (a := ⟨b, off + m, none⟩) hcw)).trans hcw
              have hbl : b < w'.heap.size := block_of_cell hcw
              have hz01 := OKn.out m hmn
              clear hc hcw
              have hmz : m < zs.length := by rw [← HL.out]; exact hmn
              have hs1 := sumI_take_succ zs m hmz
              have hle := sumI_le (zs := zs) (by rw [← HL.out]; exact OKn.out) (d := zs.length - (m + 1)) (k := m + 1) (by omega)
              have hbd := sumI_bounds (zs := zs) (k := m) (by omega) (fun j hj => OKn.out j (by omega))
              obtain ⟨aa, ll, cc, c⟩ := L.cs m (Nat.le_refl _) hmn
              have hslot := L.slot m hmn
              obtain ⟨z, hz⟩ : ∃ z, z = zs.getD m 0 := ⟨_, rfl⟩
              rw [← hz] at hcell hz01 hs1 c
              rw [hs1, ← HT.out] at hle
              have HS := hidden hs1
              obtain ⟨s, hs⟩ : ∃ s, s = sumI (zs.take m) := ⟨_, rfl⟩
              rw [← hs] at hle hbd R
              rw [← hs]
              have HSS := hidden hs
              clear hz hs hs1 hmz
              obtain ⟨hz0, hz1⟩ := hz01
              have hs0 := hbd.1
              clear hbd
              subst e
              go_wp2_with fail
              go_quiet ((go_at_call 19; exact Calls.quiet_of_same (room_any (c.of_block rfl))))
              go_wp2_with fail
              refine (zzRelease (w := wr.drewN nq) (R.of_block rfl) (c.of_block rfl) hz0 (by omega) (by omega)).mono ?_
              rintro e w8 ⟨rfl, L8⟩
              have hlo := L.lo m hmn
              have hb8 : Below w'.heap.size w' w8 := hb.trans (Below.trans (b := wr.drewN nq) ⟨rfl, rfl, rfl, Nat.le_refl _, fun _ _ => rfl⟩ (L8.below (Nat.le_refl _) (by omega)))
              have hcell8 : w8.cell? ⟨b, off + m, none⟩ = some (.int .i64 z) := by
                rw [World.cell?_of_block (w := wr) (L8.oth b (by omega) (by omega))]
                exact hcell
              have L9 := hidden (Left.next (L.heap (w' := wr.drewN nq) rfl) hmn L8 hrs)
              clear L hb hcell c R hslot
              go_wp2_with fail
              refine (held_any L8.rd).mono ?_
              rintro e w9 ⟨rfl, hw⟩
              subst hw
              go_wp2_with fail
              refine (room_any L8.cs).mono ?_
              rintro e w9 ⟨rfl, hw⟩
              subst hw
              go_wp2_with fail
              refine (payload_any L8.cs).mono ?_
              rintro e w9 ⟨rfl, hw⟩
              subst hw
              go_wp2
              go_roundw
              case rel =>
                have hsum : T - s - z = T - sumI (zs.take (m + 1)) := by rw [HS.out, ← HSS.out]; omega
                exact ⟨m + 1, by omega, by go_num, by rw [hsum], L9.out, by rw [← hsum]; exact L8.rd, hb8⟩
              case measure => simp [intOf]; omega
            · have hmn' : m = n := by omega
              have R0 : Rd wr w'.heap.size 0 := by
                have R' := R
                rw [hmn', List.take_of_length_le (by rw [← HL.out]; exact Nat.le_refl _), ← HT.out, Int.sub_self] at R'
                exact R'
              clear R L hmn'
              go_wp2_with fail
              refine (held_any R0).mono ?_
              rintro e w9 ⟨rfl, hw⟩
              subst hw
              go_wp2
              go_ret
              exact ⟨rfl, hb⟩

end Go.Proofs.Qxb6612420a
