/-
  ZZnewMembershipForVacate (16).
-/
import Derived.Test.Qxb6612280aVac
import Derived.Test.Qxb6612280aClone
namespace Go.Proofs.Qxb6612280a
open Go.RowKit Go.Maps

theorem info61 : (Try.prog.info? 61).map (fun i => (i.zero, i.size, i.bytes)) = some (some (.agg #[.slice none 0 0, .slice none 0 0, .int .i64 0, .slice none 0 0, .int .i64 0, .map none, .int .i64 0]), 7, 104) := by kernel_rfl

theorem made_at (k : Nat) : (madeCells (Value.agg #[.slice none 0 0, .slice none 0 0, .int .i64 0, .slice none 0 0, .int .i64 0, .map none, .int .i64 0]).cells ((k + 1) * 7))[k * 7 + 1]? = some (.slice none 0 0) := by
  have h : k * 7 + 1 < (k + 1) * 7 := by omega
  have e : (k * 7 + 1) % 7 = 1 := by omega
  simp [madeCells, Value.cells, h, e]

/-- 'mgs := make([]metagroup, k+1)'. -/
theorem make_mgs (k : Nat) (hk : k ≤ 65536) (w : World) :
    ∃ w1, (Instr.makeSlice 58 (.int .i64 ((k : Int) + 1)) (.int .i64 ((k : Int) + 1))).run Try.prog w = .ok (.slice (some ⟨w.heap.size, 0, none⟩) (k + 1) (k + 1)) w1 ∧
      w1.cell? ⟨w.heap.size, k * 7 + 1, none⟩ = some (.slice none 0 0) ∧ w1.frozen? ⟨w.heap.size, k * 7 + 1, none⟩ = false ∧ w1.heap.size = w.heap.size + 1 ∧ Below w.heap.size w w1 := by
  obtain ⟨i0, h1, h2, h3, h4⟩ := info_parts info61
  have hmk := run_make (P := Try.prog) w 58 61 i0 _ Try.underlying58 h1 h2 .i64 .i64 ((k : Int) + 1) ((k : Int) + 1) (by omega) (by omega) (by rw [h4]; omega) (by omega)
  have e1 : ((k : Int) + 1).toNat = k + 1 := by omega
  rw [e1, h3] at hmk
  refine ⟨_, hmk, cell_of_heap (heap_new w _) (made_at k), frozen_of_heap (heap_new w _), by simp, below_box _ _⟩

theorem store_setCell_below {w : World} {B : Nat} (a : Addr) (v : Value) (h : B ≤ a.block) : Below B w (w.setCell a v) := (Below.refl _ _).setCell h v

/-- The membership, laid over a world in which its parts lie. -/
theorem vac_made {wv W : World} {B mgb k gb vb ng nv : Nat} {am : Option Addr} {lm cm : Nat} {ms gs : List Int} {fv : Int → Option Value} (cs cs' : Array Value) (t t' : TypeId) (s : Nat) (hs : s = wv.heap.size)
    (h0 : cs'[0]? = some (.slice (some ⟨mgb, 0, none⟩) (k + 1) (k + 1))) (g0 : cs[0]? = some (.pointer (some ⟨s, 0, none⟩))) (g4 : cs[4]? = some (.map (some gb))) (g7 : cs[7]? = some (.map (some vb)))
    (hmem : wv.cell? ⟨mgb, k * 7 + 1, none⟩ = some (.slice am lm cm)) (hrow : Row .i64 wv am lm ms) (hg : MapF wv Try.prog 3 .i64 gb ng (fun x => if inB gs x = true then some (.bool true) else none)) (hv : MapF wv Try.prog 3 .i64 vb nv fv) (hB : B ≤ vb) (hne : gb ≠ vb)
    (hW : W = (((wv.alloc (.cells cs' t')).alloc (.map #[] 0)).alloc (.chan 0 #[] false 0 0 false)).alloc (.cells cs t)) :
    Vac W B (s + 1 + 1 + 1) s mgb k gb vb ng nv am lm cm ms gs fv ∧ Below wv.heap.size wv W := by
  subst hs
  have hbel : Below wv.heap.size wv W := by
    rw [hW]
    exact ((((Below.refl _ _).alloc (Nat.le_refl _) _).alloc (by simp) _).alloc (by simp; omega) _).alloc (by simp; omega) _
  have e3 : (((wv.alloc (.cells cs' t')).alloc (.map #[] 0)).alloc (.chan 0 #[] false 0 0 false)).heap.size = wv.heap.size + 1 + 1 + 1 := by simp
  have n3 : W.heap[wv.heap.size + 1 + 1 + 1]? = some (.cells cs t) := by rw [hW, ← e3]; exact heap_new _ _
  have n0 : W.heap[wv.heap.size]? = some (.cells cs' t') := by
    rw [hW, heap_old _ _ _ (by rw [e3]; omega), heap_old _ _ _ (by simp; omega), heap_old _ _ _ (by simp)]
    exact heap_new _ _
  have cell : ∀ {a : Addr} {v : Value}, wv.cell? a = some v → W.cell? a = some v := fun {a v} h => (hbel.cell (block_of_cell h)).trans h
  refine ⟨⟨cell_of_heap n3 g0, cell_of_heap n3 g4, cell_of_heap n3 g7, cell_of_heap n0 h0, cell hmem, ?_, hg.of_block (hbel.block _ hg.lt), hv.of_block (hbel.block _ hv.lt), hB, hne⟩, hbel⟩
  refine ⟨hrow.1, fun h => ?_⟩
  obtain ⟨b, off, e, hc⟩ := hrow.2 h
  exact ⟨b, off, e, fun i hi => cell (hc i hi)⟩

/-- 'g[z] = true'. -/
theorem gone_put {w : World} {gb n : Nat} {E : Int → Bool} (h : MapF w Try.prog 3 .i64 gb n (fun x => if E x = true then some (.bool true) else none)) (hn : n < maxLen) {z : Int} (hz : (Lit.int .i64 z).wf = true) :
    ∃ w', (Instr.mapUpdate 42 (.map (some gb)) (.int .i64 z) (.bool true)).run Try.prog w = .ok () w' ∧ MapF w' Try.prog 3 .i64 gb (n + 1) (fun x => if (E x || (z == x)) = true then some (.bool true) else none) ∧ w.mapTurned w' gb := by
  obtain ⟨w', hrun, hmap, ht⟩ := h.store Try.underlying3 Try.underlying42 hn hz (.bool true)
  refine ⟨w', hrun, hmap.congr (fun x _ => ?_), ht⟩
  by_cases hx : x = z
  · subst hx; simp
  · have : (z == x) = false := by simpa using fun h => hx h.symm
    simp [hx, this]

/-- The world in which the loop over the gone begins. -/
theorem begun {w w1 : World} {k lm cm : Nat} {am : Option Addr} (W : World) (hcm : w1.cell? ⟨w.heap.size, k * 7 + 1, none⟩ = some (.slice none 0 0)) (hs : w1.heap.size = w.heap.size + 1) (hb : Below w.heap.size w w1)
    (hW : W = (w1.setCell ⟨w.heap.size, k * 7 + 1, none⟩ (.slice am lm cm)).alloc (.map #[] 0)) :
    W.cell? ⟨w.heap.size, k * 7 + 1, none⟩ = some (.slice am lm cm) ∧ Below w.heap.size w W ∧ MapF W Try.prog 3 .i64 w1.heap.size 0 (fun x => if inB [] x = true then some (.bool true) else none) := by
  have e := size_setCell w1 ⟨w.heap.size, k * 7 + 1, none⟩ (.slice am lm cm)
  refine ⟨?_, ?_, ?_⟩
  · rw [hW, World.cell?_of_block (w := w1.setCell ⟨w.heap.size, k * 7 + 1, none⟩ (.slice am lm cm)) (heap_old _ _ _ (by rw [e, hs]; simp))]
    exact World.cell?_setCell_same _ _ _ (u := .slice none 0 0) hcm
  · rw [hW]
    exact (hb.setCell (Nat.le_refl _) _).alloc (by rw [e]; omega) _
  · have m := mapF_made (w1.setCell ⟨w.heap.size, k * 7 + 1, none⟩ (.slice am lm cm)) Try.prog 3 .i64
    rw [e, ← hW] at m
    exact m.congr (fun x _ => by simp [inB])

/-- Where the loop over the gone has ended. -/
structure Filled (w w1 wr : World) (k lm cm : Nat) (am : Option Addr) (n : Nat) (gs : List Int) : Prop where
  mem : wr.cell? ⟨w.heap.size, k * 7 + 1, none⟩ = some (.slice am lm cm)
  bel : Below w.heap.size w wr
  map : MapF wr Try.prog 3 .i64 w1.heap.size n (fun x => if inB gs x = true then some (.bool true) else none)

/-- Its end, none noted. -/
theorem vac_end {w w1 wr : World} {k lm cm : Nat} {am : Option Addr} {n : Nat} {ms gs : List Int} (F : Filled w w1 wr k lm cm am n gs) (hm : Row .i64 w am lm ms) (hmo : ∀ x, am = some x → x.block < w.heap.size)
    (cs cs' : Array Value) (t t' : TypeId) (h0 : cs'[0]? = some (.slice (some ⟨w.heap.size, 0, none⟩) (k + 1) (k + 1))) (g0 : cs[0]? = some (.pointer (some ⟨wr.heap.size + 1, 0, none⟩))) (g4 : cs[4]? = some (.map (some w1.heap.size))) (g7 : cs[7]? = some (.map (some wr.heap.size))) :
    Vac ((((( wr.alloc (.map #[] 0)).alloc (.cells cs' t')).alloc (.map #[] 0)).alloc (.chan 0 #[] false 0 0 false)).alloc (.cells cs t)) w.heap.size (wr.heap.size + 1 + 1 + 1 + 1) (wr.heap.size + 1) w.heap.size k w1.heap.size wr.heap.size n 0 am lm cm ms gs (fun _ => none) ∧
      Below w.heap.size w ((((( wr.alloc (.map #[] 0)).alloc (.cells cs' t')).alloc (.map #[] 0)).alloc (.chan 0 #[] false 0 0 false)).alloc (.cells cs t)) := by
  have hb1 := below_box wr (.map #[] 0)
  have hbs := F.bel.size
  have hbb : Below w.heap.size w (wr.alloc (.map #[] 0)) := F.bel.trans (hb1.mono hbs)
  obtain ⟨V, hb⟩ := vac_made (wv := wr.alloc (.map #[] 0)) (B := w.heap.size) (ms := ms) cs cs' t t' (wr.heap.size + 1) (by simp) h0 g0 g4 g7 ((hb1.cell (block_of_cell F.mem)).trans F.mem) (hm.mono hbb hmo) (F.map.alloc _) (mapF_made wr _ _ _) hbs (by have := F.map.lt; omega) rfl
  exact ⟨V, hbb.trans (hb.mono (by simp; omega))⟩

set_option maxHeartbeats 1000000 in
theorem newV_absent (k : Nat) (hk : k ≤ 65536) (am : Option Addr) (lm cm : Nat) (ms : List Int) (a : Option Addr) (len cap : Nat) (gs : List Int) (w : World) (hm : Row .i64 w am lm ms) (hmo : ∀ x, am = some x → x.block < w.heap.size)
    (hr : Row .i64 w a len gs) (hl : len ≤ 1048576) (hwz : ∀ z ∈ gs, (Lit.int .i64 z).wf = true) (hold : ∀ x, a = some x → x.block < w.heap.size) :
    Calls Try.prog 16 #[.int .i64 (k : Int), .slice am lm cm, .slice a len cap, .bool false] w fun e w' =>
      ∃ sb tb mgb gb vb, e = .returned (.pointer (some ⟨sb, 0, none⟩)) ∧ Vac w' w.heap.size sb tb mgb k gb vb len 0 am lm cm ms gs (fun _ => none) ∧ Below w.heap.size w w' := by
  obtain ⟨hlen, hr⟩ := hr
  have HL : Hid (len = gs.length) := hlen
  clear hlen
  obtain ⟨w1, hmk, hcm, hfm, hs1, hb1⟩ := make_mgs k hk w
  have HS : Hid (w1.heap.size = w.heap.size + 1) := hs1
  clear hs1
  have hmm := @run_makeMap Try.prog
  have hmc := mk40
  have HM : Hid (Row .i64 w am lm ms) := hm
  have HMO : Hid (∀ x, am = some x → x.block < w.heap.size) := hmo
  clear hm hmo
  by_cases h0 : len = 0
  · subst h0
    have hz : gs = [] := List.length_eq_zero_iff.1 HL.out.symm
    subst hz
    clear hr HL hold hwz
    go_enter Try.func16, Try.ntmps16
    go_wp2
    obtain ⟨W, hW⟩ : ∃ W, W = (w1.setCell ⟨w.heap.size, k * 7 + 1, .none⟩ (.slice am lm cm)).alloc (.map #[] 0) := ⟨_, rfl⟩
    rw [← hW]
    obtain ⟨f1, f2, f3⟩ := begun W hcm HS.out hb1 hW
    clear hW hcm hfm hmk hb1
    have F : Filled w w1 W k lm cm am 0 [] := ⟨f1, f2, f3⟩
    clear f1 f2 f3
    refine wp_loop_rounds 1 ?_
    rw [rounds_succ]
    go_wp2
    go_ret
    exact ⟨_, _, _, _, _, rfl, vac_end F HM.out HMO.out _ _ _ _ rfl rfl rfl rfl⟩
  · obtain ⟨b, off, rfl, hc⟩ := hr (by omega)
    have hbs : b < w.heap.size := hold _ rfl
    clear hr hold
    go_enter Try.func16, Try.ntmps16
    go_wp2
    obtain ⟨W, hW⟩ : ∃ W, W = (w1.setCell ⟨w.heap.size, k * 7 + 1, .none⟩ (.slice am lm cm)).alloc (.map #[] 0) := ⟨_, rfl⟩
    rw [← hW]
    obtain ⟨f1, f2, f3⟩ := begun W hcm HS.out hb1 hW
    clear hW hcm hfm hmk hb1
    go_loopw [12, 25] (fun _ i wr => ∃ j : Nat, j ≤ len ∧ i = .int .i64 j ∧ Filled w w1 wr k lm cm am j (gs.take j)) (fun _ i _ => len - (intOf i).toNat)
    case atStart => exact ⟨0, Nat.zero_le _, rfl, f1, f2, f3⟩
    case round =>
      clear f1 f2 f3
      obtain ⟨j, hj, rfl, F⟩ := hrel
      by_cases hlt : j < len
      · have hcell : wr.cell? ⟨b, off + j, .none⟩ = some (.int .i64 (gs.getD j 0)) := (F.bel.cell (by exact hbs)).trans (hc j hlt)
        clear hc
        obtain ⟨z, hz⟩ : ∃ z, z = gs.getD j 0 := ⟨_, rfl⟩
        rw [← hz] at hcell
        have HZ : Hid (z = gs.getD j 0) := hz
        clear hz
        have HK : Hid (j < gs.length) := by show j < gs.length; rw [← HL.out]; exact hlt
        have wz : (Lit.int .i64 z).wf = true := hwz z (by rw [HZ.out, List.getD_eq_getElem?_getD, List.getElem?_eq_getElem HK.out]; simp)
        obtain ⟨w2, hrun, hmap, ht⟩ := gone_put F.map (by unfold maxLen; omega) wz
        have hmem2 := mapTurned_cell ht F.mem
        have F2 : Filled w w1 w2 k lm cm am (j + 1) (gs.take (j + 1)) := ⟨hmem2, F.bel.trans (mapTurned_below ht (by rw [HS.out]; omega)), by rw [← inB_take_fun gs j HK.out, ← HZ.out]; exact hmap⟩
        clear hmem2 hmap ht
        go_wp2
        go_roundw
        case rel => exact ⟨j + 1, by omega, by go_num, F2⟩
        case measure => simp [intOf]; omega
      · have e : j = len := by omega
        have F2 : Filled w w1 wr k lm cm am len gs := by
          have F' := F
          rw [List.take_of_length_le (by rw [← HL.out]; omega), e] at F'
          exact F'
        clear e F
        go_wp2
        go_ret
        exact ⟨_, _, _, _, _, rfl, vac_end F2 HM.out HMO.out _ _ _ _ rfl rfl rfl rfl⟩

theorem hideIt {p : Prop} (h : p) : Hid p := h

/-- 'vs[k] = &vacancy{}' on the new map of vacancies. -/
theorem note_run {w w1 wr : World} {k lm cm : Nat} {am : Option Addr} {n : Nat} {ms gs : List Int} (F : Filled w w1 wr k lm cm am n gs) (hm : Row .i64 w am lm ms) (hmo : ∀ x, am = some x → x.block < w.heap.size) (hk : (Lit.int .i64 (k : Int)).wf = true) :
    ∃ w2, (Instr.mapUpdate 44 (.map (some wr.heap.size)) (.int .i64 (k : Int)) (.pointer (some ⟨wr.heap.size + 1, 0, none⟩))).run Try.prog ((wr.alloc (.map #[] 0)).alloc (.cells #[.bool false] 63)) = .ok () w2 ∧
      ∀ (cs cs' : Array Value) (t t' : TypeId), cs'[0]? = some (.slice (some ⟨w.heap.size, 0, none⟩) (k + 1) (k + 1)) → cs[0]? = some (.pointer (some ⟨w2.heap.size, 0, none⟩)) → cs[4]? = some (.map (some w1.heap.size)) → cs[7]? = some (.map (some wr.heap.size)) →
        Vac ((((w2.alloc (.cells cs' t')).alloc (.map #[] 0)).alloc (.chan 0 #[] false 0 0 false)).alloc (.cells cs t)) w.heap.size (w2.heap.size + 1 + 1 + 1) w2.heap.size w.heap.size k w1.heap.size wr.heap.size n 1 am lm cm ms gs (fun x => if x = k then some (.pointer (some ⟨wr.heap.size + 1, 0, none⟩)) else none) ∧
        Below w.heap.size w ((((w2.alloc (.cells cs' t')).alloc (.map #[] 0)).alloc (.chan 0 #[] false 0 0 false)).alloc (.cells cs t)) := by
  have hbs := F.bel.size
  obtain ⟨W, hW⟩ : ∃ W, W = (wr.alloc (.map #[] 0)).alloc (.cells #[.bool false] 63) := ⟨_, rfl⟩
  have hbW : Below wr.heap.size wr W := by rw [hW]; exact (below_box wr _).alloc (by simp) _
  have m := (mapF_made wr Try.prog 3 .i64).alloc (.cells #[.bool false] 63)
  rw [← hW] at m ⊢
  obtain ⟨w2, hrun, hmap, ht⟩ := m.store Try.underlying3 Try.underlying44 (by unfold maxLen; omega) hk (.pointer (some ⟨wr.heap.size + 1, 0, none⟩))
  refine ⟨w2, hrun, fun cs cs' t t' h0 g0 g4 g7 => ?_⟩
  have hb2 : Below w.heap.size w w2 := (F.bel.trans (hbW.mono hbs)).trans (mapTurned_below ht hbs)
  have hmem : w2.cell? ⟨w.heap.size, k * 7 + 1, none⟩ = some (.slice am lm cm) := mapTurned_cell ht ((hbW.cell (block_of_cell F.mem)).trans F.mem)
  have hlt := F.map.lt
  have hgone : MapF w2 Try.prog 3 .i64 w1.heap.size n (fun x => if inB gs x = true then some (.bool true) else none) := F.map.of_block ((mapTurned_heap ht _ (by omega)).trans (hbW.block _ hlt))
  obtain ⟨V, hb⟩ := vac_made (wv := w2) (B := w.heap.size) (ms := ms) cs cs' t t' w2.heap.size rfl h0 g0 g4 g7 hmem (hm.mono hb2 hmo) hgone hmap hbs (by omega) rfl
  exact ⟨V, hb2.trans (hb.mono hb2.size)⟩

set_option maxHeartbeats 1000000 in
theorem newV_present (k : Nat) (hk : k ≤ 65536) (hwk : (Lit.int .i64 (k : Int)).wf = true) (am : Option Addr) (lm cm : Nat) (ms : List Int) (a : Option Addr) (len cap : Nat) (gs : List Int) (w : World) (hm : Row .i64 w am lm ms) (hmo : ∀ x, am = some x → x.block < w.heap.size)
    (hr : Row .i64 w a len gs) (hl : len ≤ 1048576) (hwz : ∀ z ∈ gs, (Lit.int .i64 z).wf = true) (hold : ∀ x, a = some x → x.block < w.heap.size) :
    Calls Try.prog 16 #[.int .i64 (k : Int), .slice am lm cm, .slice a len cap, .bool true] w fun e w' =>
      ∃ sb tb mgb gb vb vp, e = .returned (.pointer (some ⟨sb, 0, none⟩)) ∧ Vac w' w.heap.size sb tb mgb k gb vb len 1 am lm cm ms gs (fun x => if x = k then some (.pointer (some ⟨vp, 0, none⟩)) else none) ∧ Below w.heap.size w w' := by
  obtain ⟨hlen, hr⟩ := hr
  have HL : Hid (len = gs.length) := hlen
  clear hlen
  obtain ⟨w1, hmk, hcm, hfm, hs1, hb1⟩ := make_mgs k hk w
  have HS : Hid (w1.heap.size = w.heap.size + 1) := hs1
  clear hs1
  have hmm := @run_makeMap Try.prog
  have hmc := mk40
  have HM : Hid (Row .i64 w am lm ms) := hm
  have HMO : Hid (∀ x, am = some x → x.block < w.heap.size) := hmo
  clear hm hmo
  by_cases h0 : len = 0
  · subst h0
    have hz : gs = [] := List.length_eq_zero_iff.1 HL.out.symm
    subst hz
    clear hr HL hold hwz
    go_enter Try.func16, Try.ntmps16
    go_wp2
    obtain ⟨W, hW⟩ : ∃ W, W = (w1.setCell ⟨w.heap.size, k * 7 + 1, .none⟩ (.slice am lm cm)).alloc (.map #[] 0) := ⟨_, rfl⟩
    rw [← hW]
    obtain ⟨f1, f2, f3⟩ := begun W hcm HS.out hb1 hW
    clear hW hcm hfm hmk hb1
    have F : Filled w w1 W k lm cm am 0 [] := ⟨f1, f2, f3⟩
    clear f1 f2 f3
    obtain ⟨w2, hrun, hfin⟩ := note_run F HM.out HMO.out hwk
    have HF := hideIt hfin
    clear hfin
    refine wp_loop_rounds 1 ?_
    rw [rounds_succ]
    go_wp2
    go_ret
    exact ⟨_, _, _, _, _, _, rfl, HF.out _ _ _ _ rfl rfl rfl rfl⟩
  · obtain ⟨b, off, rfl, hc⟩ := hr (by omega)
    have hbs : b < w.heap.size := hold _ rfl
    clear hr hold
    go_enter Try.func16, Try.ntmps16
    go_wp2
    obtain ⟨W, hW⟩ : ∃ W, W = (w1.setCell ⟨w.heap.size, k * 7 + 1, .none⟩ (.slice am lm cm)).alloc (.map #[] 0) := ⟨_, rfl⟩
    rw [← hW]
    obtain ⟨f1, f2, f3⟩ := begun W hcm HS.out hb1 hW
    clear hW hcm hfm hmk hb1
    go_loopw [12, 25] (fun _ i wr => ∃ j : Nat, j ≤ len ∧ i = .int .i64 j ∧ Filled w w1 wr k lm cm am j (gs.take j)) (fun _ i _ => len - (intOf i).toNat)
    case atStart => exact ⟨0, Nat.zero_le _, rfl, f1, f2, f3⟩
    case round =>
      clear f1 f2 f3
      obtain ⟨j, hj, rfl, F⟩ := hrel
      by_cases hlt : j < len
      · have hcell : wr.cell? ⟨b, off + j, .none⟩ = some (.int .i64 (gs.getD j 0)) := (F.bel.cell (by exact hbs)).trans (hc j hlt)
        clear hc
        obtain ⟨z, hz⟩ : ∃ z, z = gs.getD j 0 := ⟨_, rfl⟩
        rw [← hz] at hcell
        have HZ : Hid (z = gs.getD j 0) := hz
        clear hz
        have HK : Hid (j < gs.length) := by show j < gs.length; rw [← HL.out]; exact hlt
        have wz : (Lit.int .i64 z).wf = true := hwz z (by rw [HZ.out, List.getD_eq_getElem?_getD, List.getElem?_eq_getElem HK.out]; simp)
        obtain ⟨w2, hrun, hmap, ht⟩ := gone_put F.map (by unfold maxLen; omega) wz
        have hmem2 := mapTurned_cell ht F.mem
        have F2 : Filled w w1 w2 k lm cm am (j + 1) (gs.take (j + 1)) := ⟨hmem2, F.bel.trans (mapTurned_below ht (by rw [HS.out]; omega)), by rw [← inB_take_fun gs j HK.out, ← HZ.out]; exact hmap⟩
        clear hmem2 hmap ht
        go_wp2
        go_roundw
        case rel => exact ⟨j + 1, by omega, by go_num, F2⟩
        case measure => simp [intOf]; omega
      · have e : j = len := by omega
        have F2 : Filled w w1 wr k lm cm am len gs := by
          have F' := F
          rw [List.take_of_length_le (by rw [← HL.out]; omega), e] at F'
          exact F'
        clear e F
        obtain ⟨w2, hrun, hfin⟩ := note_run F2 HM.out HMO.out hwk
        have HF := hideIt hfin
        clear hfin
        go_wp2
        go_ret
        exact ⟨_, _, _, _, _, _, rfl, HF.out _ _ _ _ rfl rfl rfl rfl⟩

end Go.Proofs.Qxb6612280a
