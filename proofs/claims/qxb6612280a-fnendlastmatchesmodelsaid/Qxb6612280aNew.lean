import Derived.Test.Qxb6612280aSmall
namespace Go.Proofs.Qxb6612280a
open Go.RowKit Go.Maps

theorem mk40 (w : World) : (Instr.makeChan 40 (.int .i64 0)).run Try.prog w = .ok (.chan (some w.heap.size)) (w.alloc (.chan 0 #[] false 0 0 false)) := by kernel_rfl

/-- The membership at block sb: its map of runs at mb, its channel at cb; all from block B on. -/
structure Mem (w : World) (B sb mb cb n : Nat) (f : Int → Option Value) : Prop where
  c5 : w.cell? ⟨sb, 5, none⟩ = some (.map (some mb))
  c8 : w.cell? ⟨sb, 8, none⟩ = some (.chan (some cb))
  f8 : w.frozen? ⟨sb, 8, none⟩ = false
  ch : w.heap[cb]? = some (.chan 0 #[] false 0 0 false)
  map : MapF w Try.prog 3 .i64 mb n f
  hsb : B ≤ sb
  hmb : B ≤ mb
  hcb : B ≤ cb

/-- What is known of the processes of a peer, at block rb: its map of ended ones at eb. -/
structure Run (w : World) (B rb eb n : Nat) (last : Int) (E : Int → Bool) : Prop where
  c0 : w.cell? ⟨rb, 0, none⟩ = some (.int .u64 last)
  c1 : w.cell? ⟨rb, 1, none⟩ = some (.map (some eb))
  map : MapF w Try.prog 22 .u64 eb n (fun x => if E x = true then some (.bool true) else none)
  hrb : B ≤ rb
  heb : B ≤ eb

theorem heap_new (w : World) (o : Obj) : (w.alloc o).heap[w.heap.size]? = some o := by
  show (w.heap.push o)[w.heap.size]? = _
  simp

theorem heap_old (w : World) (o : Obj) (i : Nat) (h : i ≠ w.heap.size) : (w.alloc o).heap[i]? = w.heap[i]? := by
  show (w.heap.push o)[i]? = _
  rw [Array.getElem?_push, if_neg h]

theorem MapF.alloc {P : Program} {k : TypeId} {q : IntKind} {w : World} {b n : Nat} {f : Int → Option Value} (h : MapF w P k q b n f) (o : Obj) : MapF (w.alloc o) P k q b n f :=
  h.of_block (heap_old w o b (by have := h.lt; omega))

theorem cell_of_heap {w : World} {b i : Nat} {cs : Array Value} {t : TypeId} {fz : Nat × Nat} {v : Value} (h : w.heap[b]? = some (.cells cs t fz)) (hi : cs[i]? = some v) : w.cell? ⟨b, i, none⟩ = some v := by
  unfold World.cell?
  simp only [h, hi]
  rfl

theorem frozen_of_heap {w : World} {b i : Nat} {cs : Array Value} {t : TypeId} (h : w.heap[b]? = some (.cells cs t (0, 0))) : w.frozen? ⟨b, i, none⟩ = false := by
  unfold World.frozen?
  simp only [h]
  simp

theorem mem_made (w : World) (cs : Array Value) (t : TypeId) (h5 : cs[5]? = some (.map (some w.heap.size))) (h8 : cs[8]? = some (.chan (some (w.heap.size + 1)))) :
    Mem (((w.alloc (.map #[] 0)).alloc (.chan 0 #[] false 0 0 false)).alloc (.cells cs t)) w.heap.size (w.heap.size + 2) w.heap.size (w.heap.size + 1) 0 (fun _ => none) := by
  have e1 : (w.alloc (.map #[] 0)).heap.size = w.heap.size + 1 := by simp
  have e2 : ((w.alloc (.map #[] 0)).alloc (.chan 0 #[] false 0 0 false)).heap.size = w.heap.size + 2 := by simp
  have hb := heap_new ((w.alloc (.map #[] 0)).alloc (.chan 0 #[] false 0 0 false)) (.cells cs t)
  rw [e2] at hb
  have hc := heap_new (w.alloc (.map #[] 0)) (.chan 0 #[] false 0 0 false)
  rw [e1] at hc
  refine ⟨?_, ?_, ?_, ?_, ?_, by omega, by omega, by omega⟩
  · exact cell_of_heap hb h5
  · exact cell_of_heap hb h8
  · exact frozen_of_heap hb
  · rw [heap_old _ _ _ (by rw [e2]; omega)]; exact hc
  · exact ((mapF_made w _ _ _).alloc _).alloc _

set_option maxHeartbeats 400000 in
theorem new_absent (p : Int) (last : Int) (a : Option Addr) (len cap : Nat) (w : World) :
    Calls Try.prog 9 #[.int .i64 p, .bool false, .int .u64 last, .slice a len cap] w fun e w' =>
      e = .returned (.pointer (some ⟨w.heap.size + 2, 0, none⟩)) ∧ Mem w' w.heap.size (w.heap.size + 2) w.heap.size (w.heap.size + 1) 0 (fun _ => none) ∧ Below w.heap.size w w' := by
  have hmm := @run_makeMap Try.prog
  have hmc := mk40
  go_enter Try.func9, Try.ntmps9
  go_wp2
  go_ret
  refine ⟨rfl, mem_made w _ _ rfl rfl, ?_⟩
  exact (((Below.refl _ _).alloc (Nat.le_refl _) _).alloc (by simp) _).alloc (by simp; omega) _

theorem size_alloc' (w : World) (o : Obj) : (w.alloc o).heap.size = w.heap.size + 1 := by simp

/-- The world in which the loop over the ended ones begins. -/
theorem run_made (w : World) (cs cs' : Array Value) (t t' : TypeId) (last : Int) (h5 : cs[5]? = some (.map (some w.heap.size))) (h8 : cs[8]? = some (.chan (some (w.heap.size + 1))))
    (h0 : cs'[0]? = some (.int .u64 last)) (h1 : cs'[1]? = some (.map (some (w.heap.size + 3)))) (W : World)
    (hW : W = (((((w.alloc (.map #[] 0)).alloc (.chan 0 #[] false 0 0 false)).alloc (.cells cs t)).alloc (.map #[] 0)).alloc (.map #[] 0)).alloc (.cells cs' t')) :
    Mem W w.heap.size (w.heap.size + 2) w.heap.size (w.heap.size + 1) 0 (fun _ => none) ∧ Run W w.heap.size (w.heap.size + 5) (w.heap.size + 3) 0 last (inB []) ∧ Below w.heap.size w W := by
  have M := mem_made w cs t h5 h8
  obtain ⟨w3, hw3⟩ : ∃ w3, w3 = ((w.alloc (.map #[] 0)).alloc (.chan 0 #[] false 0 0 false)).alloc (.cells cs t) := ⟨_, rfl⟩
  rw [← hw3] at hW M
  have s3 : w3.heap.size = w.heap.size + 3 := by rw [hw3]; simp
  have b3 : Below w.heap.size w w3 := by
    rw [hw3]
    exact (((Below.refl _ _).alloc (Nat.le_refl _) _).alloc (by simp) _).alloc (by simp; omega) _
  clear hw3 h5 h8
  obtain ⟨w4, hw4⟩ : ∃ w4, w4 = w3.alloc (.map #[] 0) := ⟨_, rfl⟩
  obtain ⟨w5, hw5⟩ : ∃ w5, w5 = w4.alloc (.map #[] 0) := ⟨_, rfl⟩
  have s4 : w4.heap.size = w.heap.size + 4 := by rw [hw4, size_alloc', s3]
  have s5 : w5.heap.size = w.heap.size + 5 := by rw [hw5, size_alloc', s4]
  rw [← hw4, ← hw5] at hW
  have keep : ∀ i, i < w.heap.size + 3 → W.heap[i]? = w3.heap[i]? := fun i hi => by
    rw [hW, heap_old _ _ _ (by omega), hw5, heap_old _ _ _ (by omega), hw4, heap_old _ _ _ (by omega)]
  have new5 : W.heap[w.heap.size + 5]? = some (.cells cs' t') := by
    rw [hW, ← s5]; exact heap_new _ _
  refine ⟨⟨?_, ?_, ?_, ?_, ?_, M.hsb, M.hmb, M.hcb⟩, ⟨?_, ?_, ?_, by omega, by omega⟩, ?_⟩
  · rw [World.cell?_of_block (w := w3) (keep _ (by simp))]; exact M.c5
  · rw [World.cell?_of_block (w := w3) (keep _ (by simp))]; exact M.c8
  · rw [World.frozen?_of_block (w := w3) (keep _ (by simp))]; exact M.f8
  · rw [keep _ (by omega)]; exact M.ch
  · exact M.map.of_block (keep _ (by omega))
  · exact cell_of_heap new5 h0
  · exact cell_of_heap new5 h1
  · have m := mapF_made w3 Try.prog 22 .u64
    rw [s3, ← hw4] at m
    rw [hW, hw5]
    exact ((m.alloc _).alloc _).congr (fun x _ => by simp [inB])
  · rw [hW]
    refine b3.trans ?_
    rw [hw5, hw4]
    exact (((Below.refl _ _).alloc (by omega) _).alloc (by rw [← hw4]; omega) _).alloc (by rw [← hw4, ← hw5]; omega) _

/-- What a turn of the map of ended ones leaves. -/
theorem mem_turned {w w' : World} {B sb mb cb n eb : Nat} {f : Int → Option Value} (M : Mem w B sb mb cb n f) (h : w.mapTurned w' eb) (hne : mb ≠ eb) : Mem w' B sb mb cb n f := by
  obtain ⟨es, clock, es', clock', hb, hw⟩ := id h
  refine ⟨mapTurned_cell h M.c5, mapTurned_cell h M.c8, by rw [mapTurned_frozen h]; exact M.f8, ?_, M.map.of_block (mapTurned_heap h _ hne), M.hsb, M.hmb, M.hcb⟩
  rw [mapTurned_heap h _ (fun e => by have := M.ch; rw [e, hb] at this; cases this)]
  exact M.ch

/-- What a turn of the map of runs leaves of a peer's record. -/
theorem run_turned {w w' : World} {B rb eb n mb : Nat} {last : Int} {E : Int → Bool} (R : Run w B rb eb n last E) (h : w.mapTurned w' mb) (hne : eb ≠ mb) : Run w' B rb eb n last E :=
  ⟨mapTurned_cell h R.c0, mapTurned_cell h R.c1, R.map.of_block (mapTurned_heap h _ hne), R.hrb, R.heb⟩

/-- 'r.ended[z] = true'. -/
theorem run_ended {w : World} {B rb eb n : Nat} {last : Int} {E : Int → Bool} (R : Run w B rb eb n last E) (hn : n < maxLen) {z : Int} (hz : (Lit.int .u64 z).wf = true) :
    ∃ w', (Instr.mapUpdate 50 (.map (some eb)) (.int .u64 z) (.bool true)).run Try.prog w = .ok () w' ∧ Run w' B rb eb (n + 1) last (fun x => E x || (z == x)) ∧ w.mapTurned w' eb := by
  obtain ⟨w', hrun, hmap, ht⟩ := R.map.store Try.underlying22 Try.underlying50 hn hz (.bool true)
  refine ⟨w', hrun, ⟨mapTurned_cell ht R.c0, mapTurned_cell ht R.c1, hmap.congr (fun x _ => ?_), R.hrb, R.heb⟩, ht⟩
  by_cases hx : x = z
  · subst hx; simp
  · have : (z == x) = false := by simpa using fun h => hx h.symm
    simp [hx, this]

theorem inB_take_fun (zs : List Int) (k : Nat) (h : k < zs.length) : (fun x => inB (zs.take k) x || (zs.getD k 0 == x)) = inB (zs.take (k + 1)) := by
  funext x
  rw [inB_take_succ zs x k h]

/-- 's.runs[p] = r' on a membership that knows nothing. -/
theorem mem_first {w : World} {B sb mb cb : Nat} (M : Mem w B sb mb cb 0 (fun _ => none)) {p : Int} (hp : (Lit.int .i64 p).wf = true) (v : Value) :
    ∃ w', (Instr.mapUpdate 39 (.map (some mb)) (.int .i64 p) v).run Try.prog w = .ok () w' ∧ Mem w' B sb mb cb 1 (fun x => if x = p then some v else none) ∧ w.mapTurned w' mb := by
  obtain ⟨w', hrun, hmap, ht⟩ := M.map.store Try.underlying3 Try.underlying39 (by unfold maxLen; omega) hp v
  obtain ⟨es, clock, es', clock', hb, hw⟩ := id ht
  refine ⟨w', hrun, ⟨mapTurned_cell ht M.c5, mapTurned_cell ht M.c8, by rw [mapTurned_frozen ht]; exact M.f8, ?_, hmap, M.hsb, M.hmb, M.hcb⟩, ht⟩
  rw [mapTurned_heap ht _ (fun e => by have := M.ch; rw [e, hb] at this; cases this)]
  exact M.ch

set_option maxHeartbeats 1000000 in
theorem new_present (p : Int) (last : Int) (a : Option Addr) (len cap : Nat) (zs : List Int) (w : World) (hp : (Lit.int .i64 p).wf = true) (hr : Row .u64 w a len zs) (hl : len ≤ 1048576) (hwz : ∀ z ∈ zs, (Lit.int .u64 z).wf = true) (hold : ∀ x, a = some x → x.block < w.heap.size) :
    Calls Try.prog 9 #[.int .i64 p, .bool true, .int .u64 last, .slice a len cap] w fun e w' =>
      e = .returned (.pointer (some ⟨w.heap.size + 1 + 1, 0, none⟩)) ∧ Mem w' w.heap.size (w.heap.size + 1 + 1) w.heap.size (w.heap.size + 1) 1 (fun x => if x = p then some (.pointer (some ⟨w.heap.size + 1 + 1 + 1 + 1 + 1, 0, none⟩)) else none) ∧
      Run w' w.heap.size (w.heap.size + 1 + 1 + 1 + 1 + 1) (w.heap.size + 1 + 1 + 1) len last (inB zs) ∧ Below w.heap.size w w' := by
  obtain ⟨hlen, hr⟩ := hr
  have HL : Hid (len = zs.length) := hlen
  clear hlen
  have hmm := @run_makeMap Try.prog
  have hmc := mk40
  by_cases h0 : len = 0
  · subst h0
    have hz : zs = [] := List.length_eq_zero_iff.1 HL.out.symm
    subst hz
    clear hr HL
    go_enter Try.func9, Try.ntmps9
    go_wp2
    obtain ⟨W, hW⟩ : ∃ W, W = (((((w.alloc (.map #[] 0)).alloc (.chan 0 #[] false 0 0 false)).alloc (.cells #[.pointer .none, .int .i64 0, .int .i64 0, .bool false, .map .none, .map (some w.heap.size), .slice .none 0 0, .map .none, .chan (some (w.heap.size + 1)), .slice .none 0 0, .slice .none 0 0, .int .i64 0, .bool false, .slice .none 0 0, .chan .none] 48)).alloc (.map #[] 0)).alloc (.map #[] 0)).alloc (.cells #[.int .u64 last, .map (some (w.heap.size + 1 + 1 + 1)), .map (some (w.heap.size + 1 + 1 + 1 + 1))] 53) := ⟨_, rfl⟩
    rw [← hW]
    obtain ⟨M, R, hb⟩ := run_made w _ _ _ _ last rfl rfl rfl rfl W hW
    clear hW hmm hmc
    obtain ⟨w1, hrun, M1, ht⟩ := mem_first M hp (.pointer (some ⟨w.heap.size + 1 + 1 + 1 + 1 + 1, 0, .none⟩))
    have R1 := run_turned R ht (by omega)
    have hc5 := M.c5
    refine wp_loop_rounds 1 ?_
    rw [rounds_succ]
    go_wp2
    go_ret
    exact ⟨rfl, M1, R1, hb.trans (mapTurned_below ht M.hmb)⟩
  · obtain ⟨b, off, rfl, hc⟩ := hr (by omega)
    have hbs : b < w.heap.size := hold _ rfl
    clear hr hold
    go_enter Try.func9, Try.ntmps9
    go_wp2
    obtain ⟨W, hW⟩ : ∃ W, W = (((((w.alloc (.map #[] 0)).alloc (.chan 0 #[] false 0 0 false)).alloc (.cells #[.pointer .none, .int .i64 0, .int .i64 0, .bool false, .map .none, .map (some w.heap.size), .slice .none 0 0, .map .none, .chan (some (w.heap.size + 1)), .slice .none 0 0, .slice .none 0 0, .int .i64 0, .bool false, .slice .none 0 0, .chan .none] 48)).alloc (.map #[] 0)).alloc (.map #[] 0)).alloc (.cells #[.int .u64 last, .map (some (w.heap.size + 1 + 1 + 1)), .map (some (w.heap.size + 1 + 1 + 1 + 1))] 53) := ⟨_, rfl⟩
    rw [← hW]
    obtain ⟨M, R, hb⟩ := run_made w _ _ _ _ last rfl rfl rfl rfl W hW
    clear hW hmm hmc
    go_loopw [12, 25] (fun _ i wr => ∃ k : Nat, k ≤ len ∧ i = .int .i64 k ∧ Mem wr w.heap.size (w.heap.size + 1 + 1) w.heap.size (w.heap.size + 1) 0 (fun _ => .none) ∧
        Run wr w.heap.size (w.heap.size + 1 + 1 + 1 + 1 + 1) (w.heap.size + 1 + 1 + 1) k last (inB (zs.take k)) ∧ Below w.heap.size w wr) (fun _ i _ => len - (intOf i).toNat)
    case atStart => exact ⟨0, Nat.zero_le _, rfl, M, R, hb⟩
    case round =>
      clear M R hb
      obtain ⟨k, hk, rfl, M, R, hb⟩ := hrel
      by_cases hlt : k < len
      · have hcell : wr.cell? ⟨b, off + k, .none⟩ = some (.int .u64 (zs.getD k 0)) := (hb.cell (by exact hbs)).trans (hc k hlt)
        clear hc
        obtain ⟨z, hz⟩ : ∃ z, z = zs.getD k 0 := ⟨_, rfl⟩
        rw [← hz] at hcell
        have HZ : Hid (z = zs.getD k 0) := hz
        clear hz
        have hkz : k < zs.length := by rw [← HL.out]; exact hlt
        have wz : (Lit.int .u64 z).wf = true := hwz z (by rw [HZ.out, List.getD_eq_getElem?_getD, List.getElem?_eq_getElem hkz]; simp)
        obtain ⟨w1, hrun, R1, ht⟩ := run_ended R (by unfold maxLen; omega) wz
        have M1 := mem_turned M ht (by omega)
        have hc1 := R.c1
        have HK : Hid (k < zs.length) := hkz
        clear hkz
        go_wp2
        go_roundw
        case rel => exact ⟨k + 1, by omega, by go_num, M1, by rw [← inB_take_fun zs k HK.out, ← HZ.out]; exact R1, hb.trans (mapTurned_below ht R.heb)⟩
        case measure => simp [intOf]; omega
      · obtain ⟨w1, hrun, M1, ht⟩ := mem_first M hp (.pointer (some ⟨w.heap.size + 1 + 1 + 1 + 1 + 1, 0, .none⟩))
        have R1 := run_turned R ht (by omega)
        have hc5 := M.c5
        go_wp2
        go_ret
        have e : k = len := by omega
        refine ⟨rfl, M1, ?_, hb.trans (mapTurned_below ht M.hmb)⟩
        rw [← e]
        rw [List.take_of_length_le (by rw [← HL.out]; omega)] at R1
        exact R1

end Go.Proofs.Qxb6612280a
