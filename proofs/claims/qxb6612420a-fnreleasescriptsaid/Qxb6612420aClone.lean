/-
  A slice of integers, copied into a new row: 'c := make([]T, len(xs)); copy(c, xs)' as run equations; what the shells' 'IsRow' gives.
-/
import Derived.Test.Qxb6612420aRel
import Derived.Laws.CopyOwn
namespace Go.Proofs.Qxb6612420a
open Go.RowKit

/-- What the walk is told of a slice of integers: its 'len' elements 'zs' lie where it leads. -/
def Row (k : IntKind) (w : World) (a : Option Addr) (len : Nat) (zs : List Int) : Prop :=
  len = zs.length ∧ (0 < len → ∃ b off, a = some ⟨b, off, none⟩ ∧ ∀ i, i < len → w.cell? ⟨b, off + i, none⟩ = some (.int k (zs.getD i 0)))

/-- What the walk is told of a slice that came in (the shell's 'IsRow'), as a 'Row'. -/
theorem row_of_cells {q : IntKind} {w : World} {x : Addr} {len : Nat} {zs : List Int} (hl : len ≤ zs.length) (hc : ∀ i, i < zs.length → w.cell? (x.add i) = some (.int q (zs.getD i 0))) : Row q w (some x) len (zs.take len) := by
  refine ⟨by simp; omega, fun h0 => ?_⟩
  obtain ⟨b, off, spot⟩ := x
  have hspot : spot = none := by simpa [Addr.add] using World.cell?_spot (hc 0 (by omega))
  subst hspot
  refine ⟨b, off, rfl, fun i hi => ?_⟩
  have h := hc i (by omega)
  have e : (⟨b, off, none⟩ : Addr).add i = ⟨b, off + i, none⟩ := by unfold Addr.add; split <;> simp_all
  rw [e] at h
  rw [h]
  simp [List.getD_eq_getElem?_getD, hi]

theorem Row.mono {q : IntKind} {w w' : World} {a : Option Addr} {len : Nat} {zs : List Int} (h : Row q w a len zs) {B : Nat} (hb : Below B w w') (ha : ∀ x, a = some x → x.block < B) : Row q w' a len zs := by
  refine ⟨h.1, fun h0 => ?_⟩
  obtain ⟨b, off, e, hc⟩ := h.2 h0
  exact ⟨b, off, e, fun i hi => (hb.cell (p := ⟨b, off + i, none⟩) (ha ⟨b, off, none⟩ e)).trans (hc i hi)⟩

theorem clone_runs (P : Program) {t e : TypeId} {q : IntKind} {bytes : Nat} (ht : P.underlying t = some (.slice e)) (hi : (P.info? e).map (fun i => (i.zero, i.size, i.bytes)) = some (some (.int q 0), 1, bytes)) (hby : bytes ≤ 8)
    (w : World) (ad : Addr) (len cap : Nat) (zs : List Int) (hr : Row q w (some ad) len zs) (hl : len ≤ 1048576) (hold : 0 < len → ad.block < w.heap.size) :
    ∃ w1 w2, (Instr.makeSlice t (.int .i64 (len : Int)) (.int .i64 (len : Int))).run P w = .ok (.slice (some ⟨w.heap.size, 0, none⟩) len len) w1 ∧
      (∀ ty, (Builtin.copy_ #[t, t] ty #[.slice (some ⟨w.heap.size, 0, none⟩) len len, .slice (some ad) len cap]).run P w1 = .ok (.int .i64 (len : Int)) w2) ∧
      Row q w2 (some ⟨w.heap.size, 0, none⟩) len zs ∧ Below w.heap.size w w2 ∧ w2.heap.size = w.heap.size + 1 := by
  obtain ⟨i0, h1, h2, h3, h4⟩ := info_parts hi
  have hbl : (bytes : Int) * (len : Int) ≤ 281474976710656 := by
    have : bytes * len ≤ 8 * len := Nat.mul_le_mul_right len hby
    have e : ((bytes * len : Nat) : Int) = (bytes : Int) * (len : Int) := by simp
    omega
  have hmk := run_make (P := P) w t e i0 (.int q 0) ht h1 h2 .i64 .i64 len len (by omega) (by omega) (by rw [h4]; exact hbl) (by omega)
  obtain ⟨cur, hcur⟩ : ∃ cur, cur = madeCells (Value.int q 0).cells (((len : Int)).toNat * i0.size) := ⟨_, rfl⟩
  have hcs : cur.size = len := by rw [hcur, size_madeCells, h3]; simp
  rw [← hcur] at hmk
  have hg : (w.alloc (.cells cur e)).heap[w.heap.size]? = some (.cells cur e (0, 0)) := by
    show (w.heap.push _)[w.heap.size]? = _
    simp
  have hsz1 : (P.info? e).map (·.size) = some 1 := by rw [h1]; simp [h3]
  have hlen := hr.1
  have hb1 : Below w.heap.size w (w.alloc (.cells cur e)) := (Below.refl _ _).alloc (Nat.le_refl _) _
  by_cases h0 : len = 0
  · subst h0
    refine ⟨_, _, by simpa using hmk, fun ty => run_copy_none (P := P) _ t t ty e _ _ 0 0 0 cap ht hsz1 rfl, ⟨hlen, fun h => absurd h (by omega)⟩, hb1, by simp⟩
  · obtain ⟨b, off, hb, hc⟩ := hr.2 (by omega)
    cases hb
    have hcell : ∀ j v, (zs.map (Value.int q))[j]? = some v → (w.alloc (.cells cur e)).cell? ((⟨b, off, none⟩ : Addr).add j) = some v := by
      intro j v hj
      have hj' : j < zs.length := by
        have := (List.getElem?_eq_some_iff.1 hj).1
        simpa using this
      have e : (⟨b, off, none⟩ : Addr).add j = ⟨b, off + j, none⟩ := by unfold Addr.add; split <;> simp_all
      rw [e, hb1.cell (by exact hold (by omega)), hc j (by omega)]
      simp [List.getD_eq_getElem?_getD, hj'] at hj ⊢
      exact hj
    have hcp := fun ty => run_copy_row (P := P) (w.alloc (.cells cur e)) t t ty e w.heap.size 0 len len ⟨b, off, none⟩ len cap cur e (zs.map (Value.int q)) ht hsz1 hg (by simp [hlen]) hcell (by simp; omega) (by intro v hv; obtain ⟨z, _, rfl⟩ := List.mem_map.1 hv; rfl)
    have hrow := setRow_heap (w.alloc (.cells cur e)) w.heap.size cur (cur.toList.take 0 ++ zs.map (Value.int q) ++ cur.toList.drop (0 + (zs.map (Value.int q)).length)).toArray e (0, 0) hg
    simp only [List.length_map, ← hlen] at hcp hrow
    refine ⟨_, _, by simpa using hmk, fun ty => hcp ty, ⟨hlen, fun _ => ⟨_, _, rfl, fun i hi => ?_⟩⟩, below_setRow hb1 (Nat.le_refl _) _, by simp [World.setRow]⟩
    have hi' : i < zs.length := by omega
    have hci := cell_of_heap (i := 0 + i) (v := .int q (zs.getD i 0)) hrow (by rw [List.getElem?_toArray, List.take_zero, List.nil_append, List.getElem?_append_left (by simpa using hi')]; simp [hi', List.getD_eq_getElem?_getD])
    exact hci

theorem isRow_facts {k : IntKind} {w : World} {a : Option Addr} {len cap : Nat} {zs : List Int}
    (h : (a = none ∧ len = 0 ∧ cap = 0 ∧ zs = []) ∨ ∃ x, a = some x ∧ len ≤ cap ∧ cap ≤ maxLen ∧ zs.length = cap ∧ (∀ i, i < zs.length → w.cell? (x.add i) = some (.int k (zs.getD i 0))) ∧ ∀ n ∈ zs, (Lit.int k n).wf = true) :
    len ≤ maxLen ∧ Row k w a len (zs.take len) ∧ (a = none → len = 0 ∧ cap = 0) ∧ ∀ z ∈ zs.take len, (Lit.int k z).wf = true := by
  rcases h with ⟨rfl, rfl, rfl, rfl⟩ | ⟨x, rfl, h1, h2, h3, h4, h5⟩
  · exact ⟨Nat.zero_le _, ⟨rfl, fun h => absurd h (by omega)⟩, fun _ => ⟨rfl, rfl⟩, fun z hz => by simp at hz⟩
  · exact ⟨by omega, row_of_cells (by omega) h4, fun e => (by cases e), fun z hz => h5 z (List.mem_of_mem_take hz)⟩


theorem info5 : (Try.prog.info? 5).map (fun i => (i.zero, i.size, i.bytes)) = some (some (.int .u8 0), 1, 1) := by kernel_rfl

/-- zzCopyBytes (8). -/
theorem copyBytes {w : World} {a : Option Addr} {len cap : Nat} {zs : List Int} (hr : Row .u8 w a len zs) (hl : len ≤ 1048576) (hn : a = none → len = 0 ∧ cap = 0) :
    Calls Try.prog 8 #[.slice a len cap] w fun e w' => ∃ a2 c2, e = .returned (.slice a2 len c2) ∧ Below w.heap.size w w' := by
  have hq := fun (w : World) (a : Option Addr) (n c : Nat) => Lib.run_eql_slice_nil (P := Try.prog) w 22 5 a n c 0 0 Try.underlying22
  cases a with
  | none =>
    obtain ⟨rfl, rfl⟩ := hn rfl
    clear hr hn
    go_enter Try.func8, Try.ntmps8
    go_wp2
    go_ret
    exact ⟨none, 0, rfl, Below.refl _ _⟩
  | some ad =>
    obtain ⟨w1, w2, hmk, hcp, _, hb, _⟩ := clone_runs Try.prog (q := .u8) Try.underlying22 info5 (by decide) w ad len cap zs hr hl (fun h0 => by
      obtain ⟨b, off, e, hc⟩ := hr.2 h0
      cases e
      exact block_of_cell (a := ⟨b, off + 0, none⟩) (hc 0 h0))
    clear hr hn
    go_enter Try.func8, Try.ntmps8
    go_wp2
    go_ret
    exact ⟨_, _, rfl, hb⟩

/-- What 'release' does to the memory. -/
structure Rel (w w' : World) (rb cb : Nat) (h : Int) : Prop where
  rd : Rd w' rb h
  cs : Cs w' cb (.slice none 0 0) 0
  oth : ∀ i, i ≠ rb → i ≠ cb → w'.heap[i]? = w.heap[i]?
  size : w'.heap.size = w.heap.size
  os : w'.os = w.os
  tape : w'.tape = w.tape
  output : w'.output = w.output

theorem released_rel {w : World} {rb cb : Nat} {h k : Int} {pl : Value} (r : Rd w rb h) (c : Cs w cb pl k) (n : Int) : Rel w (released w rb cb n).drew rb cb n := by
  have e1 : (⟨rb, 13, none⟩ : Addr) ≠ ⟨cb, 6, none⟩ := by intro e; cases e
  have e2 : (⟨rb, 13, none⟩ : Addr) ≠ ⟨cb, 7, none⟩ := by intro e; cases e
  have e3 : (⟨cb, 6, none⟩ : Addr) ≠ ⟨cb, 7, none⟩ := by intro e; cases e
  have c6 : (w.setCell ⟨rb, 13, none⟩ (.int .i64 n)).cell? ⟨cb, 6, none⟩ = some pl := by rw [World.cell?_setCell_other _ _ _ _ e1]; exact c.c6
  have c7 : ((w.setCell ⟨rb, 13, none⟩ (.int .i64 n)).setCell ⟨cb, 6, none⟩ (.slice none 0 0)).cell? ⟨cb, 7, none⟩ = some (.int .i64 k) := by rw [World.cell?_setCell_other _ _ _ _ e3, World.cell?_setCell_other _ _ _ _ e2]; exact c.c7
  refine ⟨⟨?_, ?_⟩, ⟨?_, ?_, ?_, ?_⟩, ?_, ?_, rfl, rfl, rfl⟩
  · show (released w rb cb n).cell? _ = _
    unfold released
    rw [World.cell?_setCell_other _ _ _ _ e2.symm, World.cell?_setCell_other _ _ _ _ e1.symm]
    exact World.cell?_setCell_same _ _ _ r.c
  · show (released w rb cb n).frozen? _ = _
    unfold released
    rw [World.frozen?_setCell, World.frozen?_setCell, World.frozen?_setCell]
    exact r.f
  · show (released w rb cb n).cell? _ = _
    unfold released
    rw [World.cell?_setCell_other _ _ _ _ e3.symm]
    exact World.cell?_setCell_same _ _ _ c6
  · show (released w rb cb n).cell? _ = _
    unfold released
    exact World.cell?_setCell_same _ _ _ c7
  · show (released w rb cb n).frozen? _ = _
    unfold released
    rw [World.frozen?_setCell, World.frozen?_setCell, World.frozen?_setCell]
    exact c.f6
  · show (released w rb cb n).frozen? _ = _
    unfold released
    rw [World.frozen?_setCell, World.frozen?_setCell, World.frozen?_setCell]
    exact c.f7
  · intro i h1 h2
    show (released w rb cb n).heap[i]? = _
    unfold released
    rw [Below.heap_setCell _ _ _ _ h2, Below.heap_setCell _ _ _ _ h2, Below.heap_setCell _ _ _ _ h1]
  · show (released w rb cb n).heap.size = _
    unfold released
    rw [size_setCell, size_setCell, size_setCell]

theorem Rel.below {w w' : World} {rb cb : Nat} {h : Int} (r : Rel w w' rb cb h) {B : Nat} (h1 : B ≤ rb) (h2 : B ≤ cb) : Below B w w' :=
  ⟨r.os, r.tape, r.output, by rw [r.size]; exact Nat.le_refl _, fun i hi => r.oth i (by omega) (by omega)⟩

theorem zzRelease {w : World} {rb cb : Nat} {h k : Int} {a : Option Addr} {len cap : Nat} (r : Rd w rb h) (c : Cs w cb (.slice a len cap) k) (h0 : 0 ≤ k) (h1 : k ≤ h) (h2 : h ≤ 9223372036854775807) :
    Calls Try.prog 20 #[.pointer (some ⟨rb, 0, none⟩), .pointer (some ⟨cb, 0, none⟩)] w fun e w' => e = .returned (.tuple #[]) ∧ Rel w w' rb cb (h - k) := by
  have C := release_any r c h0 h1 h2
  have HR := (show Hid _ from released_rel r c (h - k))
  clear r c
  go_enter Try.func20, Try.ntmps20
  go_wp2_with fail
  refine C.mono ?_
  rintro e w' ⟨rfl, hw⟩
  rw [← hw] at HR
  clear C hw
  go_wp2
  go_end0
  exact ⟨rfl, HR.out⟩

end Go.Proofs.Qxb6612420a
