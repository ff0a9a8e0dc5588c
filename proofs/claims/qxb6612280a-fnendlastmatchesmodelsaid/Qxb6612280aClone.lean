/-
  'c := make([]T, len(xs)); copy(c, xs)': a slice of integers copied into a new row. Run equations, for whatever program.
-/
import Derived.Test.Qxb6612280aSmall
import Derived.Laws.CopyOwn
namespace Go.Proofs.Qxb6612280a
open Go.RowKit Go.Maps

/-- What the walk is told of a slice that came in (the shell's 'IsRow'), as a 'Row'. -/
theorem row_of_cells {q : IntKind} {w : World} {x : Addr} {len : Nat} {zs : List Int} (hl : len ≤ zs.length) (hc : ∀ i, i < zs.length → w.cell? (x.add i) = some (.int q (zs.getD i 0))) : Row q w (some x) len (zs.take len) := by
  refine ⟨by simp; omega, fun h0 => ?_⟩
  obtain ⟨b, off, spot⟩ := x
  have hspot : spot = none := by simpa [Addr.add] using World.cell?_spot (hc 0 (by omega))
  subst hspot
  refine ⟨b, off, rfl, fun i hi => ?_⟩
  have h := hc i (by omega)
  have e : (⟨b, off, none⟩ : Addr).add i = ⟨b, off + i, none⟩ := by unfold Addr.add; split <;> simp_all
  rw [e] at h
  rw [h]
  simp [List.getD_eq_getElem?_getD, hi]

theorem Row.mono {q : IntKind} {w w' : World} {a : Option Addr} {len : Nat} {zs : List Int} (h : Row q w a len zs) {B : Nat} (hb : Below B w w') (ha : ∀ x, a = some x → x.block < B) : Row q w' a len zs := by
  refine ⟨h.1, fun h0 => ?_⟩
  obtain ⟨b, off, e, hc⟩ := h.2 h0
  exact ⟨b, off, e, fun i hi => (hb.cell (p := ⟨b, off + i, none⟩) (ha ⟨b, off, none⟩ e)).trans (hc i hi)⟩

theorem cell_at_heap {w : World} {b i : Nat} {cs : Array Value} {t : TypeId} {fz : Nat × Nat} {v : Value} (h : w.heap[b]? = some (.cells cs t fz)) (hi : cs[i]? = some v) : w.cell? ⟨b, i, none⟩ = some v := by
  unfold World.cell?
  simp only [h, hi]
  rfl

theorem clone_runs (P : Program) {t e : TypeId} {q : IntKind} {bytes : Nat} (ht : P.underlying t = some (.slice e)) (hi : (P.info? e).map (fun i => (i.zero, i.size, i.bytes)) = some (some (.int q 0), 1, bytes)) (hby : bytes ≤ 8)
    (w : World) (ad : Addr) (len cap : Nat) (zs : List Int) (hr : Row q w (some ad) len zs) (hl : len ≤ 1048576) (hold : 0 < len → ad.block < w.heap.size) :
    ∃ w1 w2, (Instr.makeSlice t (.int .i64 (len : Int)) (.int .i64 (len : Int))).run P w = .ok (.slice (some ⟨w.heap.size, 0, none⟩) len len) w1 ∧
      (∀ ty, (Builtin.copy_ #[t, t] ty #[.slice (some ⟨w.heap.size, 0, none⟩) len len, .slice (some ad) len cap]).run P w1 = .ok (.int .i64 (len : Int)) w2) ∧
      Row q w2 (some ⟨w.heap.size, 0, none⟩) len zs ∧ Below w.heap.size w w2 ∧ w2.heap.size = w.heap.size + 1 := by
  obtain ⟨i0, h1, h2, h3, h4⟩ := info_parts hi
  have hbl : (bytes : Int) * (len : Int) ≤ 281474976710656 := by
    have : bytes * len ≤ 8 * len := Nat.mul_le_mul_right len hby
    have e : ((bytes * len : Nat) : Int) = (bytes : Int) * (len : Int) := by simp
    omega
  have hmk := run_make (P := P) w t e i0 (.int q 0) ht h1 h2 .i64 .i64 len len (by omega) (by omega) (by rw [h4]; exact hbl) (by omega)
  obtain ⟨cur, hcur⟩ : ∃ cur, cur = madeCells (Value.int q 0).cells (((len : Int)).toNat * i0.size) := ⟨_, rfl⟩
  have hcs : cur.size = len := by rw [hcur, size_madeCells, h3]; simp
  rw [← hcur] at hmk
  have hg : (w.alloc (.cells cur e)).heap[w.heap.size]? = some (.cells cur e (0, 0)) := by
    show (w.heap.push _)[w.heap.size]? = _
    simp
  have hsz1 : (P.info? e).map (·.size) = some 1 := by rw [h1]; simp [h3]
  have hlen := hr.1
  have hb1 : Below w.heap.size w (w.alloc (.cells cur e)) := (Below.refl _ _).alloc (Nat.le_refl _) _
  by_cases h0 : len = 0
  · subst h0
    refine ⟨_, _, by simpa using hmk, fun ty => run_copy_none (P := P) _ t t ty e _ _ 0 0 0 cap ht hsz1 rfl, ⟨hlen, fun h => absurd h (by omega)⟩, hb1, by simp⟩
  · obtain ⟨b, off, hb, hc⟩ := hr.2 (by omega)
    cases hb
    have hcell : ∀ j v, (zs.map (Value.int q))[j]? = some v → (w.alloc (.cells cur e)).cell? ((⟨b, off, none⟩ : Addr).add j) = some v := by
      intro j v hj
      have hj' : j < zs.length := by
        have := (List.getElem?_eq_some_iff.1 hj).1
        simpa using this
      have e : (⟨b, off, none⟩ : Addr).add j = ⟨b, off + j, none⟩ := by unfold Addr.add; split <;> simp_all
      rw [e, hb1.cell (by exact hold (by omega)), hc j (by omega)]
      simp [List.getD_eq_getElem?_getD, hj'] at hj ⊢
      exact hj
    have hcp := fun ty => run_copy_row (P := P) (w.alloc (.cells cur e)) t t ty e w.heap.size 0 len len ⟨b, off, none⟩ len cap cur e (zs.map (Value.int q)) ht hsz1 hg (by simp [hlen]) hcell (by simp; omega) (by intro v hv; obtain ⟨z, _, rfl⟩ := List.mem_map.1 hv; rfl)
    have hrow := setRow_heap (w.alloc (.cells cur e)) w.heap.size cur (cur.toList.take 0 ++ zs.map (Value.int q) ++ cur.toList.drop (0 + (zs.map (Value.int q)).length)).toArray e (0, 0) hg
    simp only [List.length_map, ← hlen] at hcp hrow
    refine ⟨_, _, by simpa using hmk, fun ty => hcp ty, ⟨hlen, fun _ => ⟨_, _, rfl, fun i hi => ?_⟩⟩, below_setRow hb1 (Nat.le_refl _) _, by simp [World.setRow]⟩
    have hi' : i < zs.length := by omega
    have hci := cell_at_heap (i := 0 + i) (v := .int q (zs.getD i 0)) hrow (by rw [List.getElem?_toArray, List.take_zero, List.nil_append, List.getElem?_append_left (by simpa using hi')]; simp [hi', List.getD_eq_getElem?_getD])
    exact hci

end Go.Proofs.Qxb6612280a
