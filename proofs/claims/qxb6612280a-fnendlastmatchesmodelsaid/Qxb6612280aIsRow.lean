/-
  What the shells' 'IsRow' gives.
-/
import Derived.Test.Qxb6612280aClone
namespace Go.Proofs.Qxb6612280a
open Go.RowKit Go.Maps

theorem isRow_facts {k : IntKind} {w : World} {a : Option Addr} {len cap : Nat} {zs : List Int}
    (h : (a = none ∧ len = 0 ∧ cap = 0 ∧ zs = []) ∨ ∃ x, a = some x ∧ len ≤ cap ∧ cap ≤ maxLen ∧ zs.length = cap ∧ (∀ i, i < zs.length → w.cell? (x.add i) = some (.int k (zs.getD i 0))) ∧ ∀ n ∈ zs, (Lit.int k n).wf = true) :
    len ≤ maxLen ∧ Row k w a len (zs.take len) ∧ (a = none → len = 0 ∧ cap = 0) ∧ ∀ z ∈ zs.take len, (Lit.int k z).wf = true := by
  rcases h with ⟨rfl, rfl, rfl, rfl⟩ | ⟨x, rfl, h1, h2, h3, h4, h5⟩
  · exact ⟨Nat.zero_le _, ⟨rfl, fun h => absurd h (by omega)⟩, fun _ => ⟨rfl, rfl⟩, fun z hz => by simp at hz⟩
  · exact ⟨by omega, row_of_cells (by omega) h4, fun e => (by cases e), fun z hz => h5 z (List.mem_of_mem_take hz)⟩

end Go.Proofs.Qxb6612280a
