import Derived.Test.Qxb6603145aCopy
namespace Go.Proofs.Qxb6603145a
open Go.RowKit

/-- A slice of integers that came in, as the shells open it: its elements. -/
theorem row_elems {k : IntKind} {w : World} {a : Option Addr} {len cap : Nat} {zs : List Int}
    (h : (a = none ∧ len = 0 ∧ cap = 0 ∧ zs = []) ∨ ∃ x, a = some x ∧ len ≤ cap ∧ cap ≤ maxLen ∧ zs.length = cap ∧ (∀ i, i < zs.length → w.cell? (x.add i) = some (.int k (zs.getD i 0))) ∧ ∀ n ∈ zs, (Lit.int k n).wf = true) :
    Elems k w a len (zs.take len) ∧ (a = none → len = 0 ∧ cap = 0) ∧ len ≤ maxLen := by
  rcases h with ⟨rfl, rfl, rfl, rfl⟩ | ⟨x, rfl, hl, hm, hz, hcell, hwz⟩
  · exact ⟨⟨rfl, fun h => absurd h (by omega)⟩, fun _ => ⟨rfl, rfl⟩, Nat.zero_le _⟩
  · refine ⟨⟨by simp; omega, fun h0 => ?_⟩, fun h => by simp at h, Nat.le_trans hl hm⟩
    obtain ⟨b, off, spot⟩ := x
    have hc := hcell 0 (by omega)
    have hspot : spot = none := by simpa [Addr.add] using World.cell?_spot hc
    subst hspot
    refine ⟨b, off, rfl, fun i hi => ?_⟩
    have h := hcell i (by omega)
    rw [Addr.add_lit] at h
    rw [h]
    simp [List.getD, hi]
end Go.Proofs.Qxb6603145a
