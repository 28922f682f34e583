import Derived.Test.Qxb6603126aData
namespace Go.Proofs.Qxb6603126a
open Go.RowKit

/-- A slice of byte slices that came in, as 'open_int_rows' opens it. -/
theorem datas_of {w : World} {base len cap : Nat} {x : Addr} {A : Nat → Option Addr} {L C : Nat → Nat} {Z : Nat → List Int} (hl : len ≤ cap)
    (h : ∀ r, r < cap → w.cell? (x.add r) = some (.slice (A r) (L r) (C r)) ∧ L r ≤ C r ∧ C r ≤ maxLen ∧ (Z r).length = C r ∧ (∀ n ∈ Z r, (Lit.int .u8 n).wf = true) ∧ (A r = none → C r = 0) ∧
      ∀ a', A r = some a' → base ≤ a'.block ∧ ∀ c, c < C r → w.cell? (a'.add c) = some (.int .u8 ((Z r).getD c 0))) :
    DatasAt w (some x) len A L C (fun r => (Z r).take (L r)) := by
  refine ⟨fun hm => ?_, fun r hr => ?_, fun r hr ha => ?_, fun r hr => ?_⟩
  · obtain ⟨b, off, spot⟩ := x
    have hspot : spot = none := by simpa [Addr.add] using World.cell?_spot (h 0 (by omega)).1
    subst hspot
    refine ⟨b, off, rfl, fun r hr => ?_⟩
    have := (h r (by omega)).1
    rw [Addr.add_lit] at this
    exact this
  · obtain ⟨h1, h2, h3, h4, _, h6, h7⟩ := h r (by omega)
    refine ⟨by simp; omega, fun hn => ?_⟩
    cases ha : A r with
    | none => have := h6 ha; omega
    | some a' =>
      obtain ⟨b, off, spot⟩ := a'
      have hc := (h7 _ ha).2
      have hspot : spot = none := by simpa [Addr.add] using World.cell?_spot (hc 0 (by omega))
      subst hspot
      refine ⟨b, off, rfl, fun i hi => ?_⟩
      have h8 := hc i (by omega)
      rw [Addr.add_lit] at h8
      rw [h8]
      simp [List.getD, hi]
  · obtain ⟨h1, h2, h3, h4, _, h6, h7⟩ := h r (by omega)
    have := h6 ha
    omega
  · obtain ⟨h1, h2, h3, h4, _, h6, h7⟩ := h r (by omega)
    omega
end Go.Proofs.Qxb6603126a
