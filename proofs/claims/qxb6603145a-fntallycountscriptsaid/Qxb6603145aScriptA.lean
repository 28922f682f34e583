import Derived.Test.Qxb6603145aSums
import Derived.Deep.RegionWith
import Derived.Deep.CutRange
namespace Go.Proofs.Qxb6603145a
open Go.RowKit

/-- The tally is sound. -/
def Sound (c f s : Int) : Prop := 0 ≤ f ∧ f ≤ c ∧ 0 ≤ s ∧ s ≤ c

theorem bucket_yes {g : Nat → Int} {k : Nat} {b d : Int} (h : b = wrap64 (sumI g k)) (hg : g k = d) : wrap64 (b + d) = wrap64 (sumI g (k + 1)) := by rw [h, wrap_add, sumI_succ, hg]
theorem bucket_no {g : Nat → Int} {k : Nat} {b : Int} (h : b = wrap64 (sumI g k)) (hg : g k = 0) : b = wrap64 (sumI g (k + 1)) := by rw [h, sumI_succ, hg, Int.add_zero]
theorem part_yes {ms ds : List Int} {k : Nat} {z d j : Int} (hz : z = ms.getD k 0) (hd : d = ds.getD k 0) (h : cls z = j) : part (isCls j) ms ds k = d := by
  unfold part isCls; rw [← hz, ← hd, h]; simp
theorem part_no {ms ds : List Int} {k : Nat} {z j i : Int} (hz : z = ms.getD k 0) (h : cls z = j) (hne : ¬ j = i) : part (isCls i) ms ds k = 0 := by
  unfold part isCls; rw [← hz, h]; simp [hne]

theorem start_tests (c f s : Int) : (decide (0 ≤ f) = false) ∨ (decide (0 ≤ f) = true ∧ decide (f ≤ c) = false) ∨ (decide (0 ≤ f) = true ∧ decide (f ≤ c) = true ∧ decide (0 ≤ s) = false) ∨
    (decide (0 ≤ f) = true ∧ decide (f ≤ c) = true ∧ decide (0 ≤ s) = true ∧ decide (s ≤ c) = false) ∨ (decide (0 ≤ f) = true ∧ decide (f ≤ c) = true ∧ decide (0 ≤ s) = true ∧ decide (s ≤ c) = true) := by
  by_cases h1 : 0 ≤ f <;> by_cases h2 : f ≤ c <;> by_cases h3 : 0 ≤ s <;> by_cases h4 : s ≤ c <;> simp [h1, h2, h3, h4]

theorem wrap64_bounds (x : Int) : -9223372036854775808 ≤ wrap64 x ∧ wrap64 x ≤ 9223372036854775807 := by unfold wrap64; omega
theorem wrap64_id (x : Int) (h1 : -9223372036854775808 ≤ x) (h2 : x ≤ 9223372036854775807) : wrap64 x = x := by unfold wrap64; omega

theorem zero_wrap {g : Nat → Int} : (0 : Int) = wrap64 (sumI g 0) := by show (0 : Int) = wrap64 0; unfold wrap64; omega
theorem wrap2 (x a b : Int) : wrap64 (x + (a + b)) = wrap64 (wrap64 (x + wrap64 a) + wrap64 b) := by unfold wrap64; omega
theorem wrap4 (x a b c d : Int) : wrap64 (x + (a + b + c + d)) = wrap64 (wrap64 (wrap64 (wrap64 (x + wrap64 a) + wrap64 b) + wrap64 c) + wrap64 d) := by unfold wrap64; omega

theorem back_c {g : Nat → Int} {k : Nat} {c0 S rc d : Int} (h : rc = wrap64 (c0 + (S - sumI g (k + 1)))) (hg : g k = d) : wrap64 (rc + d) = wrap64 (c0 + (S - sumI g k)) := by
  rw [h, wrap_add, sumI_succ, hg]
  exact congrArg wrap64 (by omega)
theorem back_f {g : Nat → Int} {k : Nat} {c0 S rc d : Int} {b : Bool} (h : rc = wrap64 (c0 + (S - sumI g (k + 1)))) (hg : g k = if b = true then d else 0) : addIf b rc d = wrap64 (c0 + (S - sumI g k)) := by
  rw [addIf_wrap b _ _ d h, sumI_succ, hg]
  exact congrArg wrap64 (by omega)

theorem sound_step (c f s d : Int) (b1 b2 : Bool) (h : Sound c f s) (hd0 : 0 ≤ d) (hd1 : d ≤ 9223372036854775807 - c) : Sound (wrap64 (c + d)) (addIf b1 f d) (addIf b2 s d) := by
  obtain ⟨h1, h2, h3, h4⟩ := h
  have e : wrap64 (c + d) = c + d := wrap64_id _ (by omega) (by omega)
  have ef : wrap64 (f + d) = f + d := wrap64_id _ (by omega) (by omega)
  have es : wrap64 (s + d) = s + d := wrap64_id _ (by omega) (by omega)
  cases b1 <;> cases b2 <;> simp [Sound, addIf, e, ef, es] <;> omega
end Go.Proofs.Qxb6603145a
