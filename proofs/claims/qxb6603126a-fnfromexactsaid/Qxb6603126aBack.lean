import Derived.Test.Qxb6603126aTerm
namespace Go.Proofs.Qxb6603126a

theorem back_bounds (f : Nat → Int) (t : Int) (j : Nat) (h : 1 ≤ j) : 1 ≤ back f t j ∧ back f t j ≤ j := by
  induction j with
  | zero => omega
  | succ k ih =>
    by_cases hk : k = 0
    · subst hk; rw [back_one f t _ (by omega)]; omega
    · by_cases he : f (k + 1 - 1) = t
      · rw [back_yes f t (k + 1) (by omega) he]
        have := ih (by omega)
        simp only [Nat.add_sub_cancel]
        omega
      · rw [back_no f t (k + 1) (by omega) he]; omega

theorem back_run (f : Nat → Int) (t : Int) (j m : Nat) (h : 1 ≤ j) (h1 : back f t j ≤ m) (h2 : m < j) : f m = t := by
  induction j with
  | zero => omega
  | succ k ih =>
    by_cases hk : k = 0
    · subst hk
      rw [back_one f t _ (by omega)] at h1
      omega
    · by_cases he : f (k + 1 - 1) = t
      · rw [back_yes f t (k + 1) (by omega) he] at h1
        by_cases hm : m = k
        · subst hm; simpa using he
        · exact ih (by omega) (by simpa using h1) (by omega)
      · rw [back_no f t (k + 1) (by omega) he] at h1; omega

theorem back_stop (f : Nat → Int) (t : Int) (j : Nat) (h : 1 ≤ j) (h1 : 1 < back f t j) : f (back f t j - 1) ≠ t := by
  induction j with
  | zero => omega
  | succ k ih =>
    by_cases hk : k = 0
    · subst hk
      rw [back_one f t _ (by omega)] at h1
      omega
    · by_cases he : f (k + 1 - 1) = t
      · rw [back_yes f t (k + 1) (by omega) he] at h1 ⊢
        simp only [Nat.add_sub_cancel] at h1 ⊢
        exact ih (by omega) h1
      · rw [back_no f t (k + 1) (by omega) he]
        exact he

/-- Where the run of equal terms that ends at j begins. -/
def runStart (f : Nat → Int) (j : Nat) : Nat := back f (f j) j

theorem runStart_bounds (f : Nat → Int) (j : Nat) (h : 1 ≤ j) : 1 ≤ runStart f j ∧ runStart f j ≤ j := back_bounds f _ j h
theorem runStart_run (f : Nat → Int) (j m : Nat) (h : 1 ≤ j) (h1 : runStart f j ≤ m) (h2 : m ≤ j) : f m = f j := by
  by_cases e : m = j
  · rw [e]
  · exact back_run f _ j m h h1 (by omega)
theorem runStart_stop (f : Nat → Int) (j : Nat) (h : 1 ≤ j) (h1 : 1 < runStart f j) : f (runStart f j - 1) ≠ f j := back_stop f _ j h h1

/-- What is known of a run's start says what it is. -/
theorem runStart_is (f : Nat → Int) (j p : Nat) (h1 : 1 ≤ p) (h2 : p ≤ j) (hr : ∀ m, p ≤ m → m ≤ j → f m = f j) (hs : 1 < p → f (p - 1) ≠ f j) : runStart f j = p := by
  have hb := runStart_bounds f j (by omega)
  have h3 : ¬ runStart f j < p := fun h => by
    have := runStart_run f j (p - 1) (by omega) (by omega) (by omega)
    exact hs (by omega) this
  have h4 : ¬ p < runStart f j := fun h => by
    have := hr (runStart f j - 1) (by omega) (by omega)
    exact runStart_stop f j (by omega) (by omega) this
  omega

theorem runStart_idem (f : Nat → Int) (j : Nat) (h : 1 ≤ j) : runStart f (runStart f j) = runStart f j := by
  have hb := runStart_bounds f j h
  have he := runStart_run f j (runStart f j) h (Nat.le_refl _) hb.2
  refine runStart_is f _ _ hb.1 (Nat.le_refl _) (fun m h1 h2 => ?_) (fun h1 => ?_)
  · rw [show m = runStart f j by omega]
  · rw [he]; exact runStart_stop f j h h1

theorem runStart_mono (f : Nat → Int) (x y : Nat) (h : 1 ≤ x) (hxy : x ≤ y) : runStart f x ≤ runStart f y := by
  have hb := runStart_bounds f x h
  have hc := runStart_bounds f y (by omega)
  by_cases hq : runStart f y < runStart f x
  · have h1 := runStart_run f y x (by omega) (by omega) hxy
    have h2 := runStart_run f y (runStart f x - 1) (by omega) (by omega) (by omega)
    exact absurd (h2.trans h1.symm) (runStart_stop f x h (by omega))
  · omega

theorem runStart_same (f : Nat → Int) (x y : Nat) (h : 1 ≤ x) (hxy : x ≤ y) (hq : runStart f y ≤ x) : runStart f x = runStart f y := by
  have hc := runStart_bounds f y (by omega)
  have h1 := runStart_run f y x (by omega) hq hxy
  refine runStart_is f x _ hc.1 hq (fun m a b => ?_) (fun a => ?_)
  · rw [h1]; exact runStart_run f y m (by omega) a (by omega)
  · rw [h1]; exact runStart_stop f y (by omega) a
end Go.Proofs.Qxb6603126a
