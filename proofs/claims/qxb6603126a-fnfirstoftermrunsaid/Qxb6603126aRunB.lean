import Derived.Test.Qxb6603126aCopy
namespace Go.Proofs.Qxb6603126a
open Go.RowKit

set_option maxRecDepth 100000 in
set_option maxHeartbeats 400000 in
/-- Too many terms, or a last index past the greatest: true at once. -/
theorem run_big (bi bt i j : Int) (a : Option Addr) (n c : Nat) (w : World) (hm : n ≤ maxLen) (hbi : 0 ≤ bi) (hbm : bi ≤ 18446744073709551615) (h : 131072 < n ∨ 18446744073709551615 - bi < n) :
    Calls Try.prog 6 #[.int .u64 bi, .int .u64 bt, .slice a n c, .int .u64 i, .int .u64 j] w fun e w' => e = .returned (.bool true) ∧ w' = w := by
  unfold maxLen at hm
  by_cases h1 : (1048576 : Int) < n
  · go_enter Try.func6, Try.ntmps6
    go_wp2
    go_ret
    exact ⟨rfl, rfl⟩
  · by_cases h2 : (131072 : Int) < n
    · go_enter Try.func6, Try.ntmps6
      go_wp2
      go_ret
      exact ⟨rfl, rfl⟩
    · have h3 : 18446744073709551615 - bi < (n : Int) := by omega
      go_enter Try.func6, Try.ntmps6
      go_wp2
      go_ret
      exact ⟨rfl, rfl⟩

theorem out_tests {bi i j : Int} {n : Nat} (ho : i ≤ bi ∨ bi + n < i ∨ j ≤ bi ∨ bi + n < j) :
    (decide (i ≤ bi) = true) ∨ (decide (i ≤ bi) = false ∧ decide (bi + (n : Int) < i) = true) ∨ (decide (i ≤ bi) = false ∧ decide (bi + (n : Int) < i) = false ∧ decide (j ≤ bi) = true) ∨
      (decide (i ≤ bi) = false ∧ decide (bi + (n : Int) < i) = false ∧ decide (j ≤ bi) = false ∧ decide (bi + (n : Int) < j) = true) := by
  by_cases h1 : i ≤ bi
  · exact .inl (by simpa using h1)
  by_cases h2 : bi + (n : Int) < i
  · exact .inr (.inl ⟨by simpa using h1, by simpa using h2⟩)
  by_cases h3 : j ≤ bi
  · exact .inr (.inr (.inl ⟨by simpa using h1, by simpa using h2, by simpa using h3⟩))
  · exact .inr (.inr (.inr ⟨by simpa using h1, by simpa using h2, by simpa using h3, by simp; omega⟩))

set_option maxRecDepth 100000 in
set_option maxHeartbeats 400000 in
theorem run_nil (bi bt i j : Int) (w : World) (hbi : 0 ≤ bi) (hbm : bi ≤ 18446744073709551615) :
    Calls Try.prog 6 #[.int .u64 bi, .int .u64 bt, .slice none 0 0, .int .u64 i, .int .u64 j] w fun e w' => e = .returned (.bool true) ∧ w' = w := by
  have q23 := nilN23
  by_cases h : i ≤ bi
  · go_enter Try.func6, Try.ntmps6
    go_wp2
    go_ret
    exact ⟨rfl, rfl⟩
  · have h2 : bi < i := by omega
    go_enter Try.func6, Try.ntmps6
    go_wp2
    go_ret
    exact ⟨rfl, rfl⟩

set_option maxRecDepth 100000 in
set_option maxHeartbeats 400000 in
theorem run_empty (bi bt i j : Int) (x : Addr) (c : Nat) (w : World) (hbi : 0 ≤ bi) (hbm : bi ≤ 18446744073709551615) :
    Calls Try.prog 6 #[.int .u64 bi, .int .u64 bt, .slice (some x) 0 c, .int .u64 i, .int .u64 j] w fun e w' => e = .returned (.bool true) ∧ Below w.heap.size w w' := by
  obtain ⟨i0, hi, hz0, hz1, hz2⟩ := info_parts Try.info22
  have q23 := nilN23
  by_cases h : i ≤ bi
  · go_enter Try.func6, Try.ntmps6
    go_wp2_with (first | (go_at_call 19; go_in) | (at_make; refine wpList_make_full _ rfl _ _ 23 rfl w.heap.size 22 i0 (.int .u64 0) 1 Try.underlying23 hi hz0 hz1 _ _ _ _ 0 rfl rfl rfl rfl (by omega) (by unfold maxLen; omega) (Nat.le_refl _) ?_))
    intro w1 hown hgrow
    have hB1 : Below w.heap.size w w1 := (Below.refl _ _).grown hgrow (Nat.le_refl _) (fun k hk => by cases hk)
    clear hown hgrow
    go_wp2_with (refine wpList_copy_nothing rfl _ _ 23 23 rfl 22 Try.underlying23 size22 _ _ _ _ _ _ rfl rfl rfl ?_)
    go_ret
    exact ⟨rfl, hB1⟩
  · have h2 : bi < i := by omega
    go_enter Try.func6, Try.ntmps6
    go_wp2_with (first | (go_at_call 19; go_in) | (at_make; refine wpList_make_full _ rfl _ _ 23 rfl w.heap.size 22 i0 (.int .u64 0) 1 Try.underlying23 hi hz0 hz1 _ _ _ _ 0 rfl rfl rfl rfl (by omega) (by unfold maxLen; omega) (Nat.le_refl _) ?_))
    intro w1 hown hgrow
    have hB1 : Below w.heap.size w w1 := (Below.refl _ _).grown hgrow (Nat.le_refl _) (fun k hk => by cases hk)
    clear hown hgrow
    go_wp2_with (refine wpList_copy_nothing rfl _ _ 23 23 rfl 22 Try.underlying23 size22 _ _ _ _ _ _ rfl rfl rfl ?_)
    go_ret
    exact ⟨rfl, hB1⟩

set_option maxRecDepth 100000 in
set_option maxHeartbeats 400000 in
theorem run_out (bi bt i j : Int) (b off n c : Nat) (ts : List Int) (w : World) (hn : 0 < n) (hl : ts.length = n) (hm : n ≤ 131072) (hbi : 0 ≤ bi) (hbn : bi + n ≤ 18446744073709551615)
    (hc : ∀ i, i < n → w.cell? ⟨b, off + i, none⟩ = some (.int .u64 (ts.getD i 0))) (ho : i ≤ bi ∨ bi + n < i ∨ j ≤ bi ∨ bi + n < j) :
    Calls Try.prog 6 #[.int .u64 bi, .int .u64 bt, .slice (some ⟨b, off, none⟩) n c, .int .u64 i, .int .u64 j] w fun e w' => e = .returned (.bool true) ∧ Below w.heap.size w w' := by
  obtain ⟨i0, hi, hz0, hz1, hz2⟩ := info_parts Try.info22
  have q23 := nilN23
  have hb : b < w.heap.size := World.block_lt_of_cell? w _ (hc 0 hn)
  have HO := hide (out_tests ho)
  clear ho
  go_enter Try.func6, Try.ntmps6
  go_wp2_with (first | (go_at_call 19; go_in) | (at_make; refine wpList_make_full _ rfl _ _ 23 rfl w.heap.size 22 i0 (.int .u64 0) 1 Try.underlying23 hi hz0 hz1 _ _ _ _ n rfl rfl rfl rfl (by rw [hz2]; omega) (by unfold maxLen; omega) (Nat.le_refl _) ?_))
  intro w1 hown hgrow
  have hB1 : Below w.heap.size w w1 := (Below.refl _ _).grown hgrow (Nat.le_refl _) (fun k hk => by cases hk)
  obtain ⟨cur, hcur, hcl⟩ := made_row hown
  have HC := hide hcur
  have HS := hide (src_cells hl (fun i hi => (hB1.cell (by exact hb)).trans (hc i hi)))
  clear hown hgrow hcur
  go_wp2_with (refine wpList_copy_splice rfl _ _ 23 23 rfl 22 Try.underlying23 size22 _ _ _ _ _ _ rfl rfl w.heap.size 0 cur 22 HC.out (ts.map (Value.int .u64)) (by simp [hl]) (fun _ => ⟨rfl, _, rfl, HS.out⟩) (by simp; omega) (ints_oneCell _ _) w.heap.size w hB1 (Nat.le_refl _) ?_)
  intro w2 HG2 hB2
  rcases HO.out with h1 | ⟨h1, h2⟩ | ⟨h1, h2, h3⟩ | ⟨h1, h2, h3, h4⟩
  all_goals
    go_wp2_with fail
    go_ret
    exact ⟨rfl, hB2⟩
end Go.Proofs.Qxb6603126a
