import Derived.Test.Qxb6603126aCopy
namespace Go.Proofs.Qxb6603126a
open Go.RowKit

set_option maxRecDepth 100000 in
set_option maxHeartbeats 400000 in
/-- Too many terms, the greatest base, or a last index past the greatest: true at once. -/
theorem ex_big (bi bt i : Int) (a : Option Addr) (n c : Nat) (w : World) (hm : n ≤ maxLen) (hbi : 0 ≤ bi) (hbm : bi ≤ 18446744073709551615) (h : 131072 < n ∨ bi = 18446744073709551615 ∨ 18446744073709551615 - bi < n) :
    Calls Try.prog 5 #[.int .u64 bi, .int .u64 bt, .slice a n c, .int .u64 i] w fun e w' => e = .returned (.bool true) ∧ w' = w := by
  unfold maxLen at hm
  by_cases h1 : (1048576 : Int) < n
  · go_enter Try.func5, Try.ntmps5
    go_wp2
    go_ret
    exact ⟨rfl, rfl⟩
  · by_cases h2 : (131072 : Int) < n
    · go_enter Try.func5, Try.ntmps5
      go_wp2
      go_ret
      exact ⟨rfl, rfl⟩
    · by_cases h3 : bi = 18446744073709551615
      · have kb : (bi == 18446744073709551615) = true := by simp; omega
        clear h3 h
        go_enter Try.func5, Try.ntmps5
        go_wp2
        go_ret
        exact ⟨rfl, rfl⟩
      · have kb : (bi == 18446744073709551615) = false := by simp; omega
        have h4 : 18446744073709551615 - bi < (n : Int) := by omega
        go_enter Try.func5, Try.ntmps5
        go_wp2
        go_ret
        exact ⟨rfl, rfl⟩
end Go.Proofs.Qxb6603126a
