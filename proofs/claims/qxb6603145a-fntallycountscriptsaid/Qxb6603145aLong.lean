import Derived.Test.Qxb6603145aCopy
namespace Go.Proofs.Qxb6603145a
open Go.RowKit

set_option maxRecDepth 100000 in
set_option maxHeartbeats 400000 in
/-- Too long a script: true at once. -/
theorem script_long (c0 f0 s0 : Int) (a3 : Option Addr) (n3 c3 : Nat) (a4 : Option Addr) (n4 c4 : Nat) (w : World) (hn3 : n3 ≤ maxLen) (hn4 : n4 ≤ maxLen) (h : 524288 < n3 ∨ 65536 < n4) :
    Calls Try.prog 4 #[.int .i64 c0, .int .i64 f0, .int .i64 s0, .slice a3 n3 c3, .slice a4 n4 c4] w fun e w' => e = .returned (.bool true) ∧ w' = w := by
  unfold maxLen at hn3 hn4
  by_cases h1 : (1048576 : Int) < n3
  · go_enter Try.func4, Try.ntmps4
    go_wp2
    go_ret
    exact ⟨rfl, rfl⟩
  by_cases h2 : (1048576 : Int) < n4
  · go_enter Try.func4, Try.ntmps4
    go_wp2
    go_ret
    exact ⟨rfl, rfl⟩
  by_cases h3 : (1048576 : Int) < (n3 : Int) + (n4 : Int)
  · go_enter Try.func4, Try.ntmps4
    go_wp2
    go_ret
    exact ⟨rfl, rfl⟩
  by_cases h4 : (524288 : Int) < n3
  · go_enter Try.func4, Try.ntmps4
    go_wp2
    go_ret
    exact ⟨rfl, rfl⟩
  · have h5 : (65536 : Int) < n4 := by omega
    go_enter Try.func4, Try.ntmps4
    go_wp2
    go_ret
    exact ⟨rfl, rfl⟩
end Go.Proofs.Qxb6603145a
