import Derived.Test.Qxb6602542aNumA
namespace Go.Proofs.Qxb6602542a
open Go.RowKit

set_option maxRecDepth 100000 in
set_option maxHeartbeats 400000 in
/-- Too long an input: the law answers true at once. -/
theorem num_long (st lim dep ob : Int) (a : Option Addr) (n c : Nat) (key : Bool) (left : ByteArray) (hex vals oab ch i : Int) (w : World) (hn : n ≤ maxLen) (hl : left.size ≤ maxLen)
    (h : 1048576 < n ∨ 1048576 < left.size ∨ 1048576 < n + left.size) :
    Calls Try.prog 6 #[.int .u8 st, .int .i64 lim, .int .i64 dep, .int .u64 ob, .slice a n c, .bool key, .string left, .int .i64 hex, .int .i64 vals, .int .i64 oab, .int .u8 ch, .int .i64 i] w fun e w' => e = .returned (.bool true) ∧ w' = w := by
  unfold maxLen at hn hl
  by_cases h1 : (1048576 : Int) < n
  · go_enter Try.func6, Try.ntmps6
    go_wp2
    go_ret
    exact ⟨rfl, rfl⟩
  · by_cases h2 : (1048576 : Int) < left.size
    · go_enter Try.func6, Try.ntmps6
      go_wp2
      go_ret
      exact ⟨rfl, rfl⟩
    · have h3 : (1048576 : Int) < (n : Int) + left.size := by omega
      go_enter Try.func6, Try.ntmps6
      go_wp2
      go_ret
      exact ⟨rfl, rfl⟩

set_option maxRecDepth 100000 in
set_option maxHeartbeats 400000 in
/-- A state outside a number: true. -/
theorem num_other (st lim dep ob : Int) (a : Option Addr) (n c : Nat) (key : Bool) (left : ByteArray) (hex vals oab ch i : Int) (w : World)
    (h3 : (n : Int) + left.size ≤ 1048576) (hs : st < 10 ∨ 17 < st) :
    Calls Try.prog 6 #[.int .u8 st, .int .i64 lim, .int .i64 dep, .int .u64 ob, .slice a n c, .bool key, .string left, .int .i64 hex, .int .i64 vals, .int .i64 oab, .int .u8 ch, .int .i64 i] w fun e w' => e = .returned (.bool true) ∧ w' = w := by
  have h1 : (n : Int) ≤ 1048576 := by omega
  have h2 : (left.size : Int) ≤ 1048576 := by omega
  have x10 : (st == 10) = false := by simp; omega
  have x11 : (st == 11) = false := by simp; omega
  have x12 : (st == 12) = false := by simp; omega
  have x13 : (st == 13) = false := by simp; omega
  have x14 : (st == 14) = false := by simp; omega
  have x15 : (st == 15) = false := by simp; omega
  have x16 : (st == 16) = false := by simp; omega
  have x17 : (st == 17) = false := by simp; omega
  clear hs
  go_enter Try.func6, Try.ntmps6
  go_wp2
  go_ret
  exact ⟨rfl, rfl⟩
end Go.Proofs.Qxb6602542a
