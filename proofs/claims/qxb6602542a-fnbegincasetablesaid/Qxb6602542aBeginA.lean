import Derived.Test.Qxb6602542aStack
namespace Go.Proofs.Qxb6602542a
open Go.RowKit

theorem Elems.below {k : IntKind} {w w' : World} {a : Option Addr} {n : Nat} {zs : List Int} (h : Elems k w a n zs) (hb : Below w.heap.size w w') : Elems k w' a n zs := by
  refine ⟨h.1, fun hn => ?_⟩
  obtain ⟨b, off, rfl, hc⟩ := h.2 hn
  refine ⟨b, off, rfl, fun i hi => ?_⟩
  have hlt : b < w.heap.size := World.block_lt_of_cell? w _ (hc i hi)
  rw [hb.cell (by exact hlt)]
  exact hc i hi

theorem bcell {W w1 : World} (hb : Below W.heap.size W w1) : (∀ b o, b < W.heap.size → w1.cell? ⟨b, o, none⟩ = W.cell? ⟨b, o, none⟩) ∧ (∀ b o, b < W.heap.size → w1.frozen? ⟨b, o, none⟩ = W.frozen? ⟨b, o, none⟩) :=
  ⟨fun b o h => hb.cell (p := ⟨b, o, none⟩) h, fun b o h => hb.frozen (p := ⟨b, o, none⟩) h⟩

set_option maxRecDepth 100000 in
set_option maxHeartbeats 400000 in
/-- Too long an input: the law answers true at once. -/
theorem begin_long (st lim dep ob : Int) (a : Option Addr) (n c : Nat) (key : Bool) (left : ByteArray) (hex vals oab ch : Int) (w : World) (hn : n ≤ maxLen) (hl : left.size ≤ maxLen)
    (h : 1048576 < n ∨ 1048576 < left.size ∨ 1048576 < n + left.size) :
    Calls Try.prog 5 #[.int .u8 st, .int .i64 lim, .int .i64 dep, .int .u64 ob, .slice a n c, .bool key, .string left, .int .i64 hex, .int .i64 vals, .int .i64 oab, .int .u8 ch] w fun e w' => e = .returned (.bool true) ∧ w' = w := by
  unfold maxLen at hn hl
  by_cases h1 : (1048576 : Int) < n
  · go_enter Try.func5, Try.ntmps5
    go_wp2
    go_ret
    exact ⟨rfl, rfl⟩
  · by_cases h2 : (1048576 : Int) < left.size
    · go_enter Try.func5, Try.ntmps5
      go_wp2
      go_ret
      exact ⟨rfl, rfl⟩
    · have h3 : (1048576 : Int) < (n : Int) + left.size := by omega
      go_enter Try.func5, Try.ntmps5
      go_wp2
      go_ret
      exact ⟨rfl, rfl⟩

set_option maxRecDepth 100000 in
set_option maxHeartbeats 400000 in
/-- Too deep: true at once. -/
theorem begin_deep (st lim dep ob : Int) (a : Option Addr) (n c : Nat) (key : Bool) (left : ByteArray) (hex vals oab ch : Int) (w : World)
    (h3 : (n : Int) + left.size ≤ 1048576) (hd : 65536 < dep) :
    Calls Try.prog 5 #[.int .u8 st, .int .i64 lim, .int .i64 dep, .int .u64 ob, .slice a n c, .bool key, .string left, .int .i64 hex, .int .i64 vals, .int .i64 oab, .int .u8 ch] w fun e w' => e = .returned (.bool true) ∧ w' = w := by
  have h1 : (n : Int) ≤ 1048576 := by omega
  have h2 : (left.size : Int) ≤ 1048576 := by omega
  go_enter Try.func5, Try.ntmps5
  go_wp2
  go_ret
  exact ⟨rfl, rfl⟩

set_option maxRecDepth 100000 in
set_option maxHeartbeats 400000 in
/-- The three do not fit together: true. -/
theorem begin_unfit (st lim dep ob : Int) (a : Option Addr) (n c : Nat) (zs : List Int) (key : Bool) (left : ByteArray) (hex vals oab ch : Int) (w : World)
    (hz : Elems .u8 w a n zs) (ha : a = none → n = 0 ∧ c = 0)
    (h3 : (n : Int) + left.size ≤ 1048576) (hd : dep ≤ 65536) (hu : dep < 0 ∨ n ≠ want dep.toNat) :
    Calls Try.prog 5 #[.int .u8 st, .int .i64 lim, .int .i64 dep, .int .u64 ob, .slice a n c, .bool key, .string left, .int .i64 hex, .int .i64 vals, .int .i64 oab, .int .u8 ch] w fun e w' => e = .returned (.bool true) ∧ Below w.heap.size w w' := by
  have h1 : (n : Int) ≤ 1048576 := by omega
  have h2 : (left.size : Int) ≤ 1048576 := by omega
  by_cases hneg : dep < 0
  · go_enter Try.func5, Try.ntmps5
    go_wp2_with (go_at_call 23; go_in)
    refine (clone_any _ _ _ zs _ (by omega) hz ha).mono ?_
    rintro e w1 ⟨a', c', rfl, hown, hb1⟩
    go_wp2_with fail
    refine (stack_neg _ _ _ _ hneg).mono ?_
    rintro e w2 ⟨rfl, rfl⟩
    go_wp2_with fail
    go_ret
    exact ⟨rfl, hb1⟩
  · obtain ⟨d, rfl⟩ := Int.eq_ofNat_of_zero_le (show 0 ≤ dep by omega)
    have hu' : n ≠ want d := by rcases hu with h | h; exact absurd h hneg; simpa using h
    clear hu
    go_enter Try.func5, Try.ntmps5
    go_wp2_with (go_at_call 23; go_in)
    refine (clone_any _ _ _ zs _ (by omega) hz ha).mono ?_
    rintro e w1 ⟨a', c', rfl, hown, hb1⟩
    go_wp2_with fail
    refine (stack_bad _ _ _ _ _ _ (by omega) hu').mono ?_
    rintro e w2 ⟨rfl, rfl⟩
    go_wp2_with fail
    go_ret
    exact ⟨rfl, hb1⟩
end Go.Proofs.Qxb6602542a
