import Derived.Test.Qxb6603126aCloneD
namespace Go.Proofs.Qxb6603126a
open Go.RowKit

theorem nil32 : ∀ (w : World) (a : Option Addr) (n c n' c' : Nat), (binOp .eql 32 (.slice a n c) (.slice none n' c')).run Try.prog w = .ok (.bool a.isNone) w :=
  fun w a n c n' c' => Lib.run_eql_slice_nil w _ _ a n c n' c' Try.underlying32

set_option maxRecDepth 100000 in
set_option maxHeartbeats 400000 in
theorem same_pos (b1 o1 c1 b2 o2 c2 n : Nat) (zs : List Int) (w : World) (hm : n ≤ 1048576)
    (h1 : ∀ i, i < n → w.cell? ⟨b1, o1 + i, none⟩ = some (.int .u8 (zs.getD i 0)))
    (h2 : ∀ i, i < n → w.cell? ⟨b2, o2 + i, none⟩ = some (.int .u8 (zs.getD i 0))) :
    Calls Try.prog 14 #[.slice (some ⟨b1, o1, none⟩) n c1, .slice (some ⟨b2, o2, none⟩) n c2] w fun e w' => e = .returned (.bool true) ∧ ∃ q, w' = w.drewN q := by
  have q32 := nil32
  have hne : ((n : Int) != (n : Int)) = false := by simp
  go_enter Try.func14, Try.ntmps14
  go_wp2
  go_loopw [5] (fun i wr => ∃ k : Nat, k ≤ n ∧ i = .int .i64 k ∧ ∃ q, wr = w.drewN q) (fun i _ => n - (intOf i).toNat)
  case atStart => exact ⟨0, Nat.zero_le _, rfl, 0, rfl⟩
  case round =>
    obtain ⟨k, hk, rfl, q, rfl⟩ := hrel
    by_cases hlt : k < n
    · have hc1 : w.cell? ⟨b1, o1 + k, none⟩ = some (.int .u8 (zs.getD k 0)) := h1 k hlt
      have hc2 : w.cell? ⟨b2, o2 + k, none⟩ = some (.int .u8 (zs.getD k 0)) := h2 k hlt
      obtain ⟨z, hzk⟩ : ∃ z, zs.getD k 0 = z := ⟨_, rfl⟩
      rw [hzk] at hc1 hc2
      have hlt' : (k : Int) < (n : Int) := by omega
      have hz0 : (z != z) = false := by simp
      clear hzk h1 h2
      go_wp2_with fail
      go_quiet (fail)
      go_wp2_with fail
      go_roundw
      case rel => exact ⟨k + 1, by omega, by go_num, _, rfl⟩
      case measure => simp [intOf]; omega
    · obtain rfl : k = n := by omega
      go_wp2_with fail
      go_ret
      exact ⟨rfl, q, rfl⟩

set_option maxRecDepth 100000 in
set_option maxHeartbeats 400000 in
theorem same_zero (x1 x2 : Addr) (c1 c2 : Nat) (w : World) :
    Calls Try.prog 14 #[.slice (some x1) 0 c1, .slice (some x2) 0 c2] w fun e w' => e = .returned (.bool true) ∧ ∃ q, w' = w.drewN q := by
  have q32 := nil32
  go_enter Try.func14, Try.ntmps14
  go_wp2_with fail
  refine wp_loop_rounds 1 ?_
  rw [rounds_succ]
  go_wp2_with fail
  go_ret
  exact ⟨rfl, 0, rfl⟩

set_option maxRecDepth 100000 in
set_option maxHeartbeats 400000 in
theorem same_nil (c1 c2 : Nat) (w : World) :
    Calls Try.prog 14 #[.slice none 0 c1, .slice none 0 c2] w fun e w' => e = .returned (.bool true) ∧ ∃ q, w' = w.drewN q := by
  have q32 := nil32
  go_enter Try.func14, Try.ntmps14
  go_wp2_with fail
  refine wp_loop_rounds 1 ?_
  rw [rounds_succ]
  go_wp2_with fail
  go_ret
  exact ⟨rfl, 0, rfl⟩

/-- 'zzSameBytes' at two slices with the same bytes, both nil or neither. -/
theorem same_any (a1 a2 : Option Addr) (c1 c2 n : Nat) (zs : List Int) (w : World) (hm : n ≤ 1048576) (h1 : Elems .u8 w a1 n zs) (h2 : Elems .u8 w a2 n zs) (hs : a1 = none ↔ a2 = none) :
    Calls Try.prog 14 #[.slice a1 n c1, .slice a2 n c2] w fun e w' => e = .returned (.bool true) ∧ ∃ q, w' = w.drewN q := by
  by_cases hn : 0 < n
  · obtain ⟨b1, o1, rfl, g1⟩ := h1.2 hn
    obtain ⟨b2, o2, rfl, g2⟩ := h2.2 hn
    exact same_pos b1 o1 c1 b2 o2 c2 n zs w hm g1 g2
  · obtain rfl : n = 0 := by omega
    cases a1 with
    | none =>
      obtain rfl := hs.1 rfl
      exact same_nil c1 c2 w
    | some x1 =>
      cases a2 with
      | none => exact absurd (hs.2 rfl) (by simp)
      | some x2 => exact same_zero x1 x2 c1 c2 w
end Go.Proofs.Qxb6603126a
