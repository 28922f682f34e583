import Derived.Test.Qxb6602542aClone
import Derived.Deep.QuietTactic
import Derived.BigQuiet
namespace Go.Proofs.Qxb6602542a
open Go.RowKit

set_option maxHeartbeats 400000 in
theorem equal_pos (b1 o1 c1 b2 o2 c2 n : Nat) (zs : List Int) (w : World) (hm : n ≤ 1048576)
    (h1 : ∀ i, i < n → w.cell? ⟨b1, o1 + i, none⟩ = some (.int .u8 (zs.getD i 0)))
    (h2 : ∀ i, i < n → w.cell? ⟨b2, o2 + i, none⟩ = some (.int .u8 (zs.getD i 0))) :
    Calls Try.prog 20 #[.slice (some ⟨b1, o1, none⟩) n c1, .slice (some ⟨b2, o2, none⟩) n c2] w fun e w' => e = .returned (.bool true) ∧ ∃ q, w' = w.drewN q := by
  have hne : ((n : Int) != (n : Int)) = false := by simp
  go_enter Try.func20, Try.ntmps20
  go_wp2
  go_loopw [5] (fun i wr => ∃ k : Nat, k ≤ n ∧ i = .int .i64 k ∧ ∃ q, wr = w.drewN q) (fun i _ => n - (intOf i).toNat)
  case atStart => exact ⟨0, Nat.zero_le _, rfl, 0, rfl⟩
  case round =>
    obtain ⟨k, hk, rfl, q, rfl⟩ := hrel
    by_cases hlt : k < n
    · have hc1 : w.cell? ⟨b1, o1 + k, none⟩ = some (.int .u8 (zs.getD k 0)) := h1 k hlt
      have hc2 : w.cell? ⟨b2, o2 + k, none⟩ = some (.int .u8 (zs.getD k 0)) := h2 k hlt
      obtain ⟨z, hzk⟩ : ∃ z, zs.getD k 0 = z := ⟨_, rfl⟩
      rw [hzk] at hc1 hc2
      have hlt' : (k : Int) < (n : Int) := by omega
      have hz0 : (z != z) = false := by simp
      clear hzk h1 h2
      go_wp2_with fail
      go_quiet (fail)
      go_wp2_with fail
      go_roundw
      case rel => exact ⟨k + 1, by omega, by go_num, _, rfl⟩
      case measure => simp [intOf]; omega
    · obtain rfl : k = n := by omega
      go_wp2_with fail
      go_ret
      exact ⟨rfl, q, rfl⟩

set_option maxHeartbeats 400000 in
theorem equal_zero (a1 a2 : Option Addr) (c1 c2 : Nat) (w : World) :
    Calls Try.prog 20 #[.slice a1 0 c1, .slice a2 0 c2] w fun e w' => e = .returned (.bool true) ∧ ∃ q, w' = w.drewN q := by
  go_enter Try.func20, Try.ntmps20
  go_wp2_with fail
  refine wp_loop_rounds 1 ?_
  rw [rounds_succ]
  go_wp2_with fail
  go_ret
  exact ⟨rfl, 0, rfl⟩

/-- 'zzEqualBytes' at two slices with the same elements. -/
theorem equal_same (a1 a2 : Option Addr) (c1 c2 n : Nat) (zs : List Int) (w : World) (hm : n ≤ 1048576) (h1 : Elems .u8 w a1 n zs) (h2 : Elems .u8 w a2 n zs) :
    Calls Try.prog 20 #[.slice a1 n c1, .slice a2 n c2] w fun e w' => e = .returned (.bool true) ∧ ∃ q, w' = w.drewN q := by
  by_cases hn : 0 < n
  · obtain ⟨b1, o1, rfl, g1⟩ := h1.2 hn
    obtain ⟨b2, o2, rfl, g2⟩ := h2.2 hn
    exact equal_pos b1 o1 c1 b2 o2 c2 n zs w hm g1 g2
  · obtain rfl : n = 0 := by omega
    exact equal_zero a1 a2 c1 c2 w
end Go.Proofs.Qxb6602542a
