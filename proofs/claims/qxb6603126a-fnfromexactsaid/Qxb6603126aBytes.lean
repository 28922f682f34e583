import Derived.Test.Qxb6603126aData
namespace Go.Proofs.Qxb6603126a
open Go.RowKit

def Bounded (n m : Nat) (L : Nat → Nat) : Prop := n ≤ 1048576 ∧ m ≤ 1048576 ∧ ∀ r, r < m → L r ≤ 1048576

set_option maxRecDepth 100000 in
set_option maxHeartbeats 400000 in
theorem logBytes_zero (ta : Option Addr) (n tc : Nat) (da : Option Addr) (dc : Nat) (L : Nat → Nat) (w : World) (hn : n ≤ 1048576) :
    Calls Try.prog 10 #[.slice ta n tc, .slice da 0 dc] w fun e w' => ∃ r : Int, e = .returned (.int .i64 r) ∧ w' = w ∧ (0 ≤ r → Small n 0 L) := by
  by_cases h1 : (131072 : Int) < n
  · go_enter Try.func10, Try.ntmps10
    go_wp2
    go_ret
    exact ⟨-1, rfl, rfl, fun h => by omega⟩
  have k1 : decide ((131072 : Int) < n) = false := by simp; omega
  by_cases h3 : (1048576 : Int) < 8 * (n : Int)
  · go_enter Try.func10, Try.ntmps10
    go_wp2
    go_ret
    exact ⟨-1, rfl, rfl, fun h => by omega⟩
  go_enter Try.func10, Try.ntmps10
  go_wp2_with fail
  refine wp_loop_rounds 1 ?_
  rw [rounds_succ]
  go_wp2_with fail
  go_ret
  exact ⟨_, rfl, rfl, by intros; exact ⟨by omega, by omega, Nat.zero_le _⟩⟩

theorem logBytes_any (ta : Option Addr) (n tc : Nat) (da : Option Addr) (m dc : Nat) (A : Nat → Option Addr) (L C : Nat → Nat) (Z : Nat → List Int) (w : World) (hb : Bounded n m L) (hd : DatasAt w da m A L C Z) :
    Calls Try.prog 10 #[.slice ta n tc, .slice da m dc] w fun e w' => ∃ r : Int, e = .returned (.int .i64 r) ∧ w' = w ∧ (0 ≤ r → Small n m L) := by
  by_cases hm : 0 < m
  · obtain ⟨b, off, rfl, hc⟩ := hd.row hm
    exact logBytes_pos ta n tc b off m dc A L C w hm hb.1 hb.2.1 hb.2.2 hc
  · obtain rfl : m = 0 := by omega
    exact logBytes_zero ta n tc da dc L w hb.1

set_option maxRecDepth 100000 in
set_option maxHeartbeats 400000 in
theorem bytes9_pos (bi bt lo mx : Int) (ta : Option Addr) (n tc b off m dc : Nat) (A : Nat → Option Addr) (L C : Nat → Nat) (w : World) (hm : 0 < m) (hn : n ≤ maxLen) (hm2 : m ≤ maxLen) (hL : ∀ r, r < m → L r ≤ maxLen)
    (hc : ∀ r, r < m → w.cell? ⟨b, off + r, none⟩ = some (.slice (A r) (L r) (C r))) :
    Calls Try.prog 9 #[.int .u64 bi, .int .u64 bt, .slice ta n tc, .slice (some ⟨b, off, none⟩) m dc, .int .u64 lo, .int .i64 mx] w fun e w' => (e = .returned (.bool false) ∧ w' = w) ∨ (e = .returned (.bool true) ∧ w' = w ∧ Bounded n m L) := by
  unfold maxLen at hn hm2 hL
  by_cases h1 : (1048576 : Int) < n
  · go_enter Try.func9, Try.ntmps9
    go_wp2
    go_ret
    exact .inl ⟨rfl, rfl⟩
  by_cases h2 : (1048576 : Int) < m
  · go_enter Try.func9, Try.ntmps9
    go_wp2
    go_ret
    exact .inl ⟨rfl, rfl⟩
  by_cases h3 : (1048576 : Int) < (n : Int) + (m : Int)
  · go_enter Try.func9, Try.ntmps9
    go_wp2
    go_ret
    exact .inl ⟨rfl, rfl⟩
  go_enter Try.func9, Try.ntmps9
  go_wp2_with fail
  go_loop [13, 14] (fun t i => ∃ k : Nat, ∃ S : Nat, k ≤ m ∧ i = .int .i64 k ∧ t = .int .i64 S ∧ S ≤ 1048576 ∧ Hid (∀ r, r < k → L r ≤ 1048576)) (fun _ i => m - (intOf i).toNat)
  case atStart => exact ⟨0, n + m, Nat.zero_le _, rfl, by go_num, by omega, hide (fun r hr => by omega)⟩
  case round =>
    obtain ⟨k, S, hk, rfl, rfl, hS, hall⟩ := hrel
    by_cases hlt : k < m
    · have hcx := hc k hlt
      have hLk := hL k hlt
      have hlt' : (k : Int) < (m : Int) := by omega
      by_cases hb1 : (1048576 : Int) < (L k : Int)
      · go_wp2_with fail
        go_ret
        exact .inl ⟨rfl, rfl⟩
      · by_cases hb2 : (1048576 : Int) < (S : Int) + (L k : Int)
        · go_wp2_with fail
          go_ret
          exact .inl ⟨rfl, rfl⟩
        · go_wp2_with fail
          go_round
          case rel =>
            refine ⟨k + 1, S + L k, by omega, by go_num, by go_num, by omega, hide (fun r hr => ?_)⟩
            by_cases e : r = k
            · rw [e]; omega
            · exact hall.out r (by omega)
          case measure => simp [intOf]; omega
    · obtain rfl : k = m := by omega
      go_wp2_with fail
      go_ret
      exact .inr ⟨rfl, rfl, by omega, by omega, hall.out⟩

set_option maxRecDepth 100000 in
set_option maxHeartbeats 400000 in
theorem bytes9_zero (bi bt lo mx : Int) (ta : Option Addr) (n tc : Nat) (da : Option Addr) (dc : Nat) (L : Nat → Nat) (w : World) (hn : n ≤ maxLen) :
    Calls Try.prog 9 #[.int .u64 bi, .int .u64 bt, .slice ta n tc, .slice da 0 dc, .int .u64 lo, .int .i64 mx] w fun e w' => (e = .returned (.bool false) ∧ w' = w) ∨ (e = .returned (.bool true) ∧ w' = w ∧ Bounded n 0 L) := by
  unfold maxLen at hn
  by_cases h1 : (1048576 : Int) < n
  · go_enter Try.func9, Try.ntmps9
    go_wp2
    go_ret
    exact .inl ⟨rfl, rfl⟩
  go_enter Try.func9, Try.ntmps9
  go_wp2_with fail
  refine wp_loop_rounds 1 ?_
  rw [rounds_succ]
  go_wp2_with fail
  go_ret
  exact .inr ⟨rfl, rfl, by omega, by omega, fun r hr => by omega⟩

theorem bytes9_any (bi bt lo mx : Int) (ta : Option Addr) (n tc : Nat) (da : Option Addr) (m dc : Nat) (A : Nat → Option Addr) (L C : Nat → Nat) (Z : Nat → List Int) (w : World) (hn : n ≤ maxLen) (hm2 : m ≤ maxLen) (hd : DatasAt w da m A L C Z) :
    Calls Try.prog 9 #[.int .u64 bi, .int .u64 bt, .slice ta n tc, .slice da m dc, .int .u64 lo, .int .i64 mx] w fun e w' => (e = .returned (.bool false) ∧ w' = w) ∨ (e = .returned (.bool true) ∧ w' = w ∧ Bounded n m L) := by
  by_cases hm : 0 < m
  · obtain ⟨b, off, rfl, hc⟩ := hd.row hm
    exact bytes9_pos bi bt lo mx ta n tc b off m dc A L C w hm hn hm2 hd.len hc
  · obtain rfl : m = 0 := by omega
    exact bytes9_zero bi bt lo mx ta n tc da dc L w hn

set_option maxRecDepth 100000 in
set_option maxHeartbeats 400000 in
theorem bytes15_pos (bi bt lo mx : Int) (ta : Option Addr) (n tc b off m dc : Nat) (A : Nat → Option Addr) (L C : Nat → Nat) (w : World) (hm : 0 < m) (hn : n ≤ maxLen) (hm2 : m ≤ maxLen) (hL : ∀ r, r < m → L r ≤ maxLen)
    (hc : ∀ r, r < m → w.cell? ⟨b, off + r, none⟩ = some (.slice (A r) (L r) (C r))) :
    Calls Try.prog 15 #[.int .u64 bi, .int .u64 bt, .slice ta n tc, .slice (some ⟨b, off, none⟩) m dc, .int .u64 lo, .int .i64 mx] w fun e w' => (e = .returned (.bool false) ∧ w' = w) ∨ (e = .returned (.bool true) ∧ w' = w ∧ Bounded n m L) := by
  unfold maxLen at hn hm2 hL
  by_cases h1 : (1048576 : Int) < n
  · go_enter Try.func15, Try.ntmps15
    go_wp2
    go_ret
    exact .inl ⟨rfl, rfl⟩
  by_cases h2 : (1048576 : Int) < m
  · go_enter Try.func15, Try.ntmps15
    go_wp2
    go_ret
    exact .inl ⟨rfl, rfl⟩
  by_cases h3 : (1048576 : Int) < (n : Int) + (m : Int)
  · go_enter Try.func15, Try.ntmps15
    go_wp2
    go_ret
    exact .inl ⟨rfl, rfl⟩
  go_enter Try.func15, Try.ntmps15
  go_wp2_with fail
  go_loop [13, 14] (fun t i => ∃ k : Nat, ∃ S : Nat, k ≤ m ∧ i = .int .i64 k ∧ t = .int .i64 S ∧ S ≤ 1048576 ∧ Hid (∀ r, r < k → L r ≤ 1048576)) (fun _ i => m - (intOf i).toNat)
  case atStart => exact ⟨0, n + m, Nat.zero_le _, rfl, by go_num, by omega, hide (fun r hr => by omega)⟩
  case round =>
    obtain ⟨k, S, hk, rfl, rfl, hS, hall⟩ := hrel
    by_cases hlt : k < m
    · have hcx := hc k hlt
      have hLk := hL k hlt
      have hlt' : (k : Int) < (m : Int) := by omega
      by_cases hb1 : (1048576 : Int) < (L k : Int)
      · go_wp2_with fail
        go_ret
        exact .inl ⟨rfl, rfl⟩
      · by_cases hb2 : (1048576 : Int) < (S : Int) + (L k : Int)
        · go_wp2_with fail
          go_ret
          exact .inl ⟨rfl, rfl⟩
        · go_wp2_with fail
          go_round
          case rel =>
            refine ⟨k + 1, S + L k, by omega, by go_num, by go_num, by omega, hide (fun r hr => ?_)⟩
            by_cases e : r = k
            · rw [e]; omega
            · exact hall.out r (by omega)
          case measure => simp [intOf]; omega
    · obtain rfl : k = m := by omega
      go_wp2_with fail
      go_ret
      exact .inr ⟨rfl, rfl, by omega, by omega, hall.out⟩

set_option maxRecDepth 100000 in
set_option maxHeartbeats 400000 in
theorem bytes15_zero (bi bt lo mx : Int) (ta : Option Addr) (n tc : Nat) (da : Option Addr) (dc : Nat) (L : Nat → Nat) (w : World) (hn : n ≤ maxLen) :
    Calls Try.prog 15 #[.int .u64 bi, .int .u64 bt, .slice ta n tc, .slice da 0 dc, .int .u64 lo, .int .i64 mx] w fun e w' => (e = .returned (.bool false) ∧ w' = w) ∨ (e = .returned (.bool true) ∧ w' = w ∧ Bounded n 0 L) := by
  unfold maxLen at hn
  by_cases h1 : (1048576 : Int) < n
  · go_enter Try.func15, Try.ntmps15
    go_wp2
    go_ret
    exact .inl ⟨rfl, rfl⟩
  go_enter Try.func15, Try.ntmps15
  go_wp2_with fail
  refine wp_loop_rounds 1 ?_
  rw [rounds_succ]
  go_wp2_with fail
  go_ret
  exact .inr ⟨rfl, rfl, by omega, by omega, fun r hr => by omega⟩

theorem bytes15_any (bi bt lo mx : Int) (ta : Option Addr) (n tc : Nat) (da : Option Addr) (m dc : Nat) (A : Nat → Option Addr) (L C : Nat → Nat) (Z : Nat → List Int) (w : World) (hn : n ≤ maxLen) (hm2 : m ≤ maxLen) (hd : DatasAt w da m A L C Z) :
    Calls Try.prog 15 #[.int .u64 bi, .int .u64 bt, .slice ta n tc, .slice da m dc, .int .u64 lo, .int .i64 mx] w fun e w' => (e = .returned (.bool false) ∧ w' = w) ∨ (e = .returned (.bool true) ∧ w' = w ∧ Bounded n m L) := by
  by_cases hm : 0 < m
  · obtain ⟨b, off, rfl, hc⟩ := hd.row hm
    exact bytes15_pos bi bt lo mx ta n tc b off m dc A L C w hm hn hm2 hd.len hc
  · obtain rfl : m = 0 := by omega
    exact bytes15_zero bi bt lo mx ta n tc da dc L w hn

set_option maxRecDepth 100000 in
set_option maxHeartbeats 400000 in
theorem bytes25_pos (bi bt lo m1 mx : Int) (ta : Option Addr) (n tc b off m dc : Nat) (A : Nat → Option Addr) (L C : Nat → Nat) (w : World) (hm : 0 < m) (hn : n ≤ maxLen) (hm2 : m ≤ maxLen) (hL : ∀ r, r < m → L r ≤ maxLen)
    (hc : ∀ r, r < m → w.cell? ⟨b, off + r, none⟩ = some (.slice (A r) (L r) (C r))) :
    Calls Try.prog 25 #[.int .u64 bi, .int .u64 bt, .slice ta n tc, .slice (some ⟨b, off, none⟩) m dc, .int .u64 lo, .int .i64 m1, .int .i64 mx] w fun e w' => (e = .returned (.bool false) ∧ w' = w) ∨ (e = .returned (.bool true) ∧ w' = w ∧ Bounded n m L) := by
  unfold maxLen at hn hm2 hL
  by_cases h1 : (1048576 : Int) < n
  · go_enter Try.func25, Try.ntmps25
    go_wp2
    go_ret
    exact .inl ⟨rfl, rfl⟩
  by_cases h2 : (1048576 : Int) < m
  · go_enter Try.func25, Try.ntmps25
    go_wp2
    go_ret
    exact .inl ⟨rfl, rfl⟩
  by_cases h3 : (1048576 : Int) < (n : Int) + (m : Int)
  · go_enter Try.func25, Try.ntmps25
    go_wp2
    go_ret
    exact .inl ⟨rfl, rfl⟩
  go_enter Try.func25, Try.ntmps25
  go_wp2_with fail
  go_loop [15, 16] (fun t i => ∃ k : Nat, ∃ S : Nat, k ≤ m ∧ i = .int .i64 k ∧ t = .int .i64 S ∧ S ≤ 1048576 ∧ Hid (∀ r, r < k → L r ≤ 1048576)) (fun _ i => m - (intOf i).toNat)
  case atStart => exact ⟨0, n + m, Nat.zero_le _, rfl, by go_num, by omega, hide (fun r hr => by omega)⟩
  case round =>
    obtain ⟨k, S, hk, rfl, rfl, hS, hall⟩ := hrel
    by_cases hlt : k < m
    · have hcx := hc k hlt
      have hLk := hL k hlt
      have hlt' : (k : Int) < (m : Int) := by omega
      by_cases hb1 : (1048576 : Int) < (L k : Int)
      · go_wp2_with fail
        go_ret
        exact .inl ⟨rfl, rfl⟩
      · by_cases hb2 : (1048576 : Int) < (S : Int) + (L k : Int)
        · go_wp2_with fail
          go_ret
          exact .inl ⟨rfl, rfl⟩
        · go_wp2_with fail
          go_round
          case rel =>
            refine ⟨k + 1, S + L k, by omega, by go_num, by go_num, by omega, hide (fun r hr => ?_)⟩
            by_cases e : r = k
            · rw [e]; omega
            · exact hall.out r (by omega)
          case measure => simp [intOf]; omega
    · obtain rfl : k = m := by omega
      go_wp2_with fail
      go_ret
      exact .inr ⟨rfl, rfl, by omega, by omega, hall.out⟩

set_option maxRecDepth 100000 in
set_option maxHeartbeats 400000 in
theorem bytes25_zero (bi bt lo m1 mx : Int) (ta : Option Addr) (n tc : Nat) (da : Option Addr) (dc : Nat) (L : Nat → Nat) (w : World) (hn : n ≤ maxLen) :
    Calls Try.prog 25 #[.int .u64 bi, .int .u64 bt, .slice ta n tc, .slice da 0 dc, .int .u64 lo, .int .i64 m1, .int .i64 mx] w fun e w' => (e = .returned (.bool false) ∧ w' = w) ∨ (e = .returned (.bool true) ∧ w' = w ∧ Bounded n 0 L) := by
  unfold maxLen at hn
  by_cases h1 : (1048576 : Int) < n
  · go_enter Try.func25, Try.ntmps25
    go_wp2
    go_ret
    exact .inl ⟨rfl, rfl⟩
  go_enter Try.func25, Try.ntmps25
  go_wp2_with fail
  refine wp_loop_rounds 1 ?_
  rw [rounds_succ]
  go_wp2_with fail
  go_ret
  exact .inr ⟨rfl, rfl, by omega, by omega, fun r hr => by omega⟩

theorem bytes25_any (bi bt lo m1 mx : Int) (ta : Option Addr) (n tc : Nat) (da : Option Addr) (m dc : Nat) (A : Nat → Option Addr) (L C : Nat → Nat) (Z : Nat → List Int) (w : World) (hn : n ≤ maxLen) (hm2 : m ≤ maxLen) (hd : DatasAt w da m A L C Z) :
    Calls Try.prog 25 #[.int .u64 bi, .int .u64 bt, .slice ta n tc, .slice da m dc, .int .u64 lo, .int .i64 m1, .int .i64 mx] w fun e w' => (e = .returned (.bool false) ∧ w' = w) ∨ (e = .returned (.bool true) ∧ w' = w ∧ Bounded n m L) := by
  by_cases hm : 0 < m
  · obtain ⟨b, off, rfl, hc⟩ := hd.row hm
    exact bytes25_pos bi bt lo m1 mx ta n tc b off m dc A L C w hm hn hm2 hd.len hc
  · obtain rfl : m = 0 := by omega
    exact bytes25_zero bi bt lo m1 mx ta n tc da dc L w hn
end Go.Proofs.Qxb6603126a
