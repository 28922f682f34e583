import Derived.Test.Qxb6603126aBase
namespace Go.Proofs.Qxb6603126a
open Go.RowKit

def sumTo (f : Nat → Nat) : Nat → Nat
  | 0 => 0
  | k + 1 => sumTo f k + f k

theorem sumTo_mono (f : Nat → Nat) (a b : Nat) (h : a ≤ b) : sumTo f a ≤ sumTo f b := by
  induction b with
  | zero => rw [show a = 0 by omega]; exact Nat.le_refl _
  | succ k ih =>
    by_cases e : a = k + 1
    · rw [e]; exact Nat.le_refl _
    · exact Nat.le_trans (ih (by omega)) (by show sumTo f k ≤ sumTo f k + f k; omega)

theorem le_sumTo (f : Nat → Nat) (i n : Nat) (h : i < n) : f i ≤ sumTo f n := by
  have h1 := sumTo_mono f (i + 1) n (by omega)
  have h2 : sumTo f (i + 1) = sumTo f i + f i := rfl
  omega

/-- A slice of byte slices in memory: element r is the slice A r, L r, C r, its bytes Z r. -/
structure DatasAt (w : World) (da : Option Addr) (m : Nat) (A : Nat → Option Addr) (L C : Nat → Nat) (Z : Nat → List Int) : Prop where
  row : 0 < m → ∃ b off, da = some ⟨b, off, none⟩ ∧ ∀ r, r < m → w.cell? ⟨b, off + r, none⟩ = some (.slice (A r) (L r) (C r))
  bytes : ∀ r, r < m → Elems .u8 w (A r) (L r) (Z r)
  isnil : ∀ r, r < m → A r = none → L r = 0 ∧ C r = 0
  len : ∀ r, r < m → L r ≤ maxLen

theorem DatasAt.below {w w' : World} {da : Option Addr} {m : Nat} {A : Nat → Option Addr} {L C : Nat → Nat} {Z : Nat → List Int} (h : DatasAt w da m A L C Z) (hb : Below w.heap.size w w') : DatasAt w' da m A L C Z := by
  refine ⟨fun hm => ?_, fun r hr => (h.bytes r hr).below hb, h.isnil, h.len⟩
  obtain ⟨b, off, rfl, hc⟩ := h.row hm
  refine ⟨b, off, rfl, fun r hr => ?_⟩
  rw [hb.cell (by exact World.block_lt_of_cell? w _ (hc r hr))]
  exact hc r hr

theorem DatasAt.drewN {w : World} {da : Option Addr} {m : Nat} {A : Nat → Option Addr} {L C : Nat → Nat} {Z : Nat → List Int} (h : DatasAt w da m A L C Z) (q : Nat) : DatasAt (w.drewN q) da m A L C Z :=
  ⟨h.row, h.bytes, h.isnil, h.len⟩

def Small (n m : Nat) (L : Nat → Nat) : Prop := n ≤ 131072 ∧ m ≤ 131072 ∧ sumTo L m ≤ 1048576

set_option maxRecDepth 100000 in
set_option maxHeartbeats 400000 in
/-- 'zzLogBytes': a number below zero, or the columns are small. -/
theorem logBytes_pos (ta : Option Addr) (n tc b off m dc : Nat) (A : Nat → Option Addr) (L C : Nat → Nat) (w : World) (hm : 0 < m) (hn : n ≤ 1048576) (hm2 : m ≤ 1048576) (hL : ∀ r, r < m → L r ≤ 1048576)
    (hc : ∀ r, r < m → w.cell? ⟨b, off + r, none⟩ = some (.slice (A r) (L r) (C r))) :
    Calls Try.prog 10 #[.slice ta n tc, .slice (some ⟨b, off, none⟩) m dc] w fun e w' => ∃ r : Int, e = .returned (.int .i64 r) ∧ w' = w ∧ (0 ≤ r → Small n m L) := by
  by_cases h1 : (131072 : Int) < n
  · go_enter Try.func10, Try.ntmps10
    go_wp2
    go_ret
    exact ⟨-1, rfl, rfl, fun h => by omega⟩
  by_cases h2 : (131072 : Int) < m
  · go_enter Try.func10, Try.ntmps10
    go_wp2
    go_ret
    exact ⟨-1, rfl, rfl, fun h => by omega⟩
  by_cases h3 : (1048576 : Int) < 8 * (n : Int) + 8 * (m : Int)
  · go_enter Try.func10, Try.ntmps10
    go_wp2
    go_ret
    exact ⟨-1, rfl, rfl, fun h => by omega⟩
  have k1 : decide ((131072 : Int) < n) = false := by simp; omega
  have k2 : decide ((131072 : Int) < m) = false := by simp; omega
  go_enter Try.func10, Try.ntmps10
  go_wp2_with fail
  go_loop [5, 6] (fun t i => ∃ k : Nat, k ≤ m ∧ i = .int .i64 k ∧ sumTo L k ≤ 1048576 ∧ t = .int .i64 (8 * (n : Int) + 8 * (m : Int) + (sumTo L k : Nat))) (fun _ i => m - (intOf i).toNat)
  case atStart => exact ⟨0, Nat.zero_le _, rfl, Nat.zero_le _, by simp [sumTo]⟩
  case round =>
    obtain ⟨k, hk, rfl, hs, rfl⟩ := hrel
    by_cases hlt : k < m
    · have hcx := hc k hlt
      have hLk := hL k hlt
      have hlt' : (k : Int) < (m : Int) := by omega
      have hsum : sumTo L (k + 1) = sumTo L k + L k := rfl
      obtain ⟨S, hS⟩ : ∃ S, S = sumTo L k := ⟨_, rfl⟩
      rw [← hS] at hs ⊢
      have HS := hide hS
      have HSM := hide hsum
      clear hS hsum
      by_cases hbig : (1048576 : Int) < 8 * (n : Int) + 8 * (m : Int) + (S : Int) + (L k : Int)
      · go_wp2_with fail
        go_ret
        exact ⟨-1, rfl, rfl, fun h => by omega⟩
      · go_wp2_with fail
        go_round
        case rel => exact ⟨k + 1, by omega, by go_num, by rw [HSM.out, ← HS.out]; omega, congrArg (Value.int .i64) (by rw [HSM.out, ← HS.out]; omega)⟩
        case measure => simp [intOf]; omega
    · obtain rfl : k = m := by omega
      go_wp2_with fail
      go_ret
      exact ⟨_, rfl, rfl, by intros; exact ⟨by omega, by omega, hs⟩⟩
end Go.Proofs.Qxb6603126a
