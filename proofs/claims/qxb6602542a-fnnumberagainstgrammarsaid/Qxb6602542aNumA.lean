import Derived.Test.Qxb6602542aEqual
namespace Go.Proofs.Qxb6602542a
open Go.RowKit

/-- 'zzNumberPrefix' at these bytes gives these two answers. -/
def PrefixIs (l : List Int) (b1 b2 : Bool) : Prop :=
  ∀ (g cap : Nat) (w : World), (∀ i, i < l.length → w.cell? ⟨g, i, none⟩ = some (.int .u8 (l.getD i 0))) →
    Calls Try.prog 31 #[.slice (some ⟨g, 0, none⟩) l.length cap] w fun e w' => e = .returned (.tuple #[.bool b1, .bool b2]) ∧ w' = w

/-- 'zzNumberClass' at these bytes gives this state. -/
def ClassIs (l : List Int) (S : Int) : Prop :=
  ∀ (g cap : Nat) (w : World), (∀ i, i < l.length → w.cell? ⟨g, i, none⟩ = some (.int .u8 (l.getD i 0))) →
    Calls Try.prog 32 #[.slice (some ⟨g, 0, none⟩) l.length cap] w fun e w' => e = .returned (.int .u8 S) ∧ w' = w

/-- 'number' in state s at byte c: the state behind it, and whether the byte is read again. -/
def NumberDoes (s c S : Int) (back : Bool) : Prop :=
  ∀ (B : Nat) (i : Int) (s1 s2 s3 s4 s5 s6 s7 s8 s9 : Value) (w : World), w.heap[B]? = some (.cells #[.int .u8 s, s1, s2, s3, s4, s5, s6, s7, s8, s9] 54 (0, 0)) →
    Calls Try.prog 38 #[.pointer (some ⟨B, 0, none⟩), .int .u8 c, .int .i64 i] w fun e w' => e = .returned (.int .i64 (if back = true then wrap64 (i - 1) else i)) ∧
      w'.heap[B]? = some (.cells #[.int .u8 S, s1, s2, s3, s4, s5, s6, s7, s8, s9] 54 (0, 0)) ∧ w.grownBy w' (some B)

/-- 'zzNumberWitness' in state s gives this text. -/
def WitnessIs (s : Int) (W : List Int) : Prop :=
  ∀ (w : World), Calls Try.prog 29 #[.int .u8 s] w fun e w' => e = .returned (.tuple #[.slice (some ⟨w.heap.size, 0, none⟩) W.length W.length, .bool true]) ∧ w' = w.alloc (.cells (W.map (Value.int .u8)).toArray 5)

/-- One state and one byte: the method does what the grammar says. -/
def Fits (s c : Int) : Prop :=
  ∃ (W : List Int) (b1 b1' b2' b2 : Bool) (S : Int) (back : Bool), 0 < W.length ∧ W.length ≤ 3 ∧ WitnessIs s W ∧ NumberDoes s c S back ∧ PrefixIs (W ++ [c]) b1 b1' ∧ PrefixIs W b2' b2 ∧
    (b1 = true → ClassIs (W ++ [c]) S ∧ back = false) ∧ (b1 = false → b2 = true → S = 5 ∧ back = true) ∧ (b1 = false → b2 = false → S = 18 ∧ back = false)

theorem field_set {w : World} {B : Nat} {cs : Array Value} (h : w.heap[B]? = some (.cells cs 54 (0, 0))) (i : Nat) (v : Value) :
    (w.setCell ⟨B, i, none⟩ v).heap[B]? = some (.cells (cs.setIfInBounds i v) 54 (0, 0)) := heap_setCell_same w B i cs 54 v h

theorem grown_set (w : World) (B i : Nat) (v : Value) : w.grownBy (w.setCell ⟨B, i, none⟩ v) (some B) :=
  ⟨rfl, rfl, rfl, by simp [World.setCell], fun k _ hk => heap_setCell_other w ⟨B, i, none⟩ k v (fun e => hk (by simp [e]))⟩

set_option maxRecDepth 100000 in
set_option maxHeartbeats 400000 in
theorem witness_10 : WitnessIs 10 [45] := by
  intro w
  go_enter Try.func29, Try.ntmps29
  go_wp2
  go_ret2
  exact ⟨rfl, rfl⟩

set_option maxRecDepth 100000 in
set_option maxHeartbeats 400000 in
theorem witness_11 : WitnessIs 11 [48] := by
  intro w
  go_enter Try.func29, Try.ntmps29
  go_wp2
  go_ret2
  exact ⟨rfl, rfl⟩

set_option maxRecDepth 100000 in
set_option maxHeartbeats 400000 in
theorem witness_12 : WitnessIs 12 [49] := by
  intro w
  go_enter Try.func29, Try.ntmps29
  go_wp2
  go_ret2
  exact ⟨rfl, rfl⟩

set_option maxRecDepth 100000 in
set_option maxHeartbeats 400000 in
theorem witness_13 : WitnessIs 13 [49, 46] := by
  intro w
  go_enter Try.func29, Try.ntmps29
  go_wp2
  go_ret2
  exact ⟨rfl, rfl⟩

set_option maxRecDepth 100000 in
set_option maxHeartbeats 400000 in
theorem witness_14 : WitnessIs 14 [49, 46, 48] := by
  intro w
  go_enter Try.func29, Try.ntmps29
  go_wp2
  go_ret2
  exact ⟨rfl, rfl⟩

set_option maxRecDepth 100000 in
set_option maxHeartbeats 400000 in
theorem witness_15 : WitnessIs 15 [49, 101] := by
  intro w
  go_enter Try.func29, Try.ntmps29
  go_wp2
  go_ret2
  exact ⟨rfl, rfl⟩

set_option maxRecDepth 100000 in
set_option maxHeartbeats 400000 in
theorem witness_16 : WitnessIs 16 [49, 101, 45] := by
  intro w
  go_enter Try.func29, Try.ntmps29
  go_wp2
  go_ret2
  exact ⟨rfl, rfl⟩

set_option maxRecDepth 100000 in
set_option maxHeartbeats 400000 in
theorem witness_17 : WitnessIs 17 [49, 101, 48] := by
  intro w
  go_enter Try.func29, Try.ntmps29
  go_wp2
  go_ret2
  exact ⟨rfl, rfl⟩
end Go.Proofs.Qxb6602542a
