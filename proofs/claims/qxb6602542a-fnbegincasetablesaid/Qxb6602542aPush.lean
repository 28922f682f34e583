import Derived.Test.Qxb6602542aBeginA
namespace Go.Proofs.Qxb6602542a
open Go.RowKit

/-- One field of a scanner's block is written. -/
theorem field_set {w : World} {B : Nat} {cs : Array Value} (h : w.heap[B]? = some (.cells cs 54 (0, 0))) (i : Nat) (v : Value) :
    (w.setCell ⟨B, i, none⟩ v).heap[B]? = some (.cells (cs.setIfInBounds i v) 54 (0, 0)) := heap_setCell_same w B i cs 54 v h

theorem grown_set (w : World) (B i : Nat) (v : Value) : w.grownBy (w.setCell ⟨B, i, none⟩ v) (some B) :=
  ⟨rfl, rfl, rfl, by simp [World.setCell], fun k _ hk => heap_setCell_other w ⟨B, i, none⟩ k v (fun e => hk (by simp [e]))⟩

theorem grown_trans {a b c : World} {r : Option Nat} (h : a.grownBy b r) (k : b.grownBy c r) : a.grownBy c r :=
  ⟨k.os.trans h.os, k.tape.trans h.tape, k.output.trans h.output, Nat.le_trans h.size k.size, fun i hi hr => (k.block i (Nat.lt_of_lt_of_le hi h.size) hr).trans (h.block i hi hr)⟩

theorem grown_drew {a b : World} {r : Option Nat} (h : a.grownBy b r) : a.grownBy b.drew r := ⟨h.os, h.tape, h.output, h.size, h.block⟩
theorem grown_drewN {a b : World} {r : Option Nat} (h : a.grownBy b r) (n : Nat) : a.grownBy (b.drewN n) r := ⟨h.os, h.tape, h.output, h.size, h.block⟩

set_option maxRecDepth 100000 in
set_option maxHeartbeats 400000 in
theorem push_flat (B d : Nat) (o ch : Int) (s0 s1 s4 s5 s6 s7 s8 s9 : Value) (w : World) (hd : d < 64) (hch : ch = 123)
    (hB : w.heap[B]? = some (.cells #[s0, s1, .int .i64 d, .int .u64 o, s4, s5, s6, s7, s8, s9] 54 (0, 0))) :
    Calls Try.prog 52 #[.pointer (some ⟨B, 0, none⟩), .int .u8 ch] w fun e w' => e = .returned (.tuple #[]) ∧
      w'.heap[B]? = some (.cells #[s0, s1, .int .i64 ((d + 1 : Nat) : Int), .int .u64 (bits .or .u64 o (IntKind.u64.wrap (2 ^ d))), s4, s5, s6, s7, s8, s9] 54 (0, 0)) ∧ w.grownBy w' (some B) := by
  subst hch
  have c2 : w.cell? ⟨B, 2, none⟩ = some (.int .i64 d) := by rw [cell_of_row w B 2 _ _ _ hB]; rfl
  have c3 : w.cell? ⟨B, 3, none⟩ = some (.int .u64 o) := by rw [cell_of_row w B 3 _ _ _ hB]; rfl
  have f2 : w.frozen? ⟨B, 2, none⟩ = false := frozen_of_row w B 2 _ _ hB
  have f3 : w.frozen? ⟨B, 3, none⟩ = false := frozen_of_row w B 3 _ _ hB
  have HB : Hid _ := hB
  clear hB
  go_enter Try.func52, Try.ntmps52
  go_wp2
  go_region
  all_goals (try go_wp2)
  all_goals
    go_end0
    refine ⟨rfl, ?_, ?_⟩
    · have h := field_set (field_set HB.out 3 (.int .u64 (bits .or .u64 o (IntKind.u64.wrap (2 ^ d))))) 2 (.int .i64 ((d : Int) + 1))
      exact h
    · exact grown_drew (grown_trans (grown_set w B 3 _) (grown_set _ B 2 _))

set_option maxRecDepth 100000 in
set_option maxHeartbeats 400000 in
theorem push_flat_arr (B d : Nat) (o ch : Int) (s0 s1 s4 s5 s6 s7 s8 s9 : Value) (w : World) (hd : d < 64) (hch : ch = 91)
    (hB : w.heap[B]? = some (.cells #[s0, s1, .int .i64 d, .int .u64 o, s4, s5, s6, s7, s8, s9] 54 (0, 0))) :
    Calls Try.prog 52 #[.pointer (some ⟨B, 0, none⟩), .int .u8 ch] w fun e w' => e = .returned (.tuple #[]) ∧
      w'.heap[B]? = some (.cells #[s0, s1, .int .i64 ((d + 1 : Nat) : Int), .int .u64 (bits .andNot .u64 o (IntKind.u64.wrap (2 ^ d))), s4, s5, s6, s7, s8, s9] 54 (0, 0)) ∧ w.grownBy w' (some B) := by
  subst hch
  have c2 : w.cell? ⟨B, 2, none⟩ = some (.int .i64 d) := by rw [cell_of_row w B 2 _ _ _ hB]; rfl
  have c3 : w.cell? ⟨B, 3, none⟩ = some (.int .u64 o) := by rw [cell_of_row w B 3 _ _ _ hB]; rfl
  have f2 : w.frozen? ⟨B, 2, none⟩ = false := frozen_of_row w B 2 _ _ hB
  have f3 : w.frozen? ⟨B, 3, none⟩ = false := frozen_of_row w B 3 _ _ hB
  have HB : Hid _ := hB
  clear hB
  go_enter Try.func52, Try.ntmps52
  go_wp2
  go_region
  all_goals (try go_wp2)
  all_goals
    go_end0
    refine ⟨rfl, ?_, ?_⟩
    · have h := field_set (field_set HB.out 3 (.int .u64 (bits .andNot .u64 o (IntKind.u64.wrap (2 ^ d))))) 2 (.int .i64 ((d : Int) + 1))
      exact h
    · exact grown_drew (grown_trans (grown_set w B 3 _) (grown_set _ B 2 _))

set_option maxRecDepth 100000 in
set_option maxHeartbeats 400000 in
theorem push_deep (base B d n c : Nat) (a : Option Addr) (o ch : Int) (zs : List Int) (s0 s1 s5 s6 s7 s8 s9 : Value) (w : World) (hd : 64 ≤ d) (hd2 : d ≤ 65600) (hn : n ≤ 65600)
    (hbase : base ≤ w.heap.size) (hbB : base ≤ B) (hblt : B < w.heap.size) (hown : w.ownsRow base 5 1 (.slice a n c) n (zs.map (Value.int .u8))) (hne : (Value.slice a n c).ownBlock ≠ some B)
    (hB : w.heap[B]? = some (.cells #[s0, s1, .int .i64 d, .int .u64 o, .slice a n c, s5, s6, s7, s8, s9] 54 (0, 0))) :
    Calls Try.prog 52 #[.pointer (some ⟨B, 0, none⟩), .int .u8 ch] w fun e w' => e = .returned (.tuple #[]) ∧ ∃ a' c',
      w'.ownsRow base 5 1 (.slice a' (n + 1) c') (n + 1) ((zs ++ [ch]).map (Value.int .u8)) ∧
      w'.heap[B]? = some (.cells #[s0, s1, .int .i64 ((d + 1 : Nat) : Int), .int .u64 o, .slice a' (n + 1) c', s5, s6, s7, s8, s9] 54 (0, 0)) ∧ Below base w w' ∧
      ∀ k, k < w.heap.size → k ≠ B → some k ≠ (Value.slice a n c).ownBlock → w'.heap[k]? = w.heap[k]? := by
  obtain ⟨i0, hi, hz0, hz1, hz2⟩ := info_parts Try.info5
  have c2 : w.cell? ⟨B, 2, none⟩ = some (.int .i64 d) := by rw [cell_of_row w B 2 _ _ _ hB]; rfl
  have c4 : w.cell? ⟨B, 4, none⟩ = some (.slice a n c) := by rw [cell_of_row w B 4 _ _ _ hB]; rfl
  have HB : Hid _ := hB
  have HN : Hid _ := hne
  clear hB hne
  go_enter Try.func52, Try.ntmps52
  go_wp2_with (at_builtin; refine wpList_append_own _ rfl _ _ 22 rfl base 5 i0 (.int .u8 0) 1 1 Try.underlying22 hi hz0 hz1 hz2 rfl (by decide) _ _ _ rfl (hown.alloc _) ⟨w.heap.size, 0, none⟩ 1 1 [.int .u8 ch] rfl rfl (cell_one_new _ _ _) (by simp [Value.oneCell']) (by unfold maxLen; omega) (by omega) (by simp; omega) ?_)
  intro v' w1 hown1 hgrow1 _
  have hB1 : w1.heap[B]? = some (.cells #[s0, s1, .int .i64 d, .int .u64 o, .slice a n c, s5, s6, s7, s8, s9] 54 (0, 0)) :=
    (hgrow1.block B (by simp; omega) (fun e => HN.out e.symm)).trans ((heap_alloc_old w _ hblt).trans HB.out)
  have hex : ∃ g cap, v' = .slice (some ⟨g, 0, none⟩) (n + 1) cap := by
    rcases hown1.2 with ⟨_, h⟩ | ⟨g, cap, _, h, _⟩
    · omega
    · exact ⟨g, cap, h⟩
  obtain ⟨g, cap, rfl⟩ := hex
  have d2 : w1.cell? ⟨B, 2, none⟩ = some (.int .i64 d) := by rw [cell_of_row w1 B 2 _ _ _ hB1]; rfl
  have d4 : w1.cell? ⟨B, 4, none⟩ = some (.slice a n c) := by rw [cell_of_row w1 B 4 _ _ _ hB1]; rfl
  have f2 : w1.frozen? ⟨B, 2, none⟩ = false := frozen_of_row w1 B 2 _ _ hB1
  have f4 : w1.frozen? ⟨B, 4, none⟩ = false := frozen_of_row w1 B 4 _ _ hB1
  have hgB : g ≠ B := by
    intro e
    subst e
    have h1 := hown1
    rcases h1.2 with ⟨h, _⟩ | ⟨g', cap', cur, h, _, hh, _⟩
    · simp at h
    · simp only [Value.slice.injEq, Option.some.injEq, Addr.mk.injEq, and_true, true_and] at h
      obtain ⟨rfl, _⟩ := h
      rw [hB1] at hh
      simp at hh
  have HB1 : Hid _ := hB1
  have HG : Hid _ := hgrow1
  clear hB1 hgrow1 c2 c4
  go_wp2_with fail
  go_end0
  refine ⟨rfl, some ⟨g, 0, none⟩, cap, ?_, ?_, ?_, ?_⟩
  · have h1 := hown1
    have h2 := (h1.kept (grown_set w1 B 4 (.slice (some ⟨g, 0, none⟩) (n + 1) cap)) (.inr (by simpa [Value.ownBlock] using hgB))).kept (grown_set _ B 2 (.int .i64 ((d : Int) + 1))) (.inr (by simpa [Value.ownBlock] using hgB))
    rw [List.map_append]
    exact h2
  · have h := field_set (field_set HB1.out 4 (.slice (some ⟨g, 0, none⟩) (n + 1) cap)) 2 (.int .i64 ((d : Int) + 1))
    exact h
  · exact ((((Below.refl _ w).alloc hbase _).grown HG.out (by simp; omega) (fun k hk => (hown.lt k hk).1)).setCell hbB _).setCell hbB _
  · intro k hk hkB hko
    rw [heap_setCell_other _ _ k _ (by exact hkB), heap_setCell_other _ _ k _ (by exact hkB), HG.out.block k (by simp; omega) hko, heap_alloc_old w _ hk]
end Go.Proofs.Qxb6602542a
