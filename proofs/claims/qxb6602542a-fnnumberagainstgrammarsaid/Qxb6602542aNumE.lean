import Derived.Test.Qxb6602542aNumA
namespace Go.Proofs.Qxb6602542a
open Go.RowKit

set_option maxRecDepth 100000 in
set_option maxHeartbeats 400000 in
theorem prefix_14_Z : PrefixIs [49, 46, 48, 48] true true := by
  intro g cap w hc
  have c0 : w.cell? ⟨g, 0, none⟩ = some (.int .u8 49) := hc 0 (by simp)
  have c1 : w.cell? ⟨g, 1, none⟩ = some (.int .u8 46) := hc 1 (by simp)
  have c2 : w.cell? ⟨g, 2, none⟩ = some (.int .u8 48) := hc 2 (by simp)
  have c3 : w.cell? ⟨g, 3, none⟩ = some (.int .u8 48) := hc 3 (by simp)
  clear hc
  show Calls Try.prog 31 #[.slice (some ⟨g, 0, none⟩) 4 cap] w _
  go_enter Try.func31, Try.ntmps31
  go_wp2
  refine wp_loop_rounds 2 ?_
  rw [rounds_succ]
  go_wp2
  rw [rounds_succ]
  go_wp2
  refine wp_loop_rounds 3 ?_
  rw [rounds_succ]
  go_wp2
  rw [rounds_succ]
  go_wp2
  rw [rounds_succ]
  go_wp2
  go_ret2
  exact ⟨rfl, rfl⟩

set_option maxRecDepth 100000 in
set_option maxHeartbeats 400000 in
theorem prefix_14_D (c : Int) (h1 : 49 ≤ c) (h2 : c ≤ 57) : PrefixIs [49, 46, 48, c] true true := by
  intro g cap w hc
  have c0 : w.cell? ⟨g, 0, none⟩ = some (.int .u8 49) := hc 0 (by simp)
  have c1 : w.cell? ⟨g, 1, none⟩ = some (.int .u8 46) := hc 1 (by simp)
  have c2 : w.cell? ⟨g, 2, none⟩ = some (.int .u8 48) := hc 2 (by simp)
  have c3 : w.cell? ⟨g, 3, none⟩ = some (.int .u8 c) := hc 3 (by simp)
  clear hc
  have x43 : (c == 43) = false := by simp; omega
  have x45 : (c == 45) = false := by simp; omega
  have x46 : (c == 46) = false := by simp; omega
  have x48 : (c == 48) = false := by simp; omega
  have x69 : (c == 69) = false := by simp; omega
  have x101 : (c == 101) = false := by simp; omega
  show Calls Try.prog 31 #[.slice (some ⟨g, 0, none⟩) 4 cap] w _
  go_enter Try.func31, Try.ntmps31
  go_wp2
  refine wp_loop_rounds 2 ?_
  rw [rounds_succ]
  go_wp2
  rw [rounds_succ]
  go_wp2
  refine wp_loop_rounds 3 ?_
  rw [rounds_succ]
  go_wp2
  rw [rounds_succ]
  go_wp2
  rw [rounds_succ]
  go_wp2
  go_ret2
  exact ⟨rfl, rfl⟩

set_option maxRecDepth 100000 in
set_option maxHeartbeats 400000 in
theorem prefix_14_P : PrefixIs [49, 46, 48, 46] false false := by
  intro g cap w hc
  have c0 : w.cell? ⟨g, 0, none⟩ = some (.int .u8 49) := hc 0 (by simp)
  have c1 : w.cell? ⟨g, 1, none⟩ = some (.int .u8 46) := hc 1 (by simp)
  have c2 : w.cell? ⟨g, 2, none⟩ = some (.int .u8 48) := hc 2 (by simp)
  have c3 : w.cell? ⟨g, 3, none⟩ = some (.int .u8 46) := hc 3 (by simp)
  clear hc
  show Calls Try.prog 31 #[.slice (some ⟨g, 0, none⟩) 4 cap] w _
  go_enter Try.func31, Try.ntmps31
  go_wp2
  refine wp_loop_rounds 2 ?_
  rw [rounds_succ]
  go_wp2
  rw [rounds_succ]
  go_wp2
  refine wp_loop_rounds 2 ?_
  rw [rounds_succ]
  go_wp2
  rw [rounds_succ]
  go_wp2
  go_ret2
  exact ⟨rfl, rfl⟩

set_option maxRecDepth 100000 in
set_option maxHeartbeats 400000 in
theorem prefix_14_e : PrefixIs [49, 46, 48, 101] true false := by
  intro g cap w hc
  have c0 : w.cell? ⟨g, 0, none⟩ = some (.int .u8 49) := hc 0 (by simp)
  have c1 : w.cell? ⟨g, 1, none⟩ = some (.int .u8 46) := hc 1 (by simp)
  have c2 : w.cell? ⟨g, 2, none⟩ = some (.int .u8 48) := hc 2 (by simp)
  have c3 : w.cell? ⟨g, 3, none⟩ = some (.int .u8 101) := hc 3 (by simp)
  clear hc
  show Calls Try.prog 31 #[.slice (some ⟨g, 0, none⟩) 4 cap] w _
  go_enter Try.func31, Try.ntmps31
  go_wp2
  refine wp_loop_rounds 2 ?_
  rw [rounds_succ]
  go_wp2
  rw [rounds_succ]
  go_wp2
  refine wp_loop_rounds 2 ?_
  rw [rounds_succ]
  go_wp2
  rw [rounds_succ]
  go_wp2
  go_ret2
  exact ⟨rfl, rfl⟩

set_option maxRecDepth 100000 in
set_option maxHeartbeats 400000 in
theorem prefix_14_E : PrefixIs [49, 46, 48, 69] true false := by
  intro g cap w hc
  have c0 : w.cell? ⟨g, 0, none⟩ = some (.int .u8 49) := hc 0 (by simp)
  have c1 : w.cell? ⟨g, 1, none⟩ = some (.int .u8 46) := hc 1 (by simp)
  have c2 : w.cell? ⟨g, 2, none⟩ = some (.int .u8 48) := hc 2 (by simp)
  have c3 : w.cell? ⟨g, 3, none⟩ = some (.int .u8 69) := hc 3 (by simp)
  clear hc
  show Calls Try.prog 31 #[.slice (some ⟨g, 0, none⟩) 4 cap] w _
  go_enter Try.func31, Try.ntmps31
  go_wp2
  refine wp_loop_rounds 2 ?_
  rw [rounds_succ]
  go_wp2
  rw [rounds_succ]
  go_wp2
  refine wp_loop_rounds 2 ?_
  rw [rounds_succ]
  go_wp2
  rw [rounds_succ]
  go_wp2
  go_ret2
  exact ⟨rfl, rfl⟩

set_option maxRecDepth 100000 in
set_option maxHeartbeats 400000 in
theorem prefix_14_M : PrefixIs [49, 46, 48, 45] false false := by
  intro g cap w hc
  have c0 : w.cell? ⟨g, 0, none⟩ = some (.int .u8 49) := hc 0 (by simp)
  have c1 : w.cell? ⟨g, 1, none⟩ = some (.int .u8 46) := hc 1 (by simp)
  have c2 : w.cell? ⟨g, 2, none⟩ = some (.int .u8 48) := hc 2 (by simp)
  have c3 : w.cell? ⟨g, 3, none⟩ = some (.int .u8 45) := hc 3 (by simp)
  clear hc
  show Calls Try.prog 31 #[.slice (some ⟨g, 0, none⟩) 4 cap] w _
  go_enter Try.func31, Try.ntmps31
  go_wp2
  refine wp_loop_rounds 2 ?_
  rw [rounds_succ]
  go_wp2
  rw [rounds_succ]
  go_wp2
  refine wp_loop_rounds 2 ?_
  rw [rounds_succ]
  go_wp2
  rw [rounds_succ]
  go_wp2
  go_ret2
  exact ⟨rfl, rfl⟩

set_option maxRecDepth 100000 in
set_option maxHeartbeats 400000 in
theorem prefix_14_L : PrefixIs [49, 46, 48, 43] false false := by
  intro g cap w hc
  have c0 : w.cell? ⟨g, 0, none⟩ = some (.int .u8 49) := hc 0 (by simp)
  have c1 : w.cell? ⟨g, 1, none⟩ = some (.int .u8 46) := hc 1 (by simp)
  have c2 : w.cell? ⟨g, 2, none⟩ = some (.int .u8 48) := hc 2 (by simp)
  have c3 : w.cell? ⟨g, 3, none⟩ = some (.int .u8 43) := hc 3 (by simp)
  clear hc
  show Calls Try.prog 31 #[.slice (some ⟨g, 0, none⟩) 4 cap] w _
  go_enter Try.func31, Try.ntmps31
  go_wp2
  refine wp_loop_rounds 2 ?_
  rw [rounds_succ]
  go_wp2
  rw [rounds_succ]
  go_wp2
  refine wp_loop_rounds 2 ?_
  rw [rounds_succ]
  go_wp2
  rw [rounds_succ]
  go_wp2
  go_ret2
  exact ⟨rfl, rfl⟩

set_option maxRecDepth 100000 in
set_option maxHeartbeats 400000 in
theorem prefix_14_l (c : Int) (h1 : c < 48) (h2 : c ≠ 43) (h3 : c ≠ 45) (h4 : c ≠ 46) : PrefixIs [49, 46, 48, c] false false := by
  intro g cap w hc
  have c0 : w.cell? ⟨g, 0, none⟩ = some (.int .u8 49) := hc 0 (by simp)
  have c1 : w.cell? ⟨g, 1, none⟩ = some (.int .u8 46) := hc 1 (by simp)
  have c2 : w.cell? ⟨g, 2, none⟩ = some (.int .u8 48) := hc 2 (by simp)
  have c3 : w.cell? ⟨g, 3, none⟩ = some (.int .u8 c) := hc 3 (by simp)
  clear hc
  have x43 : (c == 43) = false := by simp; omega
  have x45 : (c == 45) = false := by simp; omega
  have x46 : (c == 46) = false := by simp; omega
  have x48 : (c == 48) = false := by simp; omega
  have x69 : (c == 69) = false := by simp; omega
  have x101 : (c == 101) = false := by simp; omega
  show Calls Try.prog 31 #[.slice (some ⟨g, 0, none⟩) 4 cap] w _
  go_enter Try.func31, Try.ntmps31
  go_wp2
  refine wp_loop_rounds 2 ?_
  rw [rounds_succ]
  go_wp2
  rw [rounds_succ]
  go_wp2
  refine wp_loop_rounds 2 ?_
  rw [rounds_succ]
  go_wp2
  rw [rounds_succ]
  go_wp2
  go_ret2
  exact ⟨rfl, rfl⟩

set_option maxRecDepth 100000 in
set_option maxHeartbeats 400000 in
theorem prefix_14_h (c : Int) (h1 : 57 < c) (h2 : c ≠ 69) (h3 : c ≠ 101) : PrefixIs [49, 46, 48, c] false false := by
  intro g cap w hc
  have c0 : w.cell? ⟨g, 0, none⟩ = some (.int .u8 49) := hc 0 (by simp)
  have c1 : w.cell? ⟨g, 1, none⟩ = some (.int .u8 46) := hc 1 (by simp)
  have c2 : w.cell? ⟨g, 2, none⟩ = some (.int .u8 48) := hc 2 (by simp)
  have c3 : w.cell? ⟨g, 3, none⟩ = some (.int .u8 c) := hc 3 (by simp)
  clear hc
  have x43 : (c == 43) = false := by simp; omega
  have x45 : (c == 45) = false := by simp; omega
  have x46 : (c == 46) = false := by simp; omega
  have x48 : (c == 48) = false := by simp; omega
  have x69 : (c == 69) = false := by simp; omega
  have x101 : (c == 101) = false := by simp; omega
  show Calls Try.prog 31 #[.slice (some ⟨g, 0, none⟩) 4 cap] w _
  go_enter Try.func31, Try.ntmps31
  go_wp2
  refine wp_loop_rounds 2 ?_
  rw [rounds_succ]
  go_wp2
  rw [rounds_succ]
  go_wp2
  refine wp_loop_rounds 2 ?_
  rw [rounds_succ]
  go_wp2
  rw [rounds_succ]
  go_wp2
  go_ret2
  exact ⟨rfl, rfl⟩

set_option maxRecDepth 100000 in
set_option maxHeartbeats 400000 in
theorem prefix_15_Z : PrefixIs [49, 101, 48] true true := by
  intro g cap w hc
  have c0 : w.cell? ⟨g, 0, none⟩ = some (.int .u8 49) := hc 0 (by simp)
  have c1 : w.cell? ⟨g, 1, none⟩ = some (.int .u8 101) := hc 1 (by simp)
  have c2 : w.cell? ⟨g, 2, none⟩ = some (.int .u8 48) := hc 2 (by simp)
  clear hc
  show Calls Try.prog 31 #[.slice (some ⟨g, 0, none⟩) 3 cap] w _
  go_enter Try.func31, Try.ntmps31
  go_wp2
  refine wp_loop_rounds 2 ?_
  rw [rounds_succ]
  go_wp2
  rw [rounds_succ]
  go_wp2
  refine wp_loop_rounds 2 ?_
  rw [rounds_succ]
  go_wp2
  rw [rounds_succ]
  go_wp2
  go_ret2
  exact ⟨rfl, rfl⟩

set_option maxRecDepth 100000 in
set_option maxHeartbeats 400000 in
theorem prefix_15_D (c : Int) (h1 : 49 ≤ c) (h2 : c ≤ 57) : PrefixIs [49, 101, c] true true := by
  intro g cap w hc
  have c0 : w.cell? ⟨g, 0, none⟩ = some (.int .u8 49) := hc 0 (by simp)
  have c1 : w.cell? ⟨g, 1, none⟩ = some (.int .u8 101) := hc 1 (by simp)
  have c2 : w.cell? ⟨g, 2, none⟩ = some (.int .u8 c) := hc 2 (by simp)
  clear hc
  have x43 : (c == 43) = false := by simp; omega
  have x45 : (c == 45) = false := by simp; omega
  have x46 : (c == 46) = false := by simp; omega
  have x48 : (c == 48) = false := by simp; omega
  have x69 : (c == 69) = false := by simp; omega
  have x101 : (c == 101) = false := by simp; omega
  show Calls Try.prog 31 #[.slice (some ⟨g, 0, none⟩) 3 cap] w _
  go_enter Try.func31, Try.ntmps31
  go_wp2
  refine wp_loop_rounds 2 ?_
  rw [rounds_succ]
  go_wp2
  rw [rounds_succ]
  go_wp2
  refine wp_loop_rounds 2 ?_
  rw [rounds_succ]
  go_wp2
  rw [rounds_succ]
  go_wp2
  go_ret2
  exact ⟨rfl, rfl⟩

set_option maxRecDepth 100000 in
set_option maxHeartbeats 400000 in
theorem prefix_15_P : PrefixIs [49, 101, 46] false false := by
  intro g cap w hc
  have c0 : w.cell? ⟨g, 0, none⟩ = some (.int .u8 49) := hc 0 (by simp)
  have c1 : w.cell? ⟨g, 1, none⟩ = some (.int .u8 101) := hc 1 (by simp)
  have c2 : w.cell? ⟨g, 2, none⟩ = some (.int .u8 46) := hc 2 (by simp)
  clear hc
  show Calls Try.prog 31 #[.slice (some ⟨g, 0, none⟩) 3 cap] w _
  go_enter Try.func31, Try.ntmps31
  go_wp2
  refine wp_loop_rounds 2 ?_
  rw [rounds_succ]
  go_wp2
  rw [rounds_succ]
  go_wp2
  go_ret2
  exact ⟨rfl, rfl⟩

set_option maxRecDepth 100000 in
set_option maxHeartbeats 400000 in
theorem prefix_15_e : PrefixIs [49, 101, 101] false false := by
  intro g cap w hc
  have c0 : w.cell? ⟨g, 0, none⟩ = some (.int .u8 49) := hc 0 (by simp)
  have c1 : w.cell? ⟨g, 1, none⟩ = some (.int .u8 101) := hc 1 (by simp)
  have c2 : w.cell? ⟨g, 2, none⟩ = some (.int .u8 101) := hc 2 (by simp)
  clear hc
  show Calls Try.prog 31 #[.slice (some ⟨g, 0, none⟩) 3 cap] w _
  go_enter Try.func31, Try.ntmps31
  go_wp2
  refine wp_loop_rounds 2 ?_
  rw [rounds_succ]
  go_wp2
  rw [rounds_succ]
  go_wp2
  go_ret2
  exact ⟨rfl, rfl⟩

set_option maxRecDepth 100000 in
set_option maxHeartbeats 400000 in
theorem prefix_15_E : PrefixIs [49, 101, 69] false false := by
  intro g cap w hc
  have c0 : w.cell? ⟨g, 0, none⟩ = some (.int .u8 49) := hc 0 (by simp)
  have c1 : w.cell? ⟨g, 1, none⟩ = some (.int .u8 101) := hc 1 (by simp)
  have c2 : w.cell? ⟨g, 2, none⟩ = some (.int .u8 69) := hc 2 (by simp)
  clear hc
  show Calls Try.prog 31 #[.slice (some ⟨g, 0, none⟩) 3 cap] w _
  go_enter Try.func31, Try.ntmps31
  go_wp2
  refine wp_loop_rounds 2 ?_
  rw [rounds_succ]
  go_wp2
  rw [rounds_succ]
  go_wp2
  go_ret2
  exact ⟨rfl, rfl⟩

set_option maxRecDepth 100000 in
set_option maxHeartbeats 400000 in
theorem prefix_15_M : PrefixIs [49, 101, 45] true false := by
  intro g cap w hc
  have c0 : w.cell? ⟨g, 0, none⟩ = some (.int .u8 49) := hc 0 (by simp)
  have c1 : w.cell? ⟨g, 1, none⟩ = some (.int .u8 101) := hc 1 (by simp)
  have c2 : w.cell? ⟨g, 2, none⟩ = some (.int .u8 45) := hc 2 (by simp)
  clear hc
  show Calls Try.prog 31 #[.slice (some ⟨g, 0, none⟩) 3 cap] w _
  go_enter Try.func31, Try.ntmps31
  go_wp2
  refine wp_loop_rounds 2 ?_
  rw [rounds_succ]
  go_wp2
  rw [rounds_succ]
  go_wp2
  go_ret2
  exact ⟨rfl, rfl⟩

set_option maxRecDepth 100000 in
set_option maxHeartbeats 400000 in
theorem prefix_15_L : PrefixIs [49, 101, 43] true false := by
  intro g cap w hc
  have c0 : w.cell? ⟨g, 0, none⟩ = some (.int .u8 49) := hc 0 (by simp)
  have c1 : w.cell? ⟨g, 1, none⟩ = some (.int .u8 101) := hc 1 (by simp)
  have c2 : w.cell? ⟨g, 2, none⟩ = some (.int .u8 43) := hc 2 (by simp)
  clear hc
  show Calls Try.prog 31 #[.slice (some ⟨g, 0, none⟩) 3 cap] w _
  go_enter Try.func31, Try.ntmps31
  go_wp2
  refine wp_loop_rounds 2 ?_
  rw [rounds_succ]
  go_wp2
  rw [rounds_succ]
  go_wp2
  go_ret2
  exact ⟨rfl, rfl⟩

set_option maxRecDepth 100000 in
set_option maxHeartbeats 400000 in
theorem prefix_15_l (c : Int) (h1 : c < 48) (h2 : c ≠ 43) (h3 : c ≠ 45) (h4 : c ≠ 46) : PrefixIs [49, 101, c] false false := by
  intro g cap w hc
  have c0 : w.cell? ⟨g, 0, none⟩ = some (.int .u8 49) := hc 0 (by simp)
  have c1 : w.cell? ⟨g, 1, none⟩ = some (.int .u8 101) := hc 1 (by simp)
  have c2 : w.cell? ⟨g, 2, none⟩ = some (.int .u8 c) := hc 2 (by simp)
  clear hc
  have x43 : (c == 43) = false := by simp; omega
  have x45 : (c == 45) = false := by simp; omega
  have x46 : (c == 46) = false := by simp; omega
  have x48 : (c == 48) = false := by simp; omega
  have x69 : (c == 69) = false := by simp; omega
  have x101 : (c == 101) = false := by simp; omega
  show Calls Try.prog 31 #[.slice (some ⟨g, 0, none⟩) 3 cap] w _
  go_enter Try.func31, Try.ntmps31
  go_wp2
  refine wp_loop_rounds 2 ?_
  rw [rounds_succ]
  go_wp2
  rw [rounds_succ]
  go_wp2
  go_ret2
  exact ⟨rfl, rfl⟩

set_option maxRecDepth 100000 in
set_option maxHeartbeats 400000 in
theorem prefix_15_h (c : Int) (h1 : 57 < c) (h2 : c ≠ 69) (h3 : c ≠ 101) : PrefixIs [49, 101, c] false false := by
  intro g cap w hc
  have c0 : w.cell? ⟨g, 0, none⟩ = some (.int .u8 49) := hc 0 (by simp)
  have c1 : w.cell? ⟨g, 1, none⟩ = some (.int .u8 101) := hc 1 (by simp)
  have c2 : w.cell? ⟨g, 2, none⟩ = some (.int .u8 c) := hc 2 (by simp)
  clear hc
  have x43 : (c == 43) = false := by simp; omega
  have x45 : (c == 45) = false := by simp; omega
  have x46 : (c == 46) = false := by simp; omega
  have x48 : (c == 48) = false := by simp; omega
  have x69 : (c == 69) = false := by simp; omega
  have x101 : (c == 101) = false := by simp; omega
  have y1 : (48 : Int) ≤ c := by omega
  have y2 : decide (c ≤ 57) = false := by simp; omega
  show Calls Try.prog 31 #[.slice (some ⟨g, 0, none⟩) 3 cap] w _
  go_enter Try.func31, Try.ntmps31
  go_wp2
  refine wp_loop_rounds 2 ?_
  rw [rounds_succ]
  go_wp2
  rw [rounds_succ]
  go_wp2
  go_ret2
  exact ⟨rfl, rfl⟩

set_option maxRecDepth 100000 in
set_option maxHeartbeats 400000 in
theorem prefix_16_Z : PrefixIs [49, 101, 45, 48] true true := by
  intro g cap w hc
  have c0 : w.cell? ⟨g, 0, none⟩ = some (.int .u8 49) := hc 0 (by simp)
  have c1 : w.cell? ⟨g, 1, none⟩ = some (.int .u8 101) := hc 1 (by simp)
  have c2 : w.cell? ⟨g, 2, none⟩ = some (.int .u8 45) := hc 2 (by simp)
  have c3 : w.cell? ⟨g, 3, none⟩ = some (.int .u8 48) := hc 3 (by simp)
  clear hc
  show Calls Try.prog 31 #[.slice (some ⟨g, 0, none⟩) 4 cap] w _
  go_enter Try.func31, Try.ntmps31
  go_wp2
  refine wp_loop_rounds 2 ?_
  rw [rounds_succ]
  go_wp2
  rw [rounds_succ]
  go_wp2
  refine wp_loop_rounds 2 ?_
  rw [rounds_succ]
  go_wp2
  rw [rounds_succ]
  go_wp2
  go_ret2
  exact ⟨rfl, rfl⟩

set_option maxRecDepth 100000 in
set_option maxHeartbeats 400000 in
theorem prefix_16_D (c : Int) (h1 : 49 ≤ c) (h2 : c ≤ 57) : PrefixIs [49, 101, 45, c] true true := by
  intro g cap w hc
  have c0 : w.cell? ⟨g, 0, none⟩ = some (.int .u8 49) := hc 0 (by simp)
  have c1 : w.cell? ⟨g, 1, none⟩ = some (.int .u8 101) := hc 1 (by simp)
  have c2 : w.cell? ⟨g, 2, none⟩ = some (.int .u8 45) := hc 2 (by simp)
  have c3 : w.cell? ⟨g, 3, none⟩ = some (.int .u8 c) := hc 3 (by simp)
  clear hc
  have x43 : (c == 43) = false := by simp; omega
  have x45 : (c == 45) = false := by simp; omega
  have x46 : (c == 46) = false := by simp; omega
  have x48 : (c == 48) = false := by simp; omega
  have x69 : (c == 69) = false := by simp; omega
  have x101 : (c == 101) = false := by simp; omega
  show Calls Try.prog 31 #[.slice (some ⟨g, 0, none⟩) 4 cap] w _
  go_enter Try.func31, Try.ntmps31
  go_wp2
  refine wp_loop_rounds 2 ?_
  rw [rounds_succ]
  go_wp2
  rw [rounds_succ]
  go_wp2
  refine wp_loop_rounds 2 ?_
  rw [rounds_succ]
  go_wp2
  rw [rounds_succ]
  go_wp2
  go_ret2
  exact ⟨rfl, rfl⟩

set_option maxRecDepth 100000 in
set_option maxHeartbeats 400000 in
theorem prefix_16_P : PrefixIs [49, 101, 45, 46] false false := by
  intro g cap w hc
  have c0 : w.cell? ⟨g, 0, none⟩ = some (.int .u8 49) := hc 0 (by simp)
  have c1 : w.cell? ⟨g, 1, none⟩ = some (.int .u8 101) := hc 1 (by simp)
  have c2 : w.cell? ⟨g, 2, none⟩ = some (.int .u8 45) := hc 2 (by simp)
  have c3 : w.cell? ⟨g, 3, none⟩ = some (.int .u8 46) := hc 3 (by simp)
  clear hc
  show Calls Try.prog 31 #[.slice (some ⟨g, 0, none⟩) 4 cap] w _
  go_enter Try.func31, Try.ntmps31
  go_wp2
  refine wp_loop_rounds 2 ?_
  rw [rounds_succ]
  go_wp2
  rw [rounds_succ]
  go_wp2
  go_ret2
  exact ⟨rfl, rfl⟩

set_option maxRecDepth 100000 in
set_option maxHeartbeats 400000 in
theorem prefix_16_e : PrefixIs [49, 101, 45, 101] false false := by
  intro g cap w hc
  have c0 : w.cell? ⟨g, 0, none⟩ = some (.int .u8 49) := hc 0 (by simp)
  have c1 : w.cell? ⟨g, 1, none⟩ = some (.int .u8 101) := hc 1 (by simp)
  have c2 : w.cell? ⟨g, 2, none⟩ = some (.int .u8 45) := hc 2 (by simp)
  have c3 : w.cell? ⟨g, 3, none⟩ = some (.int .u8 101) := hc 3 (by simp)
  clear hc
  show Calls Try.prog 31 #[.slice (some ⟨g, 0, none⟩) 4 cap] w _
  go_enter Try.func31, Try.ntmps31
  go_wp2
  refine wp_loop_rounds 2 ?_
  rw [rounds_succ]
  go_wp2
  rw [rounds_succ]
  go_wp2
  go_ret2
  exact ⟨rfl, rfl⟩

set_option maxRecDepth 100000 in
set_option maxHeartbeats 400000 in
theorem prefix_16_E : PrefixIs [49, 101, 45, 69] false false := by
  intro g cap w hc
  have c0 : w.cell? ⟨g, 0, none⟩ = some (.int .u8 49) := hc 0 (by simp)
  have c1 : w.cell? ⟨g, 1, none⟩ = some (.int .u8 101) := hc 1 (by simp)
  have c2 : w.cell? ⟨g, 2, none⟩ = some (.int .u8 45) := hc 2 (by simp)
  have c3 : w.cell? ⟨g, 3, none⟩ = some (.int .u8 69) := hc 3 (by simp)
  clear hc
  show Calls Try.prog 31 #[.slice (some ⟨g, 0, none⟩) 4 cap] w _
  go_enter Try.func31, Try.ntmps31
  go_wp2
  refine wp_loop_rounds 2 ?_
  rw [rounds_succ]
  go_wp2
  rw [rounds_succ]
  go_wp2
  go_ret2
  exact ⟨rfl, rfl⟩

set_option maxRecDepth 100000 in
set_option maxHeartbeats 400000 in
theorem prefix_16_M : PrefixIs [49, 101, 45, 45] false false := by
  intro g cap w hc
  have c0 : w.cell? ⟨g, 0, none⟩ = some (.int .u8 49) := hc 0 (by simp)
  have c1 : w.cell? ⟨g, 1, none⟩ = some (.int .u8 101) := hc 1 (by simp)
  have c2 : w.cell? ⟨g, 2, none⟩ = some (.int .u8 45) := hc 2 (by simp)
  have c3 : w.cell? ⟨g, 3, none⟩ = some (.int .u8 45) := hc 3 (by simp)
  clear hc
  show Calls Try.prog 31 #[.slice (some ⟨g, 0, none⟩) 4 cap] w _
  go_enter Try.func31, Try.ntmps31
  go_wp2
  refine wp_loop_rounds 2 ?_
  rw [rounds_succ]
  go_wp2
  rw [rounds_succ]
  go_wp2
  go_ret2
  exact ⟨rfl, rfl⟩

set_option maxRecDepth 100000 in
set_option maxHeartbeats 400000 in
theorem prefix_16_L : PrefixIs [49, 101, 45, 43] false false := by
  intro g cap w hc
  have c0 : w.cell? ⟨g, 0, none⟩ = some (.int .u8 49) := hc 0 (by simp)
  have c1 : w.cell? ⟨g, 1, none⟩ = some (.int .u8 101) := hc 1 (by simp)
  have c2 : w.cell? ⟨g, 2, none⟩ = some (.int .u8 45) := hc 2 (by simp)
  have c3 : w.cell? ⟨g, 3, none⟩ = some (.int .u8 43) := hc 3 (by simp)
  clear hc
  show Calls Try.prog 31 #[.slice (some ⟨g, 0, none⟩) 4 cap] w _
  go_enter Try.func31, Try.ntmps31
  go_wp2
  refine wp_loop_rounds 2 ?_
  rw [rounds_succ]
  go_wp2
  rw [rounds_succ]
  go_wp2
  go_ret2
  exact ⟨rfl, rfl⟩

set_option maxRecDepth 100000 in
set_option maxHeartbeats 400000 in
theorem prefix_16_l (c : Int) (h1 : c < 48) (h2 : c ≠ 43) (h3 : c ≠ 45) (h4 : c ≠ 46) : PrefixIs [49, 101, 45, c] false false := by
  intro g cap w hc
  have c0 : w.cell? ⟨g, 0, none⟩ = some (.int .u8 49) := hc 0 (by simp)
  have c1 : w.cell? ⟨g, 1, none⟩ = some (.int .u8 101) := hc 1 (by simp)
  have c2 : w.cell? ⟨g, 2, none⟩ = some (.int .u8 45) := hc 2 (by simp)
  have c3 : w.cell? ⟨g, 3, none⟩ = some (.int .u8 c) := hc 3 (by simp)
  clear hc
  have x43 : (c == 43) = false := by simp; omega
  have x45 : (c == 45) = false := by simp; omega
  have x46 : (c == 46) = false := by simp; omega
  have x48 : (c == 48) = false := by simp; omega
  have x69 : (c == 69) = false := by simp; omega
  have x101 : (c == 101) = false := by simp; omega
  show Calls Try.prog 31 #[.slice (some ⟨g, 0, none⟩) 4 cap] w _
  go_enter Try.func31, Try.ntmps31
  go_wp2
  refine wp_loop_rounds 2 ?_
  rw [rounds_succ]
  go_wp2
  rw [rounds_succ]
  go_wp2
  go_ret2
  exact ⟨rfl, rfl⟩

set_option maxRecDepth 100000 in
set_option maxHeartbeats 400000 in
theorem prefix_16_h (c : Int) (h1 : 57 < c) (h2 : c ≠ 69) (h3 : c ≠ 101) : PrefixIs [49, 101, 45, c] false false := by
  intro g cap w hc
  have c0 : w.cell? ⟨g, 0, none⟩ = some (.int .u8 49) := hc 0 (by simp)
  have c1 : w.cell? ⟨g, 1, none⟩ = some (.int .u8 101) := hc 1 (by simp)
  have c2 : w.cell? ⟨g, 2, none⟩ = some (.int .u8 45) := hc 2 (by simp)
  have c3 : w.cell? ⟨g, 3, none⟩ = some (.int .u8 c) := hc 3 (by simp)
  clear hc
  have x43 : (c == 43) = false := by simp; omega
  have x45 : (c == 45) = false := by simp; omega
  have x46 : (c == 46) = false := by simp; omega
  have x48 : (c == 48) = false := by simp; omega
  have x69 : (c == 69) = false := by simp; omega
  have x101 : (c == 101) = false := by simp; omega
  have y1 : (48 : Int) ≤ c := by omega
  have y2 : decide (c ≤ 57) = false := by simp; omega
  show Calls Try.prog 31 #[.slice (some ⟨g, 0, none⟩) 4 cap] w _
  go_enter Try.func31, Try.ntmps31
  go_wp2
  refine wp_loop_rounds 2 ?_
  rw [rounds_succ]
  go_wp2
  rw [rounds_succ]
  go_wp2
  go_ret2
  exact ⟨rfl, rfl⟩

set_option maxRecDepth 100000 in
set_option maxHeartbeats 400000 in
theorem prefix_17_Z : PrefixIs [49, 101, 48, 48] true true := by
  intro g cap w hc
  have c0 : w.cell? ⟨g, 0, none⟩ = some (.int .u8 49) := hc 0 (by simp)
  have c1 : w.cell? ⟨g, 1, none⟩ = some (.int .u8 101) := hc 1 (by simp)
  have c2 : w.cell? ⟨g, 2, none⟩ = some (.int .u8 48) := hc 2 (by simp)
  have c3 : w.cell? ⟨g, 3, none⟩ = some (.int .u8 48) := hc 3 (by simp)
  clear hc
  show Calls Try.prog 31 #[.slice (some ⟨g, 0, none⟩) 4 cap] w _
  go_enter Try.func31, Try.ntmps31
  go_wp2
  refine wp_loop_rounds 2 ?_
  rw [rounds_succ]
  go_wp2
  rw [rounds_succ]
  go_wp2
  refine wp_loop_rounds 3 ?_
  rw [rounds_succ]
  go_wp2
  rw [rounds_succ]
  go_wp2
  rw [rounds_succ]
  go_wp2
  go_ret2
  exact ⟨rfl, rfl⟩

set_option maxRecDepth 100000 in
set_option maxHeartbeats 400000 in
theorem prefix_17_D (c : Int) (h1 : 49 ≤ c) (h2 : c ≤ 57) : PrefixIs [49, 101, 48, c] true true := by
  intro g cap w hc
  have c0 : w.cell? ⟨g, 0, none⟩ = some (.int .u8 49) := hc 0 (by simp)
  have c1 : w.cell? ⟨g, 1, none⟩ = some (.int .u8 101) := hc 1 (by simp)
  have c2 : w.cell? ⟨g, 2, none⟩ = some (.int .u8 48) := hc 2 (by simp)
  have c3 : w.cell? ⟨g, 3, none⟩ = some (.int .u8 c) := hc 3 (by simp)
  clear hc
  have x43 : (c == 43) = false := by simp; omega
  have x45 : (c == 45) = false := by simp; omega
  have x46 : (c == 46) = false := by simp; omega
  have x48 : (c == 48) = false := by simp; omega
  have x69 : (c == 69) = false := by simp; omega
  have x101 : (c == 101) = false := by simp; omega
  show Calls Try.prog 31 #[.slice (some ⟨g, 0, none⟩) 4 cap] w _
  go_enter Try.func31, Try.ntmps31
  go_wp2
  refine wp_loop_rounds 2 ?_
  rw [rounds_succ]
  go_wp2
  rw [rounds_succ]
  go_wp2
  refine wp_loop_rounds 3 ?_
  rw [rounds_succ]
  go_wp2
  rw [rounds_succ]
  go_wp2
  rw [rounds_succ]
  go_wp2
  go_ret2
  exact ⟨rfl, rfl⟩

set_option maxRecDepth 100000 in
set_option maxHeartbeats 400000 in
theorem prefix_17_P : PrefixIs [49, 101, 48, 46] false false := by
  intro g cap w hc
  have c0 : w.cell? ⟨g, 0, none⟩ = some (.int .u8 49) := hc 0 (by simp)
  have c1 : w.cell? ⟨g, 1, none⟩ = some (.int .u8 101) := hc 1 (by simp)
  have c2 : w.cell? ⟨g, 2, none⟩ = some (.int .u8 48) := hc 2 (by simp)
  have c3 : w.cell? ⟨g, 3, none⟩ = some (.int .u8 46) := hc 3 (by simp)
  clear hc
  show Calls Try.prog 31 #[.slice (some ⟨g, 0, none⟩) 4 cap] w _
  go_enter Try.func31, Try.ntmps31
  go_wp2
  refine wp_loop_rounds 2 ?_
  rw [rounds_succ]
  go_wp2
  rw [rounds_succ]
  go_wp2
  refine wp_loop_rounds 2 ?_
  rw [rounds_succ]
  go_wp2
  rw [rounds_succ]
  go_wp2
  go_ret2
  exact ⟨rfl, rfl⟩

set_option maxRecDepth 100000 in
set_option maxHeartbeats 400000 in
theorem prefix_17_e : PrefixIs [49, 101, 48, 101] false false := by
  intro g cap w hc
  have c0 : w.cell? ⟨g, 0, none⟩ = some (.int .u8 49) := hc 0 (by simp)
  have c1 : w.cell? ⟨g, 1, none⟩ = some (.int .u8 101) := hc 1 (by simp)
  have c2 : w.cell? ⟨g, 2, none⟩ = some (.int .u8 48) := hc 2 (by simp)
  have c3 : w.cell? ⟨g, 3, none⟩ = some (.int .u8 101) := hc 3 (by simp)
  clear hc
  show Calls Try.prog 31 #[.slice (some ⟨g, 0, none⟩) 4 cap] w _
  go_enter Try.func31, Try.ntmps31
  go_wp2
  refine wp_loop_rounds 2 ?_
  rw [rounds_succ]
  go_wp2
  rw [rounds_succ]
  go_wp2
  refine wp_loop_rounds 2 ?_
  rw [rounds_succ]
  go_wp2
  rw [rounds_succ]
  go_wp2
  go_ret2
  exact ⟨rfl, rfl⟩

set_option maxRecDepth 100000 in
set_option maxHeartbeats 400000 in
theorem prefix_17_E : PrefixIs [49, 101, 48, 69] false false := by
  intro g cap w hc
  have c0 : w.cell? ⟨g, 0, none⟩ = some (.int .u8 49) := hc 0 (by simp)
  have c1 : w.cell? ⟨g, 1, none⟩ = some (.int .u8 101) := hc 1 (by simp)
  have c2 : w.cell? ⟨g, 2, none⟩ = some (.int .u8 48) := hc 2 (by simp)
  have c3 : w.cell? ⟨g, 3, none⟩ = some (.int .u8 69) := hc 3 (by simp)
  clear hc
  show Calls Try.prog 31 #[.slice (some ⟨g, 0, none⟩) 4 cap] w _
  go_enter Try.func31, Try.ntmps31
  go_wp2
  refine wp_loop_rounds 2 ?_
  rw [rounds_succ]
  go_wp2
  rw [rounds_succ]
  go_wp2
  refine wp_loop_rounds 2 ?_
  rw [rounds_succ]
  go_wp2
  rw [rounds_succ]
  go_wp2
  go_ret2
  exact ⟨rfl, rfl⟩

set_option maxRecDepth 100000 in
set_option maxHeartbeats 400000 in
theorem prefix_17_M : PrefixIs [49, 101, 48, 45] false false := by
  intro g cap w hc
  have c0 : w.cell? ⟨g, 0, none⟩ = some (.int .u8 49) := hc 0 (by simp)
  have c1 : w.cell? ⟨g, 1, none⟩ = some (.int .u8 101) := hc 1 (by simp)
  have c2 : w.cell? ⟨g, 2, none⟩ = some (.int .u8 48) := hc 2 (by simp)
  have c3 : w.cell? ⟨g, 3, none⟩ = some (.int .u8 45) := hc 3 (by simp)
  clear hc
  show Calls Try.prog 31 #[.slice (some ⟨g, 0, none⟩) 4 cap] w _
  go_enter Try.func31, Try.ntmps31
  go_wp2
  refine wp_loop_rounds 2 ?_
  rw [rounds_succ]
  go_wp2
  rw [rounds_succ]
  go_wp2
  refine wp_loop_rounds 2 ?_
  rw [rounds_succ]
  go_wp2
  rw [rounds_succ]
  go_wp2
  go_ret2
  exact ⟨rfl, rfl⟩

set_option maxRecDepth 100000 in
set_option maxHeartbeats 400000 in
theorem prefix_17_L : PrefixIs [49, 101, 48, 43] false false := by
  intro g cap w hc
  have c0 : w.cell? ⟨g, 0, none⟩ = some (.int .u8 49) := hc 0 (by simp)
  have c1 : w.cell? ⟨g, 1, none⟩ = some (.int .u8 101) := hc 1 (by simp)
  have c2 : w.cell? ⟨g, 2, none⟩ = some (.int .u8 48) := hc 2 (by simp)
  have c3 : w.cell? ⟨g, 3, none⟩ = some (.int .u8 43) := hc 3 (by simp)
  clear hc
  show Calls Try.prog 31 #[.slice (some ⟨g, 0, none⟩) 4 cap] w _
  go_enter Try.func31, Try.ntmps31
  go_wp2
  refine wp_loop_rounds 2 ?_
  rw [rounds_succ]
  go_wp2
  rw [rounds_succ]
  go_wp2
  refine wp_loop_rounds 2 ?_
  rw [rounds_succ]
  go_wp2
  rw [rounds_succ]
  go_wp2
  go_ret2
  exact ⟨rfl, rfl⟩

set_option maxRecDepth 100000 in
set_option maxHeartbeats 400000 in
theorem prefix_17_l (c : Int) (h1 : c < 48) (h2 : c ≠ 43) (h3 : c ≠ 45) (h4 : c ≠ 46) : PrefixIs [49, 101, 48, c] false false := by
  intro g cap w hc
  have c0 : w.cell? ⟨g, 0, none⟩ = some (.int .u8 49) := hc 0 (by simp)
  have c1 : w.cell? ⟨g, 1, none⟩ = some (.int .u8 101) := hc 1 (by simp)
  have c2 : w.cell? ⟨g, 2, none⟩ = some (.int .u8 48) := hc 2 (by simp)
  have c3 : w.cell? ⟨g, 3, none⟩ = some (.int .u8 c) := hc 3 (by simp)
  clear hc
  have x43 : (c == 43) = false := by simp; omega
  have x45 : (c == 45) = false := by simp; omega
  have x46 : (c == 46) = false := by simp; omega
  have x48 : (c == 48) = false := by simp; omega
  have x69 : (c == 69) = false := by simp; omega
  have x101 : (c == 101) = false := by simp; omega
  show Calls Try.prog 31 #[.slice (some ⟨g, 0, none⟩) 4 cap] w _
  go_enter Try.func31, Try.ntmps31
  go_wp2
  refine wp_loop_rounds 2 ?_
  rw [rounds_succ]
  go_wp2
  rw [rounds_succ]
  go_wp2
  refine wp_loop_rounds 2 ?_
  rw [rounds_succ]
  go_wp2
  rw [rounds_succ]
  go_wp2
  go_ret2
  exact ⟨rfl, rfl⟩

set_option maxRecDepth 100000 in
set_option maxHeartbeats 400000 in
theorem prefix_17_h (c : Int) (h1 : 57 < c) (h2 : c ≠ 69) (h3 : c ≠ 101) : PrefixIs [49, 101, 48, c] false false := by
  intro g cap w hc
  have c0 : w.cell? ⟨g, 0, none⟩ = some (.int .u8 49) := hc 0 (by simp)
  have c1 : w.cell? ⟨g, 1, none⟩ = some (.int .u8 101) := hc 1 (by simp)
  have c2 : w.cell? ⟨g, 2, none⟩ = some (.int .u8 48) := hc 2 (by simp)
  have c3 : w.cell? ⟨g, 3, none⟩ = some (.int .u8 c) := hc 3 (by simp)
  clear hc
  have x43 : (c == 43) = false := by simp; omega
  have x45 : (c == 45) = false := by simp; omega
  have x46 : (c == 46) = false := by simp; omega
  have x48 : (c == 48) = false := by simp; omega
  have x69 : (c == 69) = false := by simp; omega
  have x101 : (c == 101) = false := by simp; omega
  show Calls Try.prog 31 #[.slice (some ⟨g, 0, none⟩) 4 cap] w _
  go_enter Try.func31, Try.ntmps31
  go_wp2
  refine wp_loop_rounds 2 ?_
  rw [rounds_succ]
  go_wp2
  rw [rounds_succ]
  go_wp2
  refine wp_loop_rounds 2 ?_
  rw [rounds_succ]
  go_wp2
  rw [rounds_succ]
  go_wp2
  go_ret2
  exact ⟨rfl, rfl⟩

set_option maxRecDepth 100000 in
set_option maxHeartbeats 400000 in
theorem prefix_14_W : PrefixIs [49, 46, 48] true true := by
  intro g cap w hc
  have c0 : w.cell? ⟨g, 0, none⟩ = some (.int .u8 49) := hc 0 (by simp)
  have c1 : w.cell? ⟨g, 1, none⟩ = some (.int .u8 46) := hc 1 (by simp)
  have c2 : w.cell? ⟨g, 2, none⟩ = some (.int .u8 48) := hc 2 (by simp)
  clear hc
  show Calls Try.prog 31 #[.slice (some ⟨g, 0, none⟩) 3 cap] w _
  go_enter Try.func31, Try.ntmps31
  go_wp2
  refine wp_loop_rounds 2 ?_
  rw [rounds_succ]
  go_wp2
  rw [rounds_succ]
  go_wp2
  refine wp_loop_rounds 2 ?_
  rw [rounds_succ]
  go_wp2
  rw [rounds_succ]
  go_wp2
  go_ret2
  exact ⟨rfl, rfl⟩

set_option maxRecDepth 100000 in
set_option maxHeartbeats 400000 in
theorem prefix_15_W : PrefixIs [49, 101] true false := by
  intro g cap w hc
  have c0 : w.cell? ⟨g, 0, none⟩ = some (.int .u8 49) := hc 0 (by simp)
  have c1 : w.cell? ⟨g, 1, none⟩ = some (.int .u8 101) := hc 1 (by simp)
  clear hc
  show Calls Try.prog 31 #[.slice (some ⟨g, 0, none⟩) 2 cap] w _
  go_enter Try.func31, Try.ntmps31
  go_wp2
  refine wp_loop_rounds 2 ?_
  rw [rounds_succ]
  go_wp2
  rw [rounds_succ]
  go_wp2
  go_ret2
  exact ⟨rfl, rfl⟩

set_option maxRecDepth 100000 in
set_option maxHeartbeats 400000 in
theorem prefix_16_W : PrefixIs [49, 101, 45] true false := by
  intro g cap w hc
  have c0 : w.cell? ⟨g, 0, none⟩ = some (.int .u8 49) := hc 0 (by simp)
  have c1 : w.cell? ⟨g, 1, none⟩ = some (.int .u8 101) := hc 1 (by simp)
  have c2 : w.cell? ⟨g, 2, none⟩ = some (.int .u8 45) := hc 2 (by simp)
  clear hc
  show Calls Try.prog 31 #[.slice (some ⟨g, 0, none⟩) 3 cap] w _
  go_enter Try.func31, Try.ntmps31
  go_wp2
  refine wp_loop_rounds 2 ?_
  rw [rounds_succ]
  go_wp2
  rw [rounds_succ]
  go_wp2
  go_ret2
  exact ⟨rfl, rfl⟩

set_option maxRecDepth 100000 in
set_option maxHeartbeats 400000 in
theorem prefix_17_W : PrefixIs [49, 101, 48] true true := by
  intro g cap w hc
  have c0 : w.cell? ⟨g, 0, none⟩ = some (.int .u8 49) := hc 0 (by simp)
  have c1 : w.cell? ⟨g, 1, none⟩ = some (.int .u8 101) := hc 1 (by simp)
  have c2 : w.cell? ⟨g, 2, none⟩ = some (.int .u8 48) := hc 2 (by simp)
  clear hc
  show Calls Try.prog 31 #[.slice (some ⟨g, 0, none⟩) 3 cap] w _
  go_enter Try.func31, Try.ntmps31
  go_wp2
  refine wp_loop_rounds 2 ?_
  rw [rounds_succ]
  go_wp2
  rw [rounds_succ]
  go_wp2
  refine wp_loop_rounds 2 ?_
  rw [rounds_succ]
  go_wp2
  rw [rounds_succ]
  go_wp2
  go_ret2
  exact ⟨rfl, rfl⟩
end Go.Proofs.Qxb6602542a
