import Derived.Test.Qxb6602542aNumA
namespace Go.Proofs.Qxb6602542a
open Go.RowKit

set_option maxRecDepth 100000 in
set_option maxHeartbeats 400000 in
theorem class_10_Z : ClassIs [45, 48] 11 := by
  intro g cap w hc
  have c0 : w.cell? ⟨g, 0, none⟩ = some (.int .u8 45) := hc 0 (by simp)
  have c1 : w.cell? ⟨g, 1, none⟩ = some (.int .u8 48) := hc 1 (by simp)
  clear hc
  show Calls Try.prog 32 #[.slice (some ⟨g, 0, none⟩) 2 cap] w _
  go_enter Try.func32, Try.ntmps32
  go_wp2
  refine wp_loop_rounds 3 ?_
  rw [rounds_succ]
  go_wp2
  rw [rounds_succ]
  go_wp2
  rw [rounds_succ]
  go_wp2
  go_ret
  exact ⟨rfl, rfl⟩

set_option maxRecDepth 100000 in
set_option maxHeartbeats 400000 in
theorem class_10_D (c : Int) (h1 : 49 ≤ c) (h2 : c ≤ 57) : ClassIs [45, c] 12 := by
  intro g cap w hc
  have c0 : w.cell? ⟨g, 0, none⟩ = some (.int .u8 45) := hc 0 (by simp)
  have c1 : w.cell? ⟨g, 1, none⟩ = some (.int .u8 c) := hc 1 (by simp)
  clear hc
  have x43 : (c == 43) = false := by simp; omega
  have x45 : (c == 45) = false := by simp; omega
  have x46 : (c == 46) = false := by simp; omega
  have x48 : (c == 48) = false := by simp; omega
  have x69 : (c == 69) = false := by simp; omega
  have x101 : (c == 101) = false := by simp; omega
  show Calls Try.prog 32 #[.slice (some ⟨g, 0, none⟩) 2 cap] w _
  go_enter Try.func32, Try.ntmps32
  go_wp2
  refine wp_loop_rounds 3 ?_
  rw [rounds_succ]
  go_wp2
  rw [rounds_succ]
  go_wp2
  rw [rounds_succ]
  go_wp2
  go_ret
  exact ⟨rfl, rfl⟩

set_option maxRecDepth 100000 in
set_option maxHeartbeats 400000 in
theorem class_11_P : ClassIs [48, 46] 13 := by
  intro g cap w hc
  have c0 : w.cell? ⟨g, 0, none⟩ = some (.int .u8 48) := hc 0 (by simp)
  have c1 : w.cell? ⟨g, 1, none⟩ = some (.int .u8 46) := hc 1 (by simp)
  clear hc
  show Calls Try.prog 32 #[.slice (some ⟨g, 0, none⟩) 2 cap] w _
  go_enter Try.func32, Try.ntmps32
  go_wp2
  refine wp_loop_rounds 3 ?_
  rw [rounds_succ]
  go_wp2
  rw [rounds_succ]
  go_wp2
  rw [rounds_succ]
  go_wp2
  go_ret
  exact ⟨rfl, rfl⟩

set_option maxRecDepth 100000 in
set_option maxHeartbeats 400000 in
theorem class_11_e : ClassIs [48, 101] 15 := by
  intro g cap w hc
  have c0 : w.cell? ⟨g, 0, none⟩ = some (.int .u8 48) := hc 0 (by simp)
  have c1 : w.cell? ⟨g, 1, none⟩ = some (.int .u8 101) := hc 1 (by simp)
  clear hc
  show Calls Try.prog 32 #[.slice (some ⟨g, 0, none⟩) 2 cap] w _
  go_enter Try.func32, Try.ntmps32
  go_wp2
  refine wp_loop_rounds 3 ?_
  rw [rounds_succ]
  go_wp2
  rw [rounds_succ]
  go_wp2
  rw [rounds_succ]
  go_wp2
  go_ret
  exact ⟨rfl, rfl⟩

set_option maxRecDepth 100000 in
set_option maxHeartbeats 400000 in
theorem class_11_E : ClassIs [48, 69] 15 := by
  intro g cap w hc
  have c0 : w.cell? ⟨g, 0, none⟩ = some (.int .u8 48) := hc 0 (by simp)
  have c1 : w.cell? ⟨g, 1, none⟩ = some (.int .u8 69) := hc 1 (by simp)
  clear hc
  show Calls Try.prog 32 #[.slice (some ⟨g, 0, none⟩) 2 cap] w _
  go_enter Try.func32, Try.ntmps32
  go_wp2
  refine wp_loop_rounds 3 ?_
  rw [rounds_succ]
  go_wp2
  rw [rounds_succ]
  go_wp2
  rw [rounds_succ]
  go_wp2
  go_ret
  exact ⟨rfl, rfl⟩

set_option maxRecDepth 100000 in
set_option maxHeartbeats 400000 in
theorem class_12_Z : ClassIs [49, 48] 12 := by
  intro g cap w hc
  have c0 : w.cell? ⟨g, 0, none⟩ = some (.int .u8 49) := hc 0 (by simp)
  have c1 : w.cell? ⟨g, 1, none⟩ = some (.int .u8 48) := hc 1 (by simp)
  clear hc
  show Calls Try.prog 32 #[.slice (some ⟨g, 0, none⟩) 2 cap] w _
  go_enter Try.func32, Try.ntmps32
  go_wp2
  refine wp_loop_rounds 3 ?_
  rw [rounds_succ]
  go_wp2
  rw [rounds_succ]
  go_wp2
  rw [rounds_succ]
  go_wp2
  go_ret
  exact ⟨rfl, rfl⟩

set_option maxRecDepth 100000 in
set_option maxHeartbeats 400000 in
theorem class_12_D (c : Int) (h1 : 49 ≤ c) (h2 : c ≤ 57) : ClassIs [49, c] 12 := by
  intro g cap w hc
  have c0 : w.cell? ⟨g, 0, none⟩ = some (.int .u8 49) := hc 0 (by simp)
  have c1 : w.cell? ⟨g, 1, none⟩ = some (.int .u8 c) := hc 1 (by simp)
  clear hc
  have x43 : (c == 43) = false := by simp; omega
  have x45 : (c == 45) = false := by simp; omega
  have x46 : (c == 46) = false := by simp; omega
  have x48 : (c == 48) = false := by simp; omega
  have x69 : (c == 69) = false := by simp; omega
  have x101 : (c == 101) = false := by simp; omega
  show Calls Try.prog 32 #[.slice (some ⟨g, 0, none⟩) 2 cap] w _
  go_enter Try.func32, Try.ntmps32
  go_wp2
  refine wp_loop_rounds 3 ?_
  rw [rounds_succ]
  go_wp2
  rw [rounds_succ]
  go_wp2
  rw [rounds_succ]
  go_wp2
  go_ret
  exact ⟨rfl, rfl⟩

set_option maxRecDepth 100000 in
set_option maxHeartbeats 400000 in
theorem class_12_P : ClassIs [49, 46] 13 := by
  intro g cap w hc
  have c0 : w.cell? ⟨g, 0, none⟩ = some (.int .u8 49) := hc 0 (by simp)
  have c1 : w.cell? ⟨g, 1, none⟩ = some (.int .u8 46) := hc 1 (by simp)
  clear hc
  show Calls Try.prog 32 #[.slice (some ⟨g, 0, none⟩) 2 cap] w _
  go_enter Try.func32, Try.ntmps32
  go_wp2
  refine wp_loop_rounds 3 ?_
  rw [rounds_succ]
  go_wp2
  rw [rounds_succ]
  go_wp2
  rw [rounds_succ]
  go_wp2
  go_ret
  exact ⟨rfl, rfl⟩

set_option maxRecDepth 100000 in
set_option maxHeartbeats 400000 in
theorem class_12_e : ClassIs [49, 101] 15 := by
  intro g cap w hc
  have c0 : w.cell? ⟨g, 0, none⟩ = some (.int .u8 49) := hc 0 (by simp)
  have c1 : w.cell? ⟨g, 1, none⟩ = some (.int .u8 101) := hc 1 (by simp)
  clear hc
  show Calls Try.prog 32 #[.slice (some ⟨g, 0, none⟩) 2 cap] w _
  go_enter Try.func32, Try.ntmps32
  go_wp2
  refine wp_loop_rounds 3 ?_
  rw [rounds_succ]
  go_wp2
  rw [rounds_succ]
  go_wp2
  rw [rounds_succ]
  go_wp2
  go_ret
  exact ⟨rfl, rfl⟩

set_option maxRecDepth 100000 in
set_option maxHeartbeats 400000 in
theorem class_12_E : ClassIs [49, 69] 15 := by
  intro g cap w hc
  have c0 : w.cell? ⟨g, 0, none⟩ = some (.int .u8 49) := hc 0 (by simp)
  have c1 : w.cell? ⟨g, 1, none⟩ = some (.int .u8 69) := hc 1 (by simp)
  clear hc
  show Calls Try.prog 32 #[.slice (some ⟨g, 0, none⟩) 2 cap] w _
  go_enter Try.func32, Try.ntmps32
  go_wp2
  refine wp_loop_rounds 3 ?_
  rw [rounds_succ]
  go_wp2
  rw [rounds_succ]
  go_wp2
  rw [rounds_succ]
  go_wp2
  go_ret
  exact ⟨rfl, rfl⟩

set_option maxRecDepth 100000 in
set_option maxHeartbeats 400000 in
theorem class_13_Z : ClassIs [49, 46, 48] 14 := by
  intro g cap w hc
  have c0 : w.cell? ⟨g, 0, none⟩ = some (.int .u8 49) := hc 0 (by simp)
  have c1 : w.cell? ⟨g, 1, none⟩ = some (.int .u8 46) := hc 1 (by simp)
  have c2 : w.cell? ⟨g, 2, none⟩ = some (.int .u8 48) := hc 2 (by simp)
  clear hc
  show Calls Try.prog 32 #[.slice (some ⟨g, 0, none⟩) 3 cap] w _
  go_enter Try.func32, Try.ntmps32
  go_wp2
  refine wp_loop_rounds 4 ?_
  rw [rounds_succ]
  go_wp2
  rw [rounds_succ]
  go_wp2
  rw [rounds_succ]
  go_wp2
  rw [rounds_succ]
  go_wp2
  go_ret
  exact ⟨rfl, rfl⟩

set_option maxRecDepth 100000 in
set_option maxHeartbeats 400000 in
theorem class_13_D (c : Int) (h1 : 49 ≤ c) (h2 : c ≤ 57) : ClassIs [49, 46, c] 14 := by
  intro g cap w hc
  have c0 : w.cell? ⟨g, 0, none⟩ = some (.int .u8 49) := hc 0 (by simp)
  have c1 : w.cell? ⟨g, 1, none⟩ = some (.int .u8 46) := hc 1 (by simp)
  have c2 : w.cell? ⟨g, 2, none⟩ = some (.int .u8 c) := hc 2 (by simp)
  clear hc
  have x43 : (c == 43) = false := by simp; omega
  have x45 : (c == 45) = false := by simp; omega
  have x46 : (c == 46) = false := by simp; omega
  have x48 : (c == 48) = false := by simp; omega
  have x69 : (c == 69) = false := by simp; omega
  have x101 : (c == 101) = false := by simp; omega
  show Calls Try.prog 32 #[.slice (some ⟨g, 0, none⟩) 3 cap] w _
  go_enter Try.func32, Try.ntmps32
  go_wp2
  refine wp_loop_rounds 4 ?_
  rw [rounds_succ]
  go_wp2
  rw [rounds_succ]
  go_wp2
  rw [rounds_succ]
  go_wp2
  rw [rounds_succ]
  go_wp2
  go_ret
  exact ⟨rfl, rfl⟩

set_option maxRecDepth 100000 in
set_option maxHeartbeats 400000 in
theorem class_14_Z : ClassIs [49, 46, 48, 48] 14 := by
  intro g cap w hc
  have c0 : w.cell? ⟨g, 0, none⟩ = some (.int .u8 49) := hc 0 (by simp)
  have c1 : w.cell? ⟨g, 1, none⟩ = some (.int .u8 46) := hc 1 (by simp)
  have c2 : w.cell? ⟨g, 2, none⟩ = some (.int .u8 48) := hc 2 (by simp)
  have c3 : w.cell? ⟨g, 3, none⟩ = some (.int .u8 48) := hc 3 (by simp)
  clear hc
  show Calls Try.prog 32 #[.slice (some ⟨g, 0, none⟩) 4 cap] w _
  go_enter Try.func32, Try.ntmps32
  go_wp2
  refine wp_loop_rounds 5 ?_
  rw [rounds_succ]
  go_wp2
  rw [rounds_succ]
  go_wp2
  rw [rounds_succ]
  go_wp2
  rw [rounds_succ]
  go_wp2
  rw [rounds_succ]
  go_wp2
  go_ret
  exact ⟨rfl, rfl⟩

set_option maxRecDepth 100000 in
set_option maxHeartbeats 400000 in
theorem class_14_D (c : Int) (h1 : 49 ≤ c) (h2 : c ≤ 57) : ClassIs [49, 46, 48, c] 14 := by
  intro g cap w hc
  have c0 : w.cell? ⟨g, 0, none⟩ = some (.int .u8 49) := hc 0 (by simp)
  have c1 : w.cell? ⟨g, 1, none⟩ = some (.int .u8 46) := hc 1 (by simp)
  have c2 : w.cell? ⟨g, 2, none⟩ = some (.int .u8 48) := hc 2 (by simp)
  have c3 : w.cell? ⟨g, 3, none⟩ = some (.int .u8 c) := hc 3 (by simp)
  clear hc
  have x43 : (c == 43) = false := by simp; omega
  have x45 : (c == 45) = false := by simp; omega
  have x46 : (c == 46) = false := by simp; omega
  have x48 : (c == 48) = false := by simp; omega
  have x69 : (c == 69) = false := by simp; omega
  have x101 : (c == 101) = false := by simp; omega
  show Calls Try.prog 32 #[.slice (some ⟨g, 0, none⟩) 4 cap] w _
  go_enter Try.func32, Try.ntmps32
  go_wp2
  refine wp_loop_rounds 5 ?_
  rw [rounds_succ]
  go_wp2
  rw [rounds_succ]
  go_wp2
  rw [rounds_succ]
  go_wp2
  rw [rounds_succ]
  go_wp2
  rw [rounds_succ]
  go_wp2
  go_ret
  exact ⟨rfl, rfl⟩

set_option maxRecDepth 100000 in
set_option maxHeartbeats 400000 in
theorem class_14_e : ClassIs [49, 46, 48, 101] 15 := by
  intro g cap w hc
  have c0 : w.cell? ⟨g, 0, none⟩ = some (.int .u8 49) := hc 0 (by simp)
  have c1 : w.cell? ⟨g, 1, none⟩ = some (.int .u8 46) := hc 1 (by simp)
  have c2 : w.cell? ⟨g, 2, none⟩ = some (.int .u8 48) := hc 2 (by simp)
  have c3 : w.cell? ⟨g, 3, none⟩ = some (.int .u8 101) := hc 3 (by simp)
  clear hc
  show Calls Try.prog 32 #[.slice (some ⟨g, 0, none⟩) 4 cap] w _
  go_enter Try.func32, Try.ntmps32
  go_wp2
  refine wp_loop_rounds 5 ?_
  rw [rounds_succ]
  go_wp2
  rw [rounds_succ]
  go_wp2
  rw [rounds_succ]
  go_wp2
  rw [rounds_succ]
  go_wp2
  rw [rounds_succ]
  go_wp2
  go_ret
  exact ⟨rfl, rfl⟩

set_option maxRecDepth 100000 in
set_option maxHeartbeats 400000 in
theorem class_14_E : ClassIs [49, 46, 48, 69] 15 := by
  intro g cap w hc
  have c0 : w.cell? ⟨g, 0, none⟩ = some (.int .u8 49) := hc 0 (by simp)
  have c1 : w.cell? ⟨g, 1, none⟩ = some (.int .u8 46) := hc 1 (by simp)
  have c2 : w.cell? ⟨g, 2, none⟩ = some (.int .u8 48) := hc 2 (by simp)
  have c3 : w.cell? ⟨g, 3, none⟩ = some (.int .u8 69) := hc 3 (by simp)
  clear hc
  show Calls Try.prog 32 #[.slice (some ⟨g, 0, none⟩) 4 cap] w _
  go_enter Try.func32, Try.ntmps32
  go_wp2
  refine wp_loop_rounds 5 ?_
  rw [rounds_succ]
  go_wp2
  rw [rounds_succ]
  go_wp2
  rw [rounds_succ]
  go_wp2
  rw [rounds_succ]
  go_wp2
  rw [rounds_succ]
  go_wp2
  go_ret
  exact ⟨rfl, rfl⟩

set_option maxRecDepth 100000 in
set_option maxHeartbeats 400000 in
theorem class_15_Z : ClassIs [49, 101, 48] 17 := by
  intro g cap w hc
  have c0 : w.cell? ⟨g, 0, none⟩ = some (.int .u8 49) := hc 0 (by simp)
  have c1 : w.cell? ⟨g, 1, none⟩ = some (.int .u8 101) := hc 1 (by simp)
  have c2 : w.cell? ⟨g, 2, none⟩ = some (.int .u8 48) := hc 2 (by simp)
  clear hc
  show Calls Try.prog 32 #[.slice (some ⟨g, 0, none⟩) 3 cap] w _
  go_enter Try.func32, Try.ntmps32
  go_wp2
  refine wp_loop_rounds 4 ?_
  rw [rounds_succ]
  go_wp2
  rw [rounds_succ]
  go_wp2
  rw [rounds_succ]
  go_wp2
  rw [rounds_succ]
  go_wp2
  go_ret
  exact ⟨rfl, rfl⟩

set_option maxRecDepth 100000 in
set_option maxHeartbeats 400000 in
theorem class_15_D (c : Int) (h1 : 49 ≤ c) (h2 : c ≤ 57) : ClassIs [49, 101, c] 17 := by
  intro g cap w hc
  have c0 : w.cell? ⟨g, 0, none⟩ = some (.int .u8 49) := hc 0 (by simp)
  have c1 : w.cell? ⟨g, 1, none⟩ = some (.int .u8 101) := hc 1 (by simp)
  have c2 : w.cell? ⟨g, 2, none⟩ = some (.int .u8 c) := hc 2 (by simp)
  clear hc
  have x43 : (c == 43) = false := by simp; omega
  have x45 : (c == 45) = false := by simp; omega
  have x46 : (c == 46) = false := by simp; omega
  have x48 : (c == 48) = false := by simp; omega
  have x69 : (c == 69) = false := by simp; omega
  have x101 : (c == 101) = false := by simp; omega
  show Calls Try.prog 32 #[.slice (some ⟨g, 0, none⟩) 3 cap] w _
  go_enter Try.func32, Try.ntmps32
  go_wp2
  refine wp_loop_rounds 4 ?_
  rw [rounds_succ]
  go_wp2
  rw [rounds_succ]
  go_wp2
  rw [rounds_succ]
  go_wp2
  rw [rounds_succ]
  go_wp2
  go_ret
  exact ⟨rfl, rfl⟩

set_option maxRecDepth 100000 in
set_option maxHeartbeats 400000 in
theorem class_15_M : ClassIs [49, 101, 45] 16 := by
  intro g cap w hc
  have c0 : w.cell? ⟨g, 0, none⟩ = some (.int .u8 49) := hc 0 (by simp)
  have c1 : w.cell? ⟨g, 1, none⟩ = some (.int .u8 101) := hc 1 (by simp)
  have c2 : w.cell? ⟨g, 2, none⟩ = some (.int .u8 45) := hc 2 (by simp)
  clear hc
  show Calls Try.prog 32 #[.slice (some ⟨g, 0, none⟩) 3 cap] w _
  go_enter Try.func32, Try.ntmps32
  go_wp2
  refine wp_loop_rounds 4 ?_
  rw [rounds_succ]
  go_wp2
  rw [rounds_succ]
  go_wp2
  rw [rounds_succ]
  go_wp2
  rw [rounds_succ]
  go_wp2
  go_ret
  exact ⟨rfl, rfl⟩

set_option maxRecDepth 100000 in
set_option maxHeartbeats 400000 in
theorem class_15_L : ClassIs [49, 101, 43] 16 := by
  intro g cap w hc
  have c0 : w.cell? ⟨g, 0, none⟩ = some (.int .u8 49) := hc 0 (by simp)
  have c1 : w.cell? ⟨g, 1, none⟩ = some (.int .u8 101) := hc 1 (by simp)
  have c2 : w.cell? ⟨g, 2, none⟩ = some (.int .u8 43) := hc 2 (by simp)
  clear hc
  show Calls Try.prog 32 #[.slice (some ⟨g, 0, none⟩) 3 cap] w _
  go_enter Try.func32, Try.ntmps32
  go_wp2
  refine wp_loop_rounds 4 ?_
  rw [rounds_succ]
  go_wp2
  rw [rounds_succ]
  go_wp2
  rw [rounds_succ]
  go_wp2
  rw [rounds_succ]
  go_wp2
  go_ret
  exact ⟨rfl, rfl⟩

set_option maxRecDepth 100000 in
set_option maxHeartbeats 400000 in
theorem class_16_Z : ClassIs [49, 101, 45, 48] 17 := by
  intro g cap w hc
  have c0 : w.cell? ⟨g, 0, none⟩ = some (.int .u8 49) := hc 0 (by simp)
  have c1 : w.cell? ⟨g, 1, none⟩ = some (.int .u8 101) := hc 1 (by simp)
  have c2 : w.cell? ⟨g, 2, none⟩ = some (.int .u8 45) := hc 2 (by simp)
  have c3 : w.cell? ⟨g, 3, none⟩ = some (.int .u8 48) := hc 3 (by simp)
  clear hc
  show Calls Try.prog 32 #[.slice (some ⟨g, 0, none⟩) 4 cap] w _
  go_enter Try.func32, Try.ntmps32
  go_wp2
  refine wp_loop_rounds 5 ?_
  rw [rounds_succ]
  go_wp2
  rw [rounds_succ]
  go_wp2
  rw [rounds_succ]
  go_wp2
  rw [rounds_succ]
  go_wp2
  rw [rounds_succ]
  go_wp2
  go_ret
  exact ⟨rfl, rfl⟩

set_option maxRecDepth 100000 in
set_option maxHeartbeats 400000 in
theorem class_16_D (c : Int) (h1 : 49 ≤ c) (h2 : c ≤ 57) : ClassIs [49, 101, 45, c] 17 := by
  intro g cap w hc
  have c0 : w.cell? ⟨g, 0, none⟩ = some (.int .u8 49) := hc 0 (by simp)
  have c1 : w.cell? ⟨g, 1, none⟩ = some (.int .u8 101) := hc 1 (by simp)
  have c2 : w.cell? ⟨g, 2, none⟩ = some (.int .u8 45) := hc 2 (by simp)
  have c3 : w.cell? ⟨g, 3, none⟩ = some (.int .u8 c) := hc 3 (by simp)
  clear hc
  have x43 : (c == 43) = false := by simp; omega
  have x45 : (c == 45) = false := by simp; omega
  have x46 : (c == 46) = false := by simp; omega
  have x48 : (c == 48) = false := by simp; omega
  have x69 : (c == 69) = false := by simp; omega
  have x101 : (c == 101) = false := by simp; omega
  show Calls Try.prog 32 #[.slice (some ⟨g, 0, none⟩) 4 cap] w _
  go_enter Try.func32, Try.ntmps32
  go_wp2
  refine wp_loop_rounds 5 ?_
  rw [rounds_succ]
  go_wp2
  rw [rounds_succ]
  go_wp2
  rw [rounds_succ]
  go_wp2
  rw [rounds_succ]
  go_wp2
  rw [rounds_succ]
  go_wp2
  go_ret
  exact ⟨rfl, rfl⟩

set_option maxRecDepth 100000 in
set_option maxHeartbeats 400000 in
theorem class_17_Z : ClassIs [49, 101, 48, 48] 17 := by
  intro g cap w hc
  have c0 : w.cell? ⟨g, 0, none⟩ = some (.int .u8 49) := hc 0 (by simp)
  have c1 : w.cell? ⟨g, 1, none⟩ = some (.int .u8 101) := hc 1 (by simp)
  have c2 : w.cell? ⟨g, 2, none⟩ = some (.int .u8 48) := hc 2 (by simp)
  have c3 : w.cell? ⟨g, 3, none⟩ = some (.int .u8 48) := hc 3 (by simp)
  clear hc
  show Calls Try.prog 32 #[.slice (some ⟨g, 0, none⟩) 4 cap] w _
  go_enter Try.func32, Try.ntmps32
  go_wp2
  refine wp_loop_rounds 5 ?_
  rw [rounds_succ]
  go_wp2
  rw [rounds_succ]
  go_wp2
  rw [rounds_succ]
  go_wp2
  rw [rounds_succ]
  go_wp2
  rw [rounds_succ]
  go_wp2
  go_ret
  exact ⟨rfl, rfl⟩

set_option maxRecDepth 100000 in
set_option maxHeartbeats 400000 in
theorem class_17_D (c : Int) (h1 : 49 ≤ c) (h2 : c ≤ 57) : ClassIs [49, 101, 48, c] 17 := by
  intro g cap w hc
  have c0 : w.cell? ⟨g, 0, none⟩ = some (.int .u8 49) := hc 0 (by simp)
  have c1 : w.cell? ⟨g, 1, none⟩ = some (.int .u8 101) := hc 1 (by simp)
  have c2 : w.cell? ⟨g, 2, none⟩ = some (.int .u8 48) := hc 2 (by simp)
  have c3 : w.cell? ⟨g, 3, none⟩ = some (.int .u8 c) := hc 3 (by simp)
  clear hc
  have x43 : (c == 43) = false := by simp; omega
  have x45 : (c == 45) = false := by simp; omega
  have x46 : (c == 46) = false := by simp; omega
  have x48 : (c == 48) = false := by simp; omega
  have x69 : (c == 69) = false := by simp; omega
  have x101 : (c == 101) = false := by simp; omega
  show Calls Try.prog 32 #[.slice (some ⟨g, 0, none⟩) 4 cap] w _
  go_enter Try.func32, Try.ntmps32
  go_wp2
  refine wp_loop_rounds 5 ?_
  rw [rounds_succ]
  go_wp2
  rw [rounds_succ]
  go_wp2
  rw [rounds_succ]
  go_wp2
  rw [rounds_succ]
  go_wp2
  rw [rounds_succ]
  go_wp2
  go_ret
  exact ⟨rfl, rfl⟩
end Go.Proofs.Qxb6602542a
