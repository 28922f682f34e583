import Derived.Test.Qxb6602542aNumA
namespace Go.Proofs.Qxb6602542a
open Go.RowKit

set_option maxRecDepth 100000 in
set_option maxHeartbeats 400000 in
theorem prefix_10_Z : PrefixIs [45, 48] true true := by
  intro g cap w hc
  have c0 : w.cell? ⟨g, 0, none⟩ = some (.int .u8 45) := hc 0 (by simp)
  have c1 : w.cell? ⟨g, 1, none⟩ = some (.int .u8 48) := hc 1 (by simp)
  clear hc
  show Calls Try.prog 31 #[.slice (some ⟨g, 0, none⟩) 2 cap] w _
  go_enter Try.func31, Try.ntmps31
  go_wp2
  go_ret2
  exact ⟨rfl, rfl⟩

set_option maxRecDepth 100000 in
set_option maxHeartbeats 400000 in
theorem prefix_10_D (c : Int) (h1 : 49 ≤ c) (h2 : c ≤ 57) : PrefixIs [45, c] true true := by
  intro g cap w hc
  have c0 : w.cell? ⟨g, 0, none⟩ = some (.int .u8 45) := hc 0 (by simp)
  have c1 : w.cell? ⟨g, 1, none⟩ = some (.int .u8 c) := hc 1 (by simp)
  clear hc
  have x43 : (c == 43) = false := by simp; omega
  have x45 : (c == 45) = false := by simp; omega
  have x46 : (c == 46) = false := by simp; omega
  have x48 : (c == 48) = false := by simp; omega
  have x69 : (c == 69) = false := by simp; omega
  have x101 : (c == 101) = false := by simp; omega
  show Calls Try.prog 31 #[.slice (some ⟨g, 0, none⟩) 2 cap] w _
  go_enter Try.func31, Try.ntmps31
  go_wp2
  refine wp_loop_rounds 2 ?_
  rw [rounds_succ]
  go_wp2
  rw [rounds_succ]
  go_wp2
  go_ret2
  exact ⟨rfl, rfl⟩

set_option maxRecDepth 100000 in
set_option maxHeartbeats 400000 in
theorem prefix_10_P : PrefixIs [45, 46] false false := by
  intro g cap w hc
  have c0 : w.cell? ⟨g, 0, none⟩ = some (.int .u8 45) := hc 0 (by simp)
  have c1 : w.cell? ⟨g, 1, none⟩ = some (.int .u8 46) := hc 1 (by simp)
  clear hc
  show Calls Try.prog 31 #[.slice (some ⟨g, 0, none⟩) 2 cap] w _
  go_enter Try.func31, Try.ntmps31
  go_wp2
  go_ret2
  exact ⟨rfl, rfl⟩

set_option maxRecDepth 100000 in
set_option maxHeartbeats 400000 in
theorem prefix_10_e : PrefixIs [45, 101] false false := by
  intro g cap w hc
  have c0 : w.cell? ⟨g, 0, none⟩ = some (.int .u8 45) := hc 0 (by simp)
  have c1 : w.cell? ⟨g, 1, none⟩ = some (.int .u8 101) := hc 1 (by simp)
  clear hc
  show Calls Try.prog 31 #[.slice (some ⟨g, 0, none⟩) 2 cap] w _
  go_enter Try.func31, Try.ntmps31
  go_wp2
  go_ret2
  exact ⟨rfl, rfl⟩

set_option maxRecDepth 100000 in
set_option maxHeartbeats 400000 in
theorem prefix_10_E : PrefixIs [45, 69] false false := by
  intro g cap w hc
  have c0 : w.cell? ⟨g, 0, none⟩ = some (.int .u8 45) := hc 0 (by simp)
  have c1 : w.cell? ⟨g, 1, none⟩ = some (.int .u8 69) := hc 1 (by simp)
  clear hc
  show Calls Try.prog 31 #[.slice (some ⟨g, 0, none⟩) 2 cap] w _
  go_enter Try.func31, Try.ntmps31
  go_wp2
  go_ret2
  exact ⟨rfl, rfl⟩

set_option maxRecDepth 100000 in
set_option maxHeartbeats 400000 in
theorem prefix_10_M : PrefixIs [45, 45] false false := by
  intro g cap w hc
  have c0 : w.cell? ⟨g, 0, none⟩ = some (.int .u8 45) := hc 0 (by simp)
  have c1 : w.cell? ⟨g, 1, none⟩ = some (.int .u8 45) := hc 1 (by simp)
  clear hc
  show Calls Try.prog 31 #[.slice (some ⟨g, 0, none⟩) 2 cap] w _
  go_enter Try.func31, Try.ntmps31
  go_wp2
  go_ret2
  exact ⟨rfl, rfl⟩

set_option maxRecDepth 100000 in
set_option maxHeartbeats 400000 in
theorem prefix_10_L : PrefixIs [45, 43] false false := by
  intro g cap w hc
  have c0 : w.cell? ⟨g, 0, none⟩ = some (.int .u8 45) := hc 0 (by simp)
  have c1 : w.cell? ⟨g, 1, none⟩ = some (.int .u8 43) := hc 1 (by simp)
  clear hc
  show Calls Try.prog 31 #[.slice (some ⟨g, 0, none⟩) 2 cap] w _
  go_enter Try.func31, Try.ntmps31
  go_wp2
  go_ret2
  exact ⟨rfl, rfl⟩

set_option maxRecDepth 100000 in
set_option maxHeartbeats 400000 in
theorem prefix_10_l (c : Int) (h1 : c < 48) (h2 : c ≠ 43) (h3 : c ≠ 45) (h4 : c ≠ 46) : PrefixIs [45, c] false false := by
  intro g cap w hc
  have c0 : w.cell? ⟨g, 0, none⟩ = some (.int .u8 45) := hc 0 (by simp)
  have c1 : w.cell? ⟨g, 1, none⟩ = some (.int .u8 c) := hc 1 (by simp)
  clear hc
  have x43 : (c == 43) = false := by simp; omega
  have x45 : (c == 45) = false := by simp; omega
  have x46 : (c == 46) = false := by simp; omega
  have x48 : (c == 48) = false := by simp; omega
  have x69 : (c == 69) = false := by simp; omega
  have x101 : (c == 101) = false := by simp; omega
  show Calls Try.prog 31 #[.slice (some ⟨g, 0, none⟩) 2 cap] w _
  go_enter Try.func31, Try.ntmps31
  go_wp2
  go_ret2
  exact ⟨rfl, rfl⟩

set_option maxRecDepth 100000 in
set_option maxHeartbeats 400000 in
theorem prefix_10_h (c : Int) (h1 : 57 < c) (h2 : c ≠ 69) (h3 : c ≠ 101) : PrefixIs [45, c] false false := by
  intro g cap w hc
  have c0 : w.cell? ⟨g, 0, none⟩ = some (.int .u8 45) := hc 0 (by simp)
  have c1 : w.cell? ⟨g, 1, none⟩ = some (.int .u8 c) := hc 1 (by simp)
  clear hc
  have x43 : (c == 43) = false := by simp; omega
  have x45 : (c == 45) = false := by simp; omega
  have x46 : (c == 46) = false := by simp; omega
  have x48 : (c == 48) = false := by simp; omega
  have x69 : (c == 69) = false := by simp; omega
  have x101 : (c == 101) = false := by simp; omega
  show Calls Try.prog 31 #[.slice (some ⟨g, 0, none⟩) 2 cap] w _
  go_enter Try.func31, Try.ntmps31
  go_wp2
  go_ret2
  exact ⟨rfl, rfl⟩

set_option maxRecDepth 100000 in
set_option maxHeartbeats 400000 in
theorem prefix_11_Z : PrefixIs [48, 48] false false := by
  intro g cap w hc
  have c0 : w.cell? ⟨g, 0, none⟩ = some (.int .u8 48) := hc 0 (by simp)
  have c1 : w.cell? ⟨g, 1, none⟩ = some (.int .u8 48) := hc 1 (by simp)
  clear hc
  show Calls Try.prog 31 #[.slice (some ⟨g, 0, none⟩) 2 cap] w _
  go_enter Try.func31, Try.ntmps31
  go_wp2
  go_ret2
  exact ⟨rfl, rfl⟩

set_option maxRecDepth 100000 in
set_option maxHeartbeats 400000 in
theorem prefix_11_D (c : Int) (h1 : 49 ≤ c) (h2 : c ≤ 57) : PrefixIs [48, c] false false := by
  intro g cap w hc
  have c0 : w.cell? ⟨g, 0, none⟩ = some (.int .u8 48) := hc 0 (by simp)
  have c1 : w.cell? ⟨g, 1, none⟩ = some (.int .u8 c) := hc 1 (by simp)
  clear hc
  have x43 : (c == 43) = false := by simp; omega
  have x45 : (c == 45) = false := by simp; omega
  have x46 : (c == 46) = false := by simp; omega
  have x48 : (c == 48) = false := by simp; omega
  have x69 : (c == 69) = false := by simp; omega
  have x101 : (c == 101) = false := by simp; omega
  show Calls Try.prog 31 #[.slice (some ⟨g, 0, none⟩) 2 cap] w _
  go_enter Try.func31, Try.ntmps31
  go_wp2
  go_ret2
  exact ⟨rfl, rfl⟩

set_option maxRecDepth 100000 in
set_option maxHeartbeats 400000 in
theorem prefix_11_P : PrefixIs [48, 46] true false := by
  intro g cap w hc
  have c0 : w.cell? ⟨g, 0, none⟩ = some (.int .u8 48) := hc 0 (by simp)
  have c1 : w.cell? ⟨g, 1, none⟩ = some (.int .u8 46) := hc 1 (by simp)
  clear hc
  show Calls Try.prog 31 #[.slice (some ⟨g, 0, none⟩) 2 cap] w _
  go_enter Try.func31, Try.ntmps31
  go_wp2
  go_ret2
  exact ⟨rfl, rfl⟩

set_option maxRecDepth 100000 in
set_option maxHeartbeats 400000 in
theorem prefix_11_e : PrefixIs [48, 101] true false := by
  intro g cap w hc
  have c0 : w.cell? ⟨g, 0, none⟩ = some (.int .u8 48) := hc 0 (by simp)
  have c1 : w.cell? ⟨g, 1, none⟩ = some (.int .u8 101) := hc 1 (by simp)
  clear hc
  show Calls Try.prog 31 #[.slice (some ⟨g, 0, none⟩) 2 cap] w _
  go_enter Try.func31, Try.ntmps31
  go_wp2
  go_ret2
  exact ⟨rfl, rfl⟩

set_option maxRecDepth 100000 in
set_option maxHeartbeats 400000 in
theorem prefix_11_E : PrefixIs [48, 69] true false := by
  intro g cap w hc
  have c0 : w.cell? ⟨g, 0, none⟩ = some (.int .u8 48) := hc 0 (by simp)
  have c1 : w.cell? ⟨g, 1, none⟩ = some (.int .u8 69) := hc 1 (by simp)
  clear hc
  show Calls Try.prog 31 #[.slice (some ⟨g, 0, none⟩) 2 cap] w _
  go_enter Try.func31, Try.ntmps31
  go_wp2
  go_ret2
  exact ⟨rfl, rfl⟩

set_option maxRecDepth 100000 in
set_option maxHeartbeats 400000 in
theorem prefix_11_M : PrefixIs [48, 45] false false := by
  intro g cap w hc
  have c0 : w.cell? ⟨g, 0, none⟩ = some (.int .u8 48) := hc 0 (by simp)
  have c1 : w.cell? ⟨g, 1, none⟩ = some (.int .u8 45) := hc 1 (by simp)
  clear hc
  show Calls Try.prog 31 #[.slice (some ⟨g, 0, none⟩) 2 cap] w _
  go_enter Try.func31, Try.ntmps31
  go_wp2
  go_ret2
  exact ⟨rfl, rfl⟩

set_option maxRecDepth 100000 in
set_option maxHeartbeats 400000 in
theorem prefix_11_L : PrefixIs [48, 43] false false := by
  intro g cap w hc
  have c0 : w.cell? ⟨g, 0, none⟩ = some (.int .u8 48) := hc 0 (by simp)
  have c1 : w.cell? ⟨g, 1, none⟩ = some (.int .u8 43) := hc 1 (by simp)
  clear hc
  show Calls Try.prog 31 #[.slice (some ⟨g, 0, none⟩) 2 cap] w _
  go_enter Try.func31, Try.ntmps31
  go_wp2
  go_ret2
  exact ⟨rfl, rfl⟩

set_option maxRecDepth 100000 in
set_option maxHeartbeats 400000 in
theorem prefix_11_l (c : Int) (h1 : c < 48) (h2 : c ≠ 43) (h3 : c ≠ 45) (h4 : c ≠ 46) : PrefixIs [48, c] false false := by
  intro g cap w hc
  have c0 : w.cell? ⟨g, 0, none⟩ = some (.int .u8 48) := hc 0 (by simp)
  have c1 : w.cell? ⟨g, 1, none⟩ = some (.int .u8 c) := hc 1 (by simp)
  clear hc
  have x43 : (c == 43) = false := by simp; omega
  have x45 : (c == 45) = false := by simp; omega
  have x46 : (c == 46) = false := by simp; omega
  have x48 : (c == 48) = false := by simp; omega
  have x69 : (c == 69) = false := by simp; omega
  have x101 : (c == 101) = false := by simp; omega
  show Calls Try.prog 31 #[.slice (some ⟨g, 0, none⟩) 2 cap] w _
  go_enter Try.func31, Try.ntmps31
  go_wp2
  go_ret2
  exact ⟨rfl, rfl⟩

set_option maxRecDepth 100000 in
set_option maxHeartbeats 400000 in
theorem prefix_11_h (c : Int) (h1 : 57 < c) (h2 : c ≠ 69) (h3 : c ≠ 101) : PrefixIs [48, c] false false := by
  intro g cap w hc
  have c0 : w.cell? ⟨g, 0, none⟩ = some (.int .u8 48) := hc 0 (by simp)
  have c1 : w.cell? ⟨g, 1, none⟩ = some (.int .u8 c) := hc 1 (by simp)
  clear hc
  have x43 : (c == 43) = false := by simp; omega
  have x45 : (c == 45) = false := by simp; omega
  have x46 : (c == 46) = false := by simp; omega
  have x48 : (c == 48) = false := by simp; omega
  have x69 : (c == 69) = false := by simp; omega
  have x101 : (c == 101) = false := by simp; omega
  show Calls Try.prog 31 #[.slice (some ⟨g, 0, none⟩) 2 cap] w _
  go_enter Try.func31, Try.ntmps31
  go_wp2
  go_ret2
  exact ⟨rfl, rfl⟩

set_option maxRecDepth 100000 in
set_option maxHeartbeats 400000 in
theorem prefix_12_Z : PrefixIs [49, 48] true true := by
  intro g cap w hc
  have c0 : w.cell? ⟨g, 0, none⟩ = some (.int .u8 49) := hc 0 (by simp)
  have c1 : w.cell? ⟨g, 1, none⟩ = some (.int .u8 48) := hc 1 (by simp)
  clear hc
  show Calls Try.prog 31 #[.slice (some ⟨g, 0, none⟩) 2 cap] w _
  go_enter Try.func31, Try.ntmps31
  go_wp2
  refine wp_loop_rounds 3 ?_
  rw [rounds_succ]
  go_wp2
  rw [rounds_succ]
  go_wp2
  rw [rounds_succ]
  go_wp2
  go_ret2
  exact ⟨rfl, rfl⟩

set_option maxRecDepth 100000 in
set_option maxHeartbeats 400000 in
theorem prefix_12_D (c : Int) (h1 : 49 ≤ c) (h2 : c ≤ 57) : PrefixIs [49, c] true true := by
  intro g cap w hc
  have c0 : w.cell? ⟨g, 0, none⟩ = some (.int .u8 49) := hc 0 (by simp)
  have c1 : w.cell? ⟨g, 1, none⟩ = some (.int .u8 c) := hc 1 (by simp)
  clear hc
  have x43 : (c == 43) = false := by simp; omega
  have x45 : (c == 45) = false := by simp; omega
  have x46 : (c == 46) = false := by simp; omega
  have x48 : (c == 48) = false := by simp; omega
  have x69 : (c == 69) = false := by simp; omega
  have x101 : (c == 101) = false := by simp; omega
  show Calls Try.prog 31 #[.slice (some ⟨g, 0, none⟩) 2 cap] w _
  go_enter Try.func31, Try.ntmps31
  go_wp2
  refine wp_loop_rounds 3 ?_
  rw [rounds_succ]
  go_wp2
  rw [rounds_succ]
  go_wp2
  rw [rounds_succ]
  go_wp2
  go_ret2
  exact ⟨rfl, rfl⟩

set_option maxRecDepth 100000 in
set_option maxHeartbeats 400000 in
theorem prefix_12_P : PrefixIs [49, 46] true false := by
  intro g cap w hc
  have c0 : w.cell? ⟨g, 0, none⟩ = some (.int .u8 49) := hc 0 (by simp)
  have c1 : w.cell? ⟨g, 1, none⟩ = some (.int .u8 46) := hc 1 (by simp)
  clear hc
  show Calls Try.prog 31 #[.slice (some ⟨g, 0, none⟩) 2 cap] w _
  go_enter Try.func31, Try.ntmps31
  go_wp2
  refine wp_loop_rounds 2 ?_
  rw [rounds_succ]
  go_wp2
  rw [rounds_succ]
  go_wp2
  go_ret2
  exact ⟨rfl, rfl⟩

set_option maxRecDepth 100000 in
set_option maxHeartbeats 400000 in
theorem prefix_12_e : PrefixIs [49, 101] true false := by
  intro g cap w hc
  have c0 : w.cell? ⟨g, 0, none⟩ = some (.int .u8 49) := hc 0 (by simp)
  have c1 : w.cell? ⟨g, 1, none⟩ = some (.int .u8 101) := hc 1 (by simp)
  clear hc
  show Calls Try.prog 31 #[.slice (some ⟨g, 0, none⟩) 2 cap] w _
  go_enter Try.func31, Try.ntmps31
  go_wp2
  refine wp_loop_rounds 2 ?_
  rw [rounds_succ]
  go_wp2
  rw [rounds_succ]
  go_wp2
  go_ret2
  exact ⟨rfl, rfl⟩

set_option maxRecDepth 100000 in
set_option maxHeartbeats 400000 in
theorem prefix_12_E : PrefixIs [49, 69] true false := by
  intro g cap w hc
  have c0 : w.cell? ⟨g, 0, none⟩ = some (.int .u8 49) := hc 0 (by simp)
  have c1 : w.cell? ⟨g, 1, none⟩ = some (.int .u8 69) := hc 1 (by simp)
  clear hc
  show Calls Try.prog 31 #[.slice (some ⟨g, 0, none⟩) 2 cap] w _
  go_enter Try.func31, Try.ntmps31
  go_wp2
  refine wp_loop_rounds 2 ?_
  rw [rounds_succ]
  go_wp2
  rw [rounds_succ]
  go_wp2
  go_ret2
  exact ⟨rfl, rfl⟩

set_option maxRecDepth 100000 in
set_option maxHeartbeats 400000 in
theorem prefix_12_M : PrefixIs [49, 45] false false := by
  intro g cap w hc
  have c0 : w.cell? ⟨g, 0, none⟩ = some (.int .u8 49) := hc 0 (by simp)
  have c1 : w.cell? ⟨g, 1, none⟩ = some (.int .u8 45) := hc 1 (by simp)
  clear hc
  show Calls Try.prog 31 #[.slice (some ⟨g, 0, none⟩) 2 cap] w _
  go_enter Try.func31, Try.ntmps31
  go_wp2
  refine wp_loop_rounds 2 ?_
  rw [rounds_succ]
  go_wp2
  rw [rounds_succ]
  go_wp2
  go_ret2
  exact ⟨rfl, rfl⟩

set_option maxRecDepth 100000 in
set_option maxHeartbeats 400000 in
theorem prefix_12_L : PrefixIs [49, 43] false false := by
  intro g cap w hc
  have c0 : w.cell? ⟨g, 0, none⟩ = some (.int .u8 49) := hc 0 (by simp)
  have c1 : w.cell? ⟨g, 1, none⟩ = some (.int .u8 43) := hc 1 (by simp)
  clear hc
  show Calls Try.prog 31 #[.slice (some ⟨g, 0, none⟩) 2 cap] w _
  go_enter Try.func31, Try.ntmps31
  go_wp2
  refine wp_loop_rounds 2 ?_
  rw [rounds_succ]
  go_wp2
  rw [rounds_succ]
  go_wp2
  go_ret2
  exact ⟨rfl, rfl⟩

set_option maxRecDepth 100000 in
set_option maxHeartbeats 400000 in
theorem prefix_12_l (c : Int) (h1 : c < 48) (h2 : c ≠ 43) (h3 : c ≠ 45) (h4 : c ≠ 46) : PrefixIs [49, c] false false := by
  intro g cap w hc
  have c0 : w.cell? ⟨g, 0, none⟩ = some (.int .u8 49) := hc 0 (by simp)
  have c1 : w.cell? ⟨g, 1, none⟩ = some (.int .u8 c) := hc 1 (by simp)
  clear hc
  have x43 : (c == 43) = false := by simp; omega
  have x45 : (c == 45) = false := by simp; omega
  have x46 : (c == 46) = false := by simp; omega
  have x48 : (c == 48) = false := by simp; omega
  have x69 : (c == 69) = false := by simp; omega
  have x101 : (c == 101) = false := by simp; omega
  show Calls Try.prog 31 #[.slice (some ⟨g, 0, none⟩) 2 cap] w _
  go_enter Try.func31, Try.ntmps31
  go_wp2
  refine wp_loop_rounds 2 ?_
  rw [rounds_succ]
  go_wp2
  rw [rounds_succ]
  go_wp2
  go_ret2
  exact ⟨rfl, rfl⟩

set_option maxRecDepth 100000 in
set_option maxHeartbeats 400000 in
theorem prefix_12_h (c : Int) (h1 : 57 < c) (h2 : c ≠ 69) (h3 : c ≠ 101) : PrefixIs [49, c] false false := by
  intro g cap w hc
  have c0 : w.cell? ⟨g, 0, none⟩ = some (.int .u8 49) := hc 0 (by simp)
  have c1 : w.cell? ⟨g, 1, none⟩ = some (.int .u8 c) := hc 1 (by simp)
  clear hc
  have x43 : (c == 43) = false := by simp; omega
  have x45 : (c == 45) = false := by simp; omega
  have x46 : (c == 46) = false := by simp; omega
  have x48 : (c == 48) = false := by simp; omega
  have x69 : (c == 69) = false := by simp; omega
  have x101 : (c == 101) = false := by simp; omega
  show Calls Try.prog 31 #[.slice (some ⟨g, 0, none⟩) 2 cap] w _
  go_enter Try.func31, Try.ntmps31
  go_wp2
  refine wp_loop_rounds 2 ?_
  rw [rounds_succ]
  go_wp2
  rw [rounds_succ]
  go_wp2
  go_ret2
  exact ⟨rfl, rfl⟩

set_option maxRecDepth 100000 in
set_option maxHeartbeats 400000 in
theorem prefix_13_Z : PrefixIs [49, 46, 48] true true := by
  intro g cap w hc
  have c0 : w.cell? ⟨g, 0, none⟩ = some (.int .u8 49) := hc 0 (by simp)
  have c1 : w.cell? ⟨g, 1, none⟩ = some (.int .u8 46) := hc 1 (by simp)
  have c2 : w.cell? ⟨g, 2, none⟩ = some (.int .u8 48) := hc 2 (by simp)
  clear hc
  show Calls Try.prog 31 #[.slice (some ⟨g, 0, none⟩) 3 cap] w _
  go_enter Try.func31, Try.ntmps31
  go_wp2
  refine wp_loop_rounds 2 ?_
  rw [rounds_succ]
  go_wp2
  rw [rounds_succ]
  go_wp2
  refine wp_loop_rounds 2 ?_
  rw [rounds_succ]
  go_wp2
  rw [rounds_succ]
  go_wp2
  go_ret2
  exact ⟨rfl, rfl⟩

set_option maxRecDepth 100000 in
set_option maxHeartbeats 400000 in
theorem prefix_13_D (c : Int) (h1 : 49 ≤ c) (h2 : c ≤ 57) : PrefixIs [49, 46, c] true true := by
  intro g cap w hc
  have c0 : w.cell? ⟨g, 0, none⟩ = some (.int .u8 49) := hc 0 (by simp)
  have c1 : w.cell? ⟨g, 1, none⟩ = some (.int .u8 46) := hc 1 (by simp)
  have c2 : w.cell? ⟨g, 2, none⟩ = some (.int .u8 c) := hc 2 (by simp)
  clear hc
  have x43 : (c == 43) = false := by simp; omega
  have x45 : (c == 45) = false := by simp; omega
  have x46 : (c == 46) = false := by simp; omega
  have x48 : (c == 48) = false := by simp; omega
  have x69 : (c == 69) = false := by simp; omega
  have x101 : (c == 101) = false := by simp; omega
  show Calls Try.prog 31 #[.slice (some ⟨g, 0, none⟩) 3 cap] w _
  go_enter Try.func31, Try.ntmps31
  go_wp2
  refine wp_loop_rounds 2 ?_
  rw [rounds_succ]
  go_wp2
  rw [rounds_succ]
  go_wp2
  refine wp_loop_rounds 2 ?_
  rw [rounds_succ]
  go_wp2
  rw [rounds_succ]
  go_wp2
  go_ret2
  exact ⟨rfl, rfl⟩

set_option maxRecDepth 100000 in
set_option maxHeartbeats 400000 in
theorem prefix_13_P : PrefixIs [49, 46, 46] false false := by
  intro g cap w hc
  have c0 : w.cell? ⟨g, 0, none⟩ = some (.int .u8 49) := hc 0 (by simp)
  have c1 : w.cell? ⟨g, 1, none⟩ = some (.int .u8 46) := hc 1 (by simp)
  have c2 : w.cell? ⟨g, 2, none⟩ = some (.int .u8 46) := hc 2 (by simp)
  clear hc
  show Calls Try.prog 31 #[.slice (some ⟨g, 0, none⟩) 3 cap] w _
  go_enter Try.func31, Try.ntmps31
  go_wp2
  refine wp_loop_rounds 2 ?_
  rw [rounds_succ]
  go_wp2
  rw [rounds_succ]
  go_wp2
  go_ret2
  exact ⟨rfl, rfl⟩

set_option maxRecDepth 100000 in
set_option maxHeartbeats 400000 in
theorem prefix_13_e : PrefixIs [49, 46, 101] false false := by
  intro g cap w hc
  have c0 : w.cell? ⟨g, 0, none⟩ = some (.int .u8 49) := hc 0 (by simp)
  have c1 : w.cell? ⟨g, 1, none⟩ = some (.int .u8 46) := hc 1 (by simp)
  have c2 : w.cell? ⟨g, 2, none⟩ = some (.int .u8 101) := hc 2 (by simp)
  clear hc
  show Calls Try.prog 31 #[.slice (some ⟨g, 0, none⟩) 3 cap] w _
  go_enter Try.func31, Try.ntmps31
  go_wp2
  refine wp_loop_rounds 2 ?_
  rw [rounds_succ]
  go_wp2
  rw [rounds_succ]
  go_wp2
  go_ret2
  exact ⟨rfl, rfl⟩

set_option maxRecDepth 100000 in
set_option maxHeartbeats 400000 in
theorem prefix_13_E : PrefixIs [49, 46, 69] false false := by
  intro g cap w hc
  have c0 : w.cell? ⟨g, 0, none⟩ = some (.int .u8 49) := hc 0 (by simp)
  have c1 : w.cell? ⟨g, 1, none⟩ = some (.int .u8 46) := hc 1 (by simp)
  have c2 : w.cell? ⟨g, 2, none⟩ = some (.int .u8 69) := hc 2 (by simp)
  clear hc
  show Calls Try.prog 31 #[.slice (some ⟨g, 0, none⟩) 3 cap] w _
  go_enter Try.func31, Try.ntmps31
  go_wp2
  refine wp_loop_rounds 2 ?_
  rw [rounds_succ]
  go_wp2
  rw [rounds_succ]
  go_wp2
  go_ret2
  exact ⟨rfl, rfl⟩

set_option maxRecDepth 100000 in
set_option maxHeartbeats 400000 in
theorem prefix_13_M : PrefixIs [49, 46, 45] false false := by
  intro g cap w hc
  have c0 : w.cell? ⟨g, 0, none⟩ = some (.int .u8 49) := hc 0 (by simp)
  have c1 : w.cell? ⟨g, 1, none⟩ = some (.int .u8 46) := hc 1 (by simp)
  have c2 : w.cell? ⟨g, 2, none⟩ = some (.int .u8 45) := hc 2 (by simp)
  clear hc
  show Calls Try.prog 31 #[.slice (some ⟨g, 0, none⟩) 3 cap] w _
  go_enter Try.func31, Try.ntmps31
  go_wp2
  refine wp_loop_rounds 2 ?_
  rw [rounds_succ]
  go_wp2
  rw [rounds_succ]
  go_wp2
  go_ret2
  exact ⟨rfl, rfl⟩

set_option maxRecDepth 100000 in
set_option maxHeartbeats 400000 in
theorem prefix_13_L : PrefixIs [49, 46, 43] false false := by
  intro g cap w hc
  have c0 : w.cell? ⟨g, 0, none⟩ = some (.int .u8 49) := hc 0 (by simp)
  have c1 : w.cell? ⟨g, 1, none⟩ = some (.int .u8 46) := hc 1 (by simp)
  have c2 : w.cell? ⟨g, 2, none⟩ = some (.int .u8 43) := hc 2 (by simp)
  clear hc
  show Calls Try.prog 31 #[.slice (some ⟨g, 0, none⟩) 3 cap] w _
  go_enter Try.func31, Try.ntmps31
  go_wp2
  refine wp_loop_rounds 2 ?_
  rw [rounds_succ]
  go_wp2
  rw [rounds_succ]
  go_wp2
  go_ret2
  exact ⟨rfl, rfl⟩

set_option maxRecDepth 100000 in
set_option maxHeartbeats 400000 in
theorem prefix_13_l (c : Int) (h1 : c < 48) (h2 : c ≠ 43) (h3 : c ≠ 45) (h4 : c ≠ 46) : PrefixIs [49, 46, c] false false := by
  intro g cap w hc
  have c0 : w.cell? ⟨g, 0, none⟩ = some (.int .u8 49) := hc 0 (by simp)
  have c1 : w.cell? ⟨g, 1, none⟩ = some (.int .u8 46) := hc 1 (by simp)
  have c2 : w.cell? ⟨g, 2, none⟩ = some (.int .u8 c) := hc 2 (by simp)
  clear hc
  have x43 : (c == 43) = false := by simp; omega
  have x45 : (c == 45) = false := by simp; omega
  have x46 : (c == 46) = false := by simp; omega
  have x48 : (c == 48) = false := by simp; omega
  have x69 : (c == 69) = false := by simp; omega
  have x101 : (c == 101) = false := by simp; omega
  show Calls Try.prog 31 #[.slice (some ⟨g, 0, none⟩) 3 cap] w _
  go_enter Try.func31, Try.ntmps31
  go_wp2
  refine wp_loop_rounds 2 ?_
  rw [rounds_succ]
  go_wp2
  rw [rounds_succ]
  go_wp2
  go_ret2
  exact ⟨rfl, rfl⟩

set_option maxRecDepth 100000 in
set_option maxHeartbeats 400000 in
theorem prefix_13_h (c : Int) (h1 : 57 < c) (h2 : c ≠ 69) (h3 : c ≠ 101) : PrefixIs [49, 46, c] false false := by
  intro g cap w hc
  have c0 : w.cell? ⟨g, 0, none⟩ = some (.int .u8 49) := hc 0 (by simp)
  have c1 : w.cell? ⟨g, 1, none⟩ = some (.int .u8 46) := hc 1 (by simp)
  have c2 : w.cell? ⟨g, 2, none⟩ = some (.int .u8 c) := hc 2 (by simp)
  clear hc
  have x43 : (c == 43) = false := by simp; omega
  have x45 : (c == 45) = false := by simp; omega
  have x46 : (c == 46) = false := by simp; omega
  have x48 : (c == 48) = false := by simp; omega
  have x69 : (c == 69) = false := by simp; omega
  have x101 : (c == 101) = false := by simp; omega
  have y1 : (48 : Int) ≤ c := by omega
  have y2 : decide (c ≤ 57) = false := by simp; omega
  show Calls Try.prog 31 #[.slice (some ⟨g, 0, none⟩) 3 cap] w _
  go_enter Try.func31, Try.ntmps31
  go_wp2
  refine wp_loop_rounds 2 ?_
  rw [rounds_succ]
  go_wp2
  rw [rounds_succ]
  go_wp2
  go_ret2
  exact ⟨rfl, rfl⟩

set_option maxRecDepth 100000 in
set_option maxHeartbeats 400000 in
theorem prefix_10_W : PrefixIs [45] true false := by
  intro g cap w hc
  have c0 : w.cell? ⟨g, 0, none⟩ = some (.int .u8 45) := hc 0 (by simp)
  clear hc
  show Calls Try.prog 31 #[.slice (some ⟨g, 0, none⟩) 1 cap] w _
  go_enter Try.func31, Try.ntmps31
  go_wp2
  go_ret2
  exact ⟨rfl, rfl⟩

set_option maxRecDepth 100000 in
set_option maxHeartbeats 400000 in
theorem prefix_11_W : PrefixIs [48] true true := by
  intro g cap w hc
  have c0 : w.cell? ⟨g, 0, none⟩ = some (.int .u8 48) := hc 0 (by simp)
  clear hc
  show Calls Try.prog 31 #[.slice (some ⟨g, 0, none⟩) 1 cap] w _
  go_enter Try.func31, Try.ntmps31
  go_wp2
  go_ret2
  exact ⟨rfl, rfl⟩

set_option maxRecDepth 100000 in
set_option maxHeartbeats 400000 in
theorem prefix_12_W : PrefixIs [49] true true := by
  intro g cap w hc
  have c0 : w.cell? ⟨g, 0, none⟩ = some (.int .u8 49) := hc 0 (by simp)
  clear hc
  show Calls Try.prog 31 #[.slice (some ⟨g, 0, none⟩) 1 cap] w _
  go_enter Try.func31, Try.ntmps31
  go_wp2
  refine wp_loop_rounds 2 ?_
  rw [rounds_succ]
  go_wp2
  rw [rounds_succ]
  go_wp2
  go_ret2
  exact ⟨rfl, rfl⟩

set_option maxRecDepth 100000 in
set_option maxHeartbeats 400000 in
theorem prefix_13_W : PrefixIs [49, 46] true false := by
  intro g cap w hc
  have c0 : w.cell? ⟨g, 0, none⟩ = some (.int .u8 49) := hc 0 (by simp)
  have c1 : w.cell? ⟨g, 1, none⟩ = some (.int .u8 46) := hc 1 (by simp)
  clear hc
  show Calls Try.prog 31 #[.slice (some ⟨g, 0, none⟩) 2 cap] w _
  go_enter Try.func31, Try.ntmps31
  go_wp2
  refine wp_loop_rounds 2 ?_
  rw [rounds_succ]
  go_wp2
  rw [rounds_succ]
  go_wp2
  go_ret2
  exact ⟨rfl, rfl⟩
end Go.Proofs.Qxb6602542a
