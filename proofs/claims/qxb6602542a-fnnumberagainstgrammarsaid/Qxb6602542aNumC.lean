import Derived.Test.Qxb6602542aNumA
namespace Go.Proofs.Qxb6602542a
open Go.RowKit

set_option maxRecDepth 100000 in
set_option maxHeartbeats 400000 in
theorem number_14_Z : NumberDoes 14 48 14 false := by
  intro B i s1 s2 s3 s4 s5 s6 s7 s8 s9 w hB
  have c0 : w.cell? ⟨B, 0, none⟩ = some (.int .u8 14) := by rw [cell_of_row w B 0 _ _ _ hB]; rfl
  have f0 : w.frozen? ⟨B, 0, none⟩ = false := frozen_of_row w B 0 _ _ hB
  have HB : Hid _ := hB
  clear hB
  go_enter Try.func38, Try.ntmps38
  go_wp2
  go_ret
  exact ⟨rfl, HB.out, World.grownBy.refl _ _⟩

set_option maxRecDepth 100000 in
set_option maxHeartbeats 400000 in
theorem number_14_D (c : Int) (h1 : 49 ≤ c) (h2 : c ≤ 57) : NumberDoes 14 c 14 false := by
  intro B i s1 s2 s3 s4 s5 s6 s7 s8 s9 w hB
  have c0 : w.cell? ⟨B, 0, none⟩ = some (.int .u8 14) := by rw [cell_of_row w B 0 _ _ _ hB]; rfl
  have f0 : w.frozen? ⟨B, 0, none⟩ = false := frozen_of_row w B 0 _ _ hB
  have HB : Hid _ := hB
  clear hB
  have x43 : (c == 43) = false := by simp; omega
  have x45 : (c == 45) = false := by simp; omega
  have x46 : (c == 46) = false := by simp; omega
  have x48 : (c == 48) = false := by simp; omega
  have x69 : (c == 69) = false := by simp; omega
  have x101 : (c == 101) = false := by simp; omega
  go_enter Try.func38, Try.ntmps38
  go_wp2
  go_ret
  exact ⟨rfl, HB.out, World.grownBy.refl _ _⟩

set_option maxRecDepth 100000 in
set_option maxHeartbeats 400000 in
theorem number_14_P : NumberDoes 14 46 5 true := by
  intro B i s1 s2 s3 s4 s5 s6 s7 s8 s9 w hB
  have c0 : w.cell? ⟨B, 0, none⟩ = some (.int .u8 14) := by rw [cell_of_row w B 0 _ _ _ hB]; rfl
  have f0 : w.frozen? ⟨B, 0, none⟩ = false := frozen_of_row w B 0 _ _ hB
  have HB : Hid _ := hB
  clear hB
  go_enter Try.func38, Try.ntmps38
  go_wp2
  go_ret
  exact ⟨rfl, field_set HB.out 0 _, grown_set w B 0 _⟩

set_option maxRecDepth 100000 in
set_option maxHeartbeats 400000 in
theorem number_14_e : NumberDoes 14 101 15 false := by
  intro B i s1 s2 s3 s4 s5 s6 s7 s8 s9 w hB
  have c0 : w.cell? ⟨B, 0, none⟩ = some (.int .u8 14) := by rw [cell_of_row w B 0 _ _ _ hB]; rfl
  have f0 : w.frozen? ⟨B, 0, none⟩ = false := frozen_of_row w B 0 _ _ hB
  have HB : Hid _ := hB
  clear hB
  go_enter Try.func38, Try.ntmps38
  go_wp2
  go_ret
  exact ⟨rfl, field_set HB.out 0 _, grown_set w B 0 _⟩

set_option maxRecDepth 100000 in
set_option maxHeartbeats 400000 in
theorem number_14_E : NumberDoes 14 69 15 false := by
  intro B i s1 s2 s3 s4 s5 s6 s7 s8 s9 w hB
  have c0 : w.cell? ⟨B, 0, none⟩ = some (.int .u8 14) := by rw [cell_of_row w B 0 _ _ _ hB]; rfl
  have f0 : w.frozen? ⟨B, 0, none⟩ = false := frozen_of_row w B 0 _ _ hB
  have HB : Hid _ := hB
  clear hB
  go_enter Try.func38, Try.ntmps38
  go_wp2
  go_ret
  exact ⟨rfl, field_set HB.out 0 _, grown_set w B 0 _⟩

set_option maxRecDepth 100000 in
set_option maxHeartbeats 400000 in
theorem number_14_M : NumberDoes 14 45 5 true := by
  intro B i s1 s2 s3 s4 s5 s6 s7 s8 s9 w hB
  have c0 : w.cell? ⟨B, 0, none⟩ = some (.int .u8 14) := by rw [cell_of_row w B 0 _ _ _ hB]; rfl
  have f0 : w.frozen? ⟨B, 0, none⟩ = false := frozen_of_row w B 0 _ _ hB
  have HB : Hid _ := hB
  clear hB
  go_enter Try.func38, Try.ntmps38
  go_wp2
  go_ret
  exact ⟨rfl, field_set HB.out 0 _, grown_set w B 0 _⟩

set_option maxRecDepth 100000 in
set_option maxHeartbeats 400000 in
theorem number_14_L : NumberDoes 14 43 5 true := by
  intro B i s1 s2 s3 s4 s5 s6 s7 s8 s9 w hB
  have c0 : w.cell? ⟨B, 0, none⟩ = some (.int .u8 14) := by rw [cell_of_row w B 0 _ _ _ hB]; rfl
  have f0 : w.frozen? ⟨B, 0, none⟩ = false := frozen_of_row w B 0 _ _ hB
  have HB : Hid _ := hB
  clear hB
  go_enter Try.func38, Try.ntmps38
  go_wp2
  go_ret
  exact ⟨rfl, field_set HB.out 0 _, grown_set w B 0 _⟩

set_option maxRecDepth 100000 in
set_option maxHeartbeats 400000 in
theorem number_14_l (c : Int) (h1 : c < 48) (h2 : c ≠ 43) (h3 : c ≠ 45) (h4 : c ≠ 46) : NumberDoes 14 c 5 true := by
  intro B i s1 s2 s3 s4 s5 s6 s7 s8 s9 w hB
  have c0 : w.cell? ⟨B, 0, none⟩ = some (.int .u8 14) := by rw [cell_of_row w B 0 _ _ _ hB]; rfl
  have f0 : w.frozen? ⟨B, 0, none⟩ = false := frozen_of_row w B 0 _ _ hB
  have HB : Hid _ := hB
  clear hB
  have x43 : (c == 43) = false := by simp; omega
  have x45 : (c == 45) = false := by simp; omega
  have x46 : (c == 46) = false := by simp; omega
  have x48 : (c == 48) = false := by simp; omega
  have x69 : (c == 69) = false := by simp; omega
  have x101 : (c == 101) = false := by simp; omega
  go_enter Try.func38, Try.ntmps38
  go_wp2
  go_ret
  exact ⟨rfl, field_set HB.out 0 _, grown_set w B 0 _⟩

set_option maxRecDepth 100000 in
set_option maxHeartbeats 400000 in
theorem number_14_h (c : Int) (h1 : 57 < c) (h2 : c ≠ 69) (h3 : c ≠ 101) : NumberDoes 14 c 5 true := by
  intro B i s1 s2 s3 s4 s5 s6 s7 s8 s9 w hB
  have c0 : w.cell? ⟨B, 0, none⟩ = some (.int .u8 14) := by rw [cell_of_row w B 0 _ _ _ hB]; rfl
  have f0 : w.frozen? ⟨B, 0, none⟩ = false := frozen_of_row w B 0 _ _ hB
  have HB : Hid _ := hB
  clear hB
  have x43 : (c == 43) = false := by simp; omega
  have x45 : (c == 45) = false := by simp; omega
  have x46 : (c == 46) = false := by simp; omega
  have x48 : (c == 48) = false := by simp; omega
  have x69 : (c == 69) = false := by simp; omega
  have x101 : (c == 101) = false := by simp; omega
  go_enter Try.func38, Try.ntmps38
  go_wp2
  go_ret
  exact ⟨rfl, field_set HB.out 0 _, grown_set w B 0 _⟩

set_option maxRecDepth 100000 in
set_option maxHeartbeats 400000 in
theorem number_15_Z : NumberDoes 15 48 17 false := by
  intro B i s1 s2 s3 s4 s5 s6 s7 s8 s9 w hB
  have c0 : w.cell? ⟨B, 0, none⟩ = some (.int .u8 15) := by rw [cell_of_row w B 0 _ _ _ hB]; rfl
  have f0 : w.frozen? ⟨B, 0, none⟩ = false := frozen_of_row w B 0 _ _ hB
  have HB : Hid _ := hB
  clear hB
  go_enter Try.func38, Try.ntmps38
  go_wp2
  go_ret
  exact ⟨rfl, field_set HB.out 0 _, grown_set w B 0 _⟩

set_option maxRecDepth 100000 in
set_option maxHeartbeats 400000 in
theorem number_15_D (c : Int) (h1 : 49 ≤ c) (h2 : c ≤ 57) : NumberDoes 15 c 17 false := by
  intro B i s1 s2 s3 s4 s5 s6 s7 s8 s9 w hB
  have c0 : w.cell? ⟨B, 0, none⟩ = some (.int .u8 15) := by rw [cell_of_row w B 0 _ _ _ hB]; rfl
  have f0 : w.frozen? ⟨B, 0, none⟩ = false := frozen_of_row w B 0 _ _ hB
  have HB : Hid _ := hB
  clear hB
  have x43 : (c == 43) = false := by simp; omega
  have x45 : (c == 45) = false := by simp; omega
  have x46 : (c == 46) = false := by simp; omega
  have x48 : (c == 48) = false := by simp; omega
  have x69 : (c == 69) = false := by simp; omega
  have x101 : (c == 101) = false := by simp; omega
  go_enter Try.func38, Try.ntmps38
  go_wp2
  go_ret
  exact ⟨rfl, field_set HB.out 0 _, grown_set w B 0 _⟩

set_option maxRecDepth 100000 in
set_option maxHeartbeats 400000 in
theorem number_15_P : NumberDoes 15 46 18 false := by
  intro B i s1 s2 s3 s4 s5 s6 s7 s8 s9 w hB
  have c0 : w.cell? ⟨B, 0, none⟩ = some (.int .u8 15) := by rw [cell_of_row w B 0 _ _ _ hB]; rfl
  have f0 : w.frozen? ⟨B, 0, none⟩ = false := frozen_of_row w B 0 _ _ hB
  have HB : Hid _ := hB
  clear hB
  go_enter Try.func38, Try.ntmps38
  go_wp2
  go_ret
  exact ⟨rfl, field_set HB.out 0 _, grown_set w B 0 _⟩

set_option maxRecDepth 100000 in
set_option maxHeartbeats 400000 in
theorem number_15_e : NumberDoes 15 101 18 false := by
  intro B i s1 s2 s3 s4 s5 s6 s7 s8 s9 w hB
  have c0 : w.cell? ⟨B, 0, none⟩ = some (.int .u8 15) := by rw [cell_of_row w B 0 _ _ _ hB]; rfl
  have f0 : w.frozen? ⟨B, 0, none⟩ = false := frozen_of_row w B 0 _ _ hB
  have HB : Hid _ := hB
  clear hB
  go_enter Try.func38, Try.ntmps38
  go_wp2
  go_ret
  exact ⟨rfl, field_set HB.out 0 _, grown_set w B 0 _⟩

set_option maxRecDepth 100000 in
set_option maxHeartbeats 400000 in
theorem number_15_E : NumberDoes 15 69 18 false := by
  intro B i s1 s2 s3 s4 s5 s6 s7 s8 s9 w hB
  have c0 : w.cell? ⟨B, 0, none⟩ = some (.int .u8 15) := by rw [cell_of_row w B 0 _ _ _ hB]; rfl
  have f0 : w.frozen? ⟨B, 0, none⟩ = false := frozen_of_row w B 0 _ _ hB
  have HB : Hid _ := hB
  clear hB
  go_enter Try.func38, Try.ntmps38
  go_wp2
  go_ret
  exact ⟨rfl, field_set HB.out 0 _, grown_set w B 0 _⟩

set_option maxRecDepth 100000 in
set_option maxHeartbeats 400000 in
theorem number_15_M : NumberDoes 15 45 16 false := by
  intro B i s1 s2 s3 s4 s5 s6 s7 s8 s9 w hB
  have c0 : w.cell? ⟨B, 0, none⟩ = some (.int .u8 15) := by rw [cell_of_row w B 0 _ _ _ hB]; rfl
  have f0 : w.frozen? ⟨B, 0, none⟩ = false := frozen_of_row w B 0 _ _ hB
  have HB : Hid _ := hB
  clear hB
  go_enter Try.func38, Try.ntmps38
  go_wp2
  go_ret
  exact ⟨rfl, field_set HB.out 0 _, grown_set w B 0 _⟩

set_option maxRecDepth 100000 in
set_option maxHeartbeats 400000 in
theorem number_15_L : NumberDoes 15 43 16 false := by
  intro B i s1 s2 s3 s4 s5 s6 s7 s8 s9 w hB
  have c0 : w.cell? ⟨B, 0, none⟩ = some (.int .u8 15) := by rw [cell_of_row w B 0 _ _ _ hB]; rfl
  have f0 : w.frozen? ⟨B, 0, none⟩ = false := frozen_of_row w B 0 _ _ hB
  have HB : Hid _ := hB
  clear hB
  go_enter Try.func38, Try.ntmps38
  go_wp2
  go_ret
  exact ⟨rfl, field_set HB.out 0 _, grown_set w B 0 _⟩

set_option maxRecDepth 100000 in
set_option maxHeartbeats 400000 in
theorem number_15_l (c : Int) (h1 : c < 48) (h2 : c ≠ 43) (h3 : c ≠ 45) (h4 : c ≠ 46) : NumberDoes 15 c 18 false := by
  intro B i s1 s2 s3 s4 s5 s6 s7 s8 s9 w hB
  have c0 : w.cell? ⟨B, 0, none⟩ = some (.int .u8 15) := by rw [cell_of_row w B 0 _ _ _ hB]; rfl
  have f0 : w.frozen? ⟨B, 0, none⟩ = false := frozen_of_row w B 0 _ _ hB
  have HB : Hid _ := hB
  clear hB
  have x43 : (c == 43) = false := by simp; omega
  have x45 : (c == 45) = false := by simp; omega
  have x46 : (c == 46) = false := by simp; omega
  have x48 : (c == 48) = false := by simp; omega
  have x69 : (c == 69) = false := by simp; omega
  have x101 : (c == 101) = false := by simp; omega
  go_enter Try.func38, Try.ntmps38
  go_wp2
  go_ret
  exact ⟨rfl, field_set HB.out 0 _, grown_set w B 0 _⟩

set_option maxRecDepth 100000 in
set_option maxHeartbeats 400000 in
theorem number_15_h (c : Int) (h1 : 57 < c) (h2 : c ≠ 69) (h3 : c ≠ 101) : NumberDoes 15 c 18 false := by
  intro B i s1 s2 s3 s4 s5 s6 s7 s8 s9 w hB
  have c0 : w.cell? ⟨B, 0, none⟩ = some (.int .u8 15) := by rw [cell_of_row w B 0 _ _ _ hB]; rfl
  have f0 : w.frozen? ⟨B, 0, none⟩ = false := frozen_of_row w B 0 _ _ hB
  have HB : Hid _ := hB
  clear hB
  have x43 : (c == 43) = false := by simp; omega
  have x45 : (c == 45) = false := by simp; omega
  have x46 : (c == 46) = false := by simp; omega
  have x48 : (c == 48) = false := by simp; omega
  have x69 : (c == 69) = false := by simp; omega
  have x101 : (c == 101) = false := by simp; omega
  go_enter Try.func38, Try.ntmps38
  go_wp2
  go_ret
  exact ⟨rfl, field_set HB.out 0 _, grown_set w B 0 _⟩

set_option maxRecDepth 100000 in
set_option maxHeartbeats 400000 in
theorem number_16_Z : NumberDoes 16 48 17 false := by
  intro B i s1 s2 s3 s4 s5 s6 s7 s8 s9 w hB
  have c0 : w.cell? ⟨B, 0, none⟩ = some (.int .u8 16) := by rw [cell_of_row w B 0 _ _ _ hB]; rfl
  have f0 : w.frozen? ⟨B, 0, none⟩ = false := frozen_of_row w B 0 _ _ hB
  have HB : Hid _ := hB
  clear hB
  go_enter Try.func38, Try.ntmps38
  go_wp2
  go_ret
  exact ⟨rfl, field_set HB.out 0 _, grown_set w B 0 _⟩

set_option maxRecDepth 100000 in
set_option maxHeartbeats 400000 in
theorem number_16_D (c : Int) (h1 : 49 ≤ c) (h2 : c ≤ 57) : NumberDoes 16 c 17 false := by
  intro B i s1 s2 s3 s4 s5 s6 s7 s8 s9 w hB
  have c0 : w.cell? ⟨B, 0, none⟩ = some (.int .u8 16) := by rw [cell_of_row w B 0 _ _ _ hB]; rfl
  have f0 : w.frozen? ⟨B, 0, none⟩ = false := frozen_of_row w B 0 _ _ hB
  have HB : Hid _ := hB
  clear hB
  have x43 : (c == 43) = false := by simp; omega
  have x45 : (c == 45) = false := by simp; omega
  have x46 : (c == 46) = false := by simp; omega
  have x48 : (c == 48) = false := by simp; omega
  have x69 : (c == 69) = false := by simp; omega
  have x101 : (c == 101) = false := by simp; omega
  go_enter Try.func38, Try.ntmps38
  go_wp2
  go_ret
  exact ⟨rfl, field_set HB.out 0 _, grown_set w B 0 _⟩

set_option maxRecDepth 100000 in
set_option maxHeartbeats 400000 in
theorem number_16_P : NumberDoes 16 46 18 false := by
  intro B i s1 s2 s3 s4 s5 s6 s7 s8 s9 w hB
  have c0 : w.cell? ⟨B, 0, none⟩ = some (.int .u8 16) := by rw [cell_of_row w B 0 _ _ _ hB]; rfl
  have f0 : w.frozen? ⟨B, 0, none⟩ = false := frozen_of_row w B 0 _ _ hB
  have HB : Hid _ := hB
  clear hB
  go_enter Try.func38, Try.ntmps38
  go_wp2
  go_ret
  exact ⟨rfl, field_set HB.out 0 _, grown_set w B 0 _⟩

set_option maxRecDepth 100000 in
set_option maxHeartbeats 400000 in
theorem number_16_e : NumberDoes 16 101 18 false := by
  intro B i s1 s2 s3 s4 s5 s6 s7 s8 s9 w hB
  have c0 : w.cell? ⟨B, 0, none⟩ = some (.int .u8 16) := by rw [cell_of_row w B 0 _ _ _ hB]; rfl
  have f0 : w.frozen? ⟨B, 0, none⟩ = false := frozen_of_row w B 0 _ _ hB
  have HB : Hid _ := hB
  clear hB
  go_enter Try.func38, Try.ntmps38
  go_wp2
  go_ret
  exact ⟨rfl, field_set HB.out 0 _, grown_set w B 0 _⟩

set_option maxRecDepth 100000 in
set_option maxHeartbeats 400000 in
theorem number_16_E : NumberDoes 16 69 18 false := by
  intro B i s1 s2 s3 s4 s5 s6 s7 s8 s9 w hB
  have c0 : w.cell? ⟨B, 0, none⟩ = some (.int .u8 16) := by rw [cell_of_row w B 0 _ _ _ hB]; rfl
  have f0 : w.frozen? ⟨B, 0, none⟩ = false := frozen_of_row w B 0 _ _ hB
  have HB : Hid _ := hB
  clear hB
  go_enter Try.func38, Try.ntmps38
  go_wp2
  go_ret
  exact ⟨rfl, field_set HB.out 0 _, grown_set w B 0 _⟩

set_option maxRecDepth 100000 in
set_option maxHeartbeats 400000 in
theorem number_16_M : NumberDoes 16 45 18 false := by
  intro B i s1 s2 s3 s4 s5 s6 s7 s8 s9 w hB
  have c0 : w.cell? ⟨B, 0, none⟩ = some (.int .u8 16) := by rw [cell_of_row w B 0 _ _ _ hB]; rfl
  have f0 : w.frozen? ⟨B, 0, none⟩ = false := frozen_of_row w B 0 _ _ hB
  have HB : Hid _ := hB
  clear hB
  go_enter Try.func38, Try.ntmps38
  go_wp2
  go_ret
  exact ⟨rfl, field_set HB.out 0 _, grown_set w B 0 _⟩

set_option maxRecDepth 100000 in
set_option maxHeartbeats 400000 in
theorem number_16_L : NumberDoes 16 43 18 false := by
  intro B i s1 s2 s3 s4 s5 s6 s7 s8 s9 w hB
  have c0 : w.cell? ⟨B, 0, none⟩ = some (.int .u8 16) := by rw [cell_of_row w B 0 _ _ _ hB]; rfl
  have f0 : w.frozen? ⟨B, 0, none⟩ = false := frozen_of_row w B 0 _ _ hB
  have HB : Hid _ := hB
  clear hB
  go_enter Try.func38, Try.ntmps38
  go_wp2
  go_ret
  exact ⟨rfl, field_set HB.out 0 _, grown_set w B 0 _⟩

set_option maxRecDepth 100000 in
set_option maxHeartbeats 400000 in
theorem number_16_l (c : Int) (h1 : c < 48) (h2 : c ≠ 43) (h3 : c ≠ 45) (h4 : c ≠ 46) : NumberDoes 16 c 18 false := by
  intro B i s1 s2 s3 s4 s5 s6 s7 s8 s9 w hB
  have c0 : w.cell? ⟨B, 0, none⟩ = some (.int .u8 16) := by rw [cell_of_row w B 0 _ _ _ hB]; rfl
  have f0 : w.frozen? ⟨B, 0, none⟩ = false := frozen_of_row w B 0 _ _ hB
  have HB : Hid _ := hB
  clear hB
  have x43 : (c == 43) = false := by simp; omega
  have x45 : (c == 45) = false := by simp; omega
  have x46 : (c == 46) = false := by simp; omega
  have x48 : (c == 48) = false := by simp; omega
  have x69 : (c == 69) = false := by simp; omega
  have x101 : (c == 101) = false := by simp; omega
  go_enter Try.func38, Try.ntmps38
  go_wp2
  go_ret
  exact ⟨rfl, field_set HB.out 0 _, grown_set w B 0 _⟩

set_option maxRecDepth 100000 in
set_option maxHeartbeats 400000 in
theorem number_16_h (c : Int) (h1 : 57 < c) (h2 : c ≠ 69) (h3 : c ≠ 101) : NumberDoes 16 c 18 false := by
  intro B i s1 s2 s3 s4 s5 s6 s7 s8 s9 w hB
  have c0 : w.cell? ⟨B, 0, none⟩ = some (.int .u8 16) := by rw [cell_of_row w B 0 _ _ _ hB]; rfl
  have f0 : w.frozen? ⟨B, 0, none⟩ = false := frozen_of_row w B 0 _ _ hB
  have HB : Hid _ := hB
  clear hB
  have x43 : (c == 43) = false := by simp; omega
  have x45 : (c == 45) = false := by simp; omega
  have x46 : (c == 46) = false := by simp; omega
  have x48 : (c == 48) = false := by simp; omega
  have x69 : (c == 69) = false := by simp; omega
  have x101 : (c == 101) = false := by simp; omega
  go_enter Try.func38, Try.ntmps38
  go_wp2
  go_ret
  exact ⟨rfl, field_set HB.out 0 _, grown_set w B 0 _⟩

set_option maxRecDepth 100000 in
set_option maxHeartbeats 400000 in
theorem number_17_Z : NumberDoes 17 48 17 false := by
  intro B i s1 s2 s3 s4 s5 s6 s7 s8 s9 w hB
  have c0 : w.cell? ⟨B, 0, none⟩ = some (.int .u8 17) := by rw [cell_of_row w B 0 _ _ _ hB]; rfl
  have f0 : w.frozen? ⟨B, 0, none⟩ = false := frozen_of_row w B 0 _ _ hB
  have HB : Hid _ := hB
  clear hB
  go_enter Try.func38, Try.ntmps38
  go_wp2
  go_ret
  exact ⟨rfl, HB.out, World.grownBy.refl _ _⟩

set_option maxRecDepth 100000 in
set_option maxHeartbeats 400000 in
theorem number_17_D (c : Int) (h1 : 49 ≤ c) (h2 : c ≤ 57) : NumberDoes 17 c 17 false := by
  intro B i s1 s2 s3 s4 s5 s6 s7 s8 s9 w hB
  have c0 : w.cell? ⟨B, 0, none⟩ = some (.int .u8 17) := by rw [cell_of_row w B 0 _ _ _ hB]; rfl
  have f0 : w.frozen? ⟨B, 0, none⟩ = false := frozen_of_row w B 0 _ _ hB
  have HB : Hid _ := hB
  clear hB
  have x43 : (c == 43) = false := by simp; omega
  have x45 : (c == 45) = false := by simp; omega
  have x46 : (c == 46) = false := by simp; omega
  have x48 : (c == 48) = false := by simp; omega
  have x69 : (c == 69) = false := by simp; omega
  have x101 : (c == 101) = false := by simp; omega
  go_enter Try.func38, Try.ntmps38
  go_wp2
  go_ret
  exact ⟨rfl, HB.out, World.grownBy.refl _ _⟩

set_option maxRecDepth 100000 in
set_option maxHeartbeats 400000 in
theorem number_17_P : NumberDoes 17 46 5 true := by
  intro B i s1 s2 s3 s4 s5 s6 s7 s8 s9 w hB
  have c0 : w.cell? ⟨B, 0, none⟩ = some (.int .u8 17) := by rw [cell_of_row w B 0 _ _ _ hB]; rfl
  have f0 : w.frozen? ⟨B, 0, none⟩ = false := frozen_of_row w B 0 _ _ hB
  have HB : Hid _ := hB
  clear hB
  go_enter Try.func38, Try.ntmps38
  go_wp2
  go_ret
  exact ⟨rfl, field_set HB.out 0 _, grown_set w B 0 _⟩

set_option maxRecDepth 100000 in
set_option maxHeartbeats 400000 in
theorem number_17_e : NumberDoes 17 101 5 true := by
  intro B i s1 s2 s3 s4 s5 s6 s7 s8 s9 w hB
  have c0 : w.cell? ⟨B, 0, none⟩ = some (.int .u8 17) := by rw [cell_of_row w B 0 _ _ _ hB]; rfl
  have f0 : w.frozen? ⟨B, 0, none⟩ = false := frozen_of_row w B 0 _ _ hB
  have HB : Hid _ := hB
  clear hB
  go_enter Try.func38, Try.ntmps38
  go_wp2
  go_ret
  exact ⟨rfl, field_set HB.out 0 _, grown_set w B 0 _⟩

set_option maxRecDepth 100000 in
set_option maxHeartbeats 400000 in
theorem number_17_E : NumberDoes 17 69 5 true := by
  intro B i s1 s2 s3 s4 s5 s6 s7 s8 s9 w hB
  have c0 : w.cell? ⟨B, 0, none⟩ = some (.int .u8 17) := by rw [cell_of_row w B 0 _ _ _ hB]; rfl
  have f0 : w.frozen? ⟨B, 0, none⟩ = false := frozen_of_row w B 0 _ _ hB
  have HB : Hid _ := hB
  clear hB
  go_enter Try.func38, Try.ntmps38
  go_wp2
  go_ret
  exact ⟨rfl, field_set HB.out 0 _, grown_set w B 0 _⟩

set_option maxRecDepth 100000 in
set_option maxHeartbeats 400000 in
theorem number_17_M : NumberDoes 17 45 5 true := by
  intro B i s1 s2 s3 s4 s5 s6 s7 s8 s9 w hB
  have c0 : w.cell? ⟨B, 0, none⟩ = some (.int .u8 17) := by rw [cell_of_row w B 0 _ _ _ hB]; rfl
  have f0 : w.frozen? ⟨B, 0, none⟩ = false := frozen_of_row w B 0 _ _ hB
  have HB : Hid _ := hB
  clear hB
  go_enter Try.func38, Try.ntmps38
  go_wp2
  go_ret
  exact ⟨rfl, field_set HB.out 0 _, grown_set w B 0 _⟩

set_option maxRecDepth 100000 in
set_option maxHeartbeats 400000 in
theorem number_17_L : NumberDoes 17 43 5 true := by
  intro B i s1 s2 s3 s4 s5 s6 s7 s8 s9 w hB
  have c0 : w.cell? ⟨B, 0, none⟩ = some (.int .u8 17) := by rw [cell_of_row w B 0 _ _ _ hB]; rfl
  have f0 : w.frozen? ⟨B, 0, none⟩ = false := frozen_of_row w B 0 _ _ hB
  have HB : Hid _ := hB
  clear hB
  go_enter Try.func38, Try.ntmps38
  go_wp2
  go_ret
  exact ⟨rfl, field_set HB.out 0 _, grown_set w B 0 _⟩

set_option maxRecDepth 100000 in
set_option maxHeartbeats 400000 in
theorem number_17_l (c : Int) (h1 : c < 48) (h2 : c ≠ 43) (h3 : c ≠ 45) (h4 : c ≠ 46) : NumberDoes 17 c 5 true := by
  intro B i s1 s2 s3 s4 s5 s6 s7 s8 s9 w hB
  have c0 : w.cell? ⟨B, 0, none⟩ = some (.int .u8 17) := by rw [cell_of_row w B 0 _ _ _ hB]; rfl
  have f0 : w.frozen? ⟨B, 0, none⟩ = false := frozen_of_row w B 0 _ _ hB
  have HB : Hid _ := hB
  clear hB
  have x43 : (c == 43) = false := by simp; omega
  have x45 : (c == 45) = false := by simp; omega
  have x46 : (c == 46) = false := by simp; omega
  have x48 : (c == 48) = false := by simp; omega
  have x69 : (c == 69) = false := by simp; omega
  have x101 : (c == 101) = false := by simp; omega
  go_enter Try.func38, Try.ntmps38
  go_wp2
  go_ret
  exact ⟨rfl, field_set HB.out 0 _, grown_set w B 0 _⟩

set_option maxRecDepth 100000 in
set_option maxHeartbeats 400000 in
theorem number_17_h (c : Int) (h1 : 57 < c) (h2 : c ≠ 69) (h3 : c ≠ 101) : NumberDoes 17 c 5 true := by
  intro B i s1 s2 s3 s4 s5 s6 s7 s8 s9 w hB
  have c0 : w.cell? ⟨B, 0, none⟩ = some (.int .u8 17) := by rw [cell_of_row w B 0 _ _ _ hB]; rfl
  have f0 : w.frozen? ⟨B, 0, none⟩ = false := frozen_of_row w B 0 _ _ hB
  have HB : Hid _ := hB
  clear hB
  have x43 : (c == 43) = false := by simp; omega
  have x45 : (c == 45) = false := by simp; omega
  have x46 : (c == 46) = false := by simp; omega
  have x48 : (c == 48) = false := by simp; omega
  have x69 : (c == 69) = false := by simp; omega
  have x101 : (c == 101) = false := by simp; omega
  go_enter Try.func38, Try.ntmps38
  go_wp2
  go_ret
  exact ⟨rfl, field_set HB.out 0 _, grown_set w B 0 _⟩
end Go.Proofs.Qxb6602542a
