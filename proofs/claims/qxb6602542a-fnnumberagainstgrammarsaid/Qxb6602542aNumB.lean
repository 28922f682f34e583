import Derived.Test.Qxb6602542aNumA
namespace Go.Proofs.Qxb6602542a
open Go.RowKit

set_option maxRecDepth 100000 in
set_option maxHeartbeats 400000 in
theorem number_10_Z : NumberDoes 10 48 11 false := by
  intro B i s1 s2 s3 s4 s5 s6 s7 s8 s9 w hB
  have c0 : w.cell? ⟨B, 0, none⟩ = some (.int .u8 10) := by rw [cell_of_row w B 0 _ _ _ hB]; rfl
  have f0 : w.frozen? ⟨B, 0, none⟩ = false := frozen_of_row w B 0 _ _ hB
  have HB : Hid _ := hB
  clear hB
  go_enter Try.func38, Try.ntmps38
  go_wp2
  go_ret
  exact ⟨rfl, field_set HB.out 0 _, grown_set w B 0 _⟩

set_option maxRecDepth 100000 in
set_option maxHeartbeats 400000 in
theorem number_10_D (c : Int) (h1 : 49 ≤ c) (h2 : c ≤ 57) : NumberDoes 10 c 12 false := by
  intro B i s1 s2 s3 s4 s5 s6 s7 s8 s9 w hB
  have c0 : w.cell? ⟨B, 0, none⟩ = some (.int .u8 10) := by rw [cell_of_row w B 0 _ _ _ hB]; rfl
  have f0 : w.frozen? ⟨B, 0, none⟩ = false := frozen_of_row w B 0 _ _ hB
  have HB : Hid _ := hB
  clear hB
  have x43 : (c == 43) = false := by simp; omega
  have x45 : (c == 45) = false := by simp; omega
  have x46 : (c == 46) = false := by simp; omega
  have x48 : (c == 48) = false := by simp; omega
  have x69 : (c == 69) = false := by simp; omega
  have x101 : (c == 101) = false := by simp; omega
  go_enter Try.func38, Try.ntmps38
  go_wp2
  go_ret
  exact ⟨rfl, field_set HB.out 0 _, grown_set w B 0 _⟩

set_option maxRecDepth 100000 in
set_option maxHeartbeats 400000 in
theorem number_10_P : NumberDoes 10 46 18 false := by
  intro B i s1 s2 s3 s4 s5 s6 s7 s8 s9 w hB
  have c0 : w.cell? ⟨B, 0, none⟩ = some (.int .u8 10) := by rw [cell_of_row w B 0 _ _ _ hB]; rfl
  have f0 : w.frozen? ⟨B, 0, none⟩ = false := frozen_of_row w B 0 _ _ hB
  have HB : Hid _ := hB
  clear hB
  go_enter Try.func38, Try.ntmps38
  go_wp2
  go_ret
  exact ⟨rfl, field_set HB.out 0 _, grown_set w B 0 _⟩

set_option maxRecDepth 100000 in
set_option maxHeartbeats 400000 in
theorem number_10_e : NumberDoes 10 101 18 false := by
  intro B i s1 s2 s3 s4 s5 s6 s7 s8 s9 w hB
  have c0 : w.cell? ⟨B, 0, none⟩ = some (.int .u8 10) := by rw [cell_of_row w B 0 _ _ _ hB]; rfl
  have f0 : w.frozen? ⟨B, 0, none⟩ = false := frozen_of_row w B 0 _ _ hB
  have HB : Hid _ := hB
  clear hB
  go_enter Try.func38, Try.ntmps38
  go_wp2
  go_ret
  exact ⟨rfl, field_set HB.out 0 _, grown_set w B 0 _⟩

set_option maxRecDepth 100000 in
set_option maxHeartbeats 400000 in
theorem number_10_E : NumberDoes 10 69 18 false := by
  intro B i s1 s2 s3 s4 s5 s6 s7 s8 s9 w hB
  have c0 : w.cell? ⟨B, 0, none⟩ = some (.int .u8 10) := by rw [cell_of_row w B 0 _ _ _ hB]; rfl
  have f0 : w.frozen? ⟨B, 0, none⟩ = false := frozen_of_row w B 0 _ _ hB
  have HB : Hid _ := hB
  clear hB
  go_enter Try.func38, Try.ntmps38
  go_wp2
  go_ret
  exact ⟨rfl, field_set HB.out 0 _, grown_set w B 0 _⟩

set_option maxRecDepth 100000 in
set_option maxHeartbeats 400000 in
theorem number_10_M : NumberDoes 10 45 18 false := by
  intro B i s1 s2 s3 s4 s5 s6 s7 s8 s9 w hB
  have c0 : w.cell? ⟨B, 0, none⟩ = some (.int .u8 10) := by rw [cell_of_row w B 0 _ _ _ hB]; rfl
  have f0 : w.frozen? ⟨B, 0, none⟩ = false := frozen_of_row w B 0 _ _ hB
  have HB : Hid _ := hB
  clear hB
  go_enter Try.func38, Try.ntmps38
  go_wp2
  go_ret
  exact ⟨rfl, field_set HB.out 0 _, grown_set w B 0 _⟩

set_option maxRecDepth 100000 in
set_option maxHeartbeats 400000 in
theorem number_10_L : NumberDoes 10 43 18 false := by
  intro B i s1 s2 s3 s4 s5 s6 s7 s8 s9 w hB
  have c0 : w.cell? ⟨B, 0, none⟩ = some (.int .u8 10) := by rw [cell_of_row w B 0 _ _ _ hB]; rfl
  have f0 : w.frozen? ⟨B, 0, none⟩ = false := frozen_of_row w B 0 _ _ hB
  have HB : Hid _ := hB
  clear hB
  go_enter Try.func38, Try.ntmps38
  go_wp2
  go_ret
  exact ⟨rfl, field_set HB.out 0 _, grown_set w B 0 _⟩

set_option maxRecDepth 100000 in
set_option maxHeartbeats 400000 in
theorem number_10_l (c : Int) (h1 : c < 48) (h2 : c ≠ 43) (h3 : c ≠ 45) (h4 : c ≠ 46) : NumberDoes 10 c 18 false := by
  intro B i s1 s2 s3 s4 s5 s6 s7 s8 s9 w hB
  have c0 : w.cell? ⟨B, 0, none⟩ = some (.int .u8 10) := by rw [cell_of_row w B 0 _ _ _ hB]; rfl
  have f0 : w.frozen? ⟨B, 0, none⟩ = false := frozen_of_row w B 0 _ _ hB
  have HB : Hid _ := hB
  clear hB
  have x43 : (c == 43) = false := by simp; omega
  have x45 : (c == 45) = false := by simp; omega
  have x46 : (c == 46) = false := by simp; omega
  have x48 : (c == 48) = false := by simp; omega
  have x69 : (c == 69) = false := by simp; omega
  have x101 : (c == 101) = false := by simp; omega
  go_enter Try.func38, Try.ntmps38
  go_wp2
  go_ret
  exact ⟨rfl, field_set HB.out 0 _, grown_set w B 0 _⟩

set_option maxRecDepth 100000 in
set_option maxHeartbeats 400000 in
theorem number_10_h (c : Int) (h1 : 57 < c) (h2 : c ≠ 69) (h3 : c ≠ 101) : NumberDoes 10 c 18 false := by
  intro B i s1 s2 s3 s4 s5 s6 s7 s8 s9 w hB
  have c0 : w.cell? ⟨B, 0, none⟩ = some (.int .u8 10) := by rw [cell_of_row w B 0 _ _ _ hB]; rfl
  have f0 : w.frozen? ⟨B, 0, none⟩ = false := frozen_of_row w B 0 _ _ hB
  have HB : Hid _ := hB
  clear hB
  have x43 : (c == 43) = false := by simp; omega
  have x45 : (c == 45) = false := by simp; omega
  have x46 : (c == 46) = false := by simp; omega
  have x48 : (c == 48) = false := by simp; omega
  have x69 : (c == 69) = false := by simp; omega
  have x101 : (c == 101) = false := by simp; omega
  go_enter Try.func38, Try.ntmps38
  go_wp2
  go_ret
  exact ⟨rfl, field_set HB.out 0 _, grown_set w B 0 _⟩

set_option maxRecDepth 100000 in
set_option maxHeartbeats 400000 in
theorem number_11_Z : NumberDoes 11 48 5 true := by
  intro B i s1 s2 s3 s4 s5 s6 s7 s8 s9 w hB
  have c0 : w.cell? ⟨B, 0, none⟩ = some (.int .u8 11) := by rw [cell_of_row w B 0 _ _ _ hB]; rfl
  have f0 : w.frozen? ⟨B, 0, none⟩ = false := frozen_of_row w B 0 _ _ hB
  have HB : Hid _ := hB
  clear hB
  go_enter Try.func38, Try.ntmps38
  go_wp2
  go_ret
  exact ⟨rfl, field_set HB.out 0 _, grown_set w B 0 _⟩

set_option maxRecDepth 100000 in
set_option maxHeartbeats 400000 in
theorem number_11_D (c : Int) (h1 : 49 ≤ c) (h2 : c ≤ 57) : NumberDoes 11 c 5 true := by
  intro B i s1 s2 s3 s4 s5 s6 s7 s8 s9 w hB
  have c0 : w.cell? ⟨B, 0, none⟩ = some (.int .u8 11) := by rw [cell_of_row w B 0 _ _ _ hB]; rfl
  have f0 : w.frozen? ⟨B, 0, none⟩ = false := frozen_of_row w B 0 _ _ hB
  have HB : Hid _ := hB
  clear hB
  have x43 : (c == 43) = false := by simp; omega
  have x45 : (c == 45) = false := by simp; omega
  have x46 : (c == 46) = false := by simp; omega
  have x48 : (c == 48) = false := by simp; omega
  have x69 : (c == 69) = false := by simp; omega
  have x101 : (c == 101) = false := by simp; omega
  go_enter Try.func38, Try.ntmps38
  go_wp2
  go_ret
  exact ⟨rfl, field_set HB.out 0 _, grown_set w B 0 _⟩

set_option maxRecDepth 100000 in
set_option maxHeartbeats 400000 in
theorem number_11_P : NumberDoes 11 46 13 false := by
  intro B i s1 s2 s3 s4 s5 s6 s7 s8 s9 w hB
  have c0 : w.cell? ⟨B, 0, none⟩ = some (.int .u8 11) := by rw [cell_of_row w B 0 _ _ _ hB]; rfl
  have f0 : w.frozen? ⟨B, 0, none⟩ = false := frozen_of_row w B 0 _ _ hB
  have HB : Hid _ := hB
  clear hB
  go_enter Try.func38, Try.ntmps38
  go_wp2
  go_ret
  exact ⟨rfl, field_set HB.out 0 _, grown_set w B 0 _⟩

set_option maxRecDepth 100000 in
set_option maxHeartbeats 400000 in
theorem number_11_e : NumberDoes 11 101 15 false := by
  intro B i s1 s2 s3 s4 s5 s6 s7 s8 s9 w hB
  have c0 : w.cell? ⟨B, 0, none⟩ = some (.int .u8 11) := by rw [cell_of_row w B 0 _ _ _ hB]; rfl
  have f0 : w.frozen? ⟨B, 0, none⟩ = false := frozen_of_row w B 0 _ _ hB
  have HB : Hid _ := hB
  clear hB
  go_enter Try.func38, Try.ntmps38
  go_wp2
  go_ret
  exact ⟨rfl, field_set HB.out 0 _, grown_set w B 0 _⟩

set_option maxRecDepth 100000 in
set_option maxHeartbeats 400000 in
theorem number_11_E : NumberDoes 11 69 15 false := by
  intro B i s1 s2 s3 s4 s5 s6 s7 s8 s9 w hB
  have c0 : w.cell? ⟨B, 0, none⟩ = some (.int .u8 11) := by rw [cell_of_row w B 0 _ _ _ hB]; rfl
  have f0 : w.frozen? ⟨B, 0, none⟩ = false := frozen_of_row w B 0 _ _ hB
  have HB : Hid _ := hB
  clear hB
  go_enter Try.func38, Try.ntmps38
  go_wp2
  go_ret
  exact ⟨rfl, field_set HB.out 0 _, grown_set w B 0 _⟩

set_option maxRecDepth 100000 in
set_option maxHeartbeats 400000 in
theorem number_11_M : NumberDoes 11 45 5 true := by
  intro B i s1 s2 s3 s4 s5 s6 s7 s8 s9 w hB
  have c0 : w.cell? ⟨B, 0, none⟩ = some (.int .u8 11) := by rw [cell_of_row w B 0 _ _ _ hB]; rfl
  have f0 : w.frozen? ⟨B, 0, none⟩ = false := frozen_of_row w B 0 _ _ hB
  have HB : Hid _ := hB
  clear hB
  go_enter Try.func38, Try.ntmps38
  go_wp2
  go_ret
  exact ⟨rfl, field_set HB.out 0 _, grown_set w B 0 _⟩

set_option maxRecDepth 100000 in
set_option maxHeartbeats 400000 in
theorem number_11_L : NumberDoes 11 43 5 true := by
  intro B i s1 s2 s3 s4 s5 s6 s7 s8 s9 w hB
  have c0 : w.cell? ⟨B, 0, none⟩ = some (.int .u8 11) := by rw [cell_of_row w B 0 _ _ _ hB]; rfl
  have f0 : w.frozen? ⟨B, 0, none⟩ = false := frozen_of_row w B 0 _ _ hB
  have HB : Hid _ := hB
  clear hB
  go_enter Try.func38, Try.ntmps38
  go_wp2
  go_ret
  exact ⟨rfl, field_set HB.out 0 _, grown_set w B 0 _⟩

set_option maxRecDepth 100000 in
set_option maxHeartbeats 400000 in
theorem number_11_l (c : Int) (h1 : c < 48) (h2 : c ≠ 43) (h3 : c ≠ 45) (h4 : c ≠ 46) : NumberDoes 11 c 5 true := by
  intro B i s1 s2 s3 s4 s5 s6 s7 s8 s9 w hB
  have c0 : w.cell? ⟨B, 0, none⟩ = some (.int .u8 11) := by rw [cell_of_row w B 0 _ _ _ hB]; rfl
  have f0 : w.frozen? ⟨B, 0, none⟩ = false := frozen_of_row w B 0 _ _ hB
  have HB : Hid _ := hB
  clear hB
  have x43 : (c == 43) = false := by simp; omega
  have x45 : (c == 45) = false := by simp; omega
  have x46 : (c == 46) = false := by simp; omega
  have x48 : (c == 48) = false := by simp; omega
  have x69 : (c == 69) = false := by simp; omega
  have x101 : (c == 101) = false := by simp; omega
  go_enter Try.func38, Try.ntmps38
  go_wp2
  go_ret
  exact ⟨rfl, field_set HB.out 0 _, grown_set w B 0 _⟩

set_option maxRecDepth 100000 in
set_option maxHeartbeats 400000 in
theorem number_11_h (c : Int) (h1 : 57 < c) (h2 : c ≠ 69) (h3 : c ≠ 101) : NumberDoes 11 c 5 true := by
  intro B i s1 s2 s3 s4 s5 s6 s7 s8 s9 w hB
  have c0 : w.cell? ⟨B, 0, none⟩ = some (.int .u8 11) := by rw [cell_of_row w B 0 _ _ _ hB]; rfl
  have f0 : w.frozen? ⟨B, 0, none⟩ = false := frozen_of_row w B 0 _ _ hB
  have HB : Hid _ := hB
  clear hB
  have x43 : (c == 43) = false := by simp; omega
  have x45 : (c == 45) = false := by simp; omega
  have x46 : (c == 46) = false := by simp; omega
  have x48 : (c == 48) = false := by simp; omega
  have x69 : (c == 69) = false := by simp; omega
  have x101 : (c == 101) = false := by simp; omega
  go_enter Try.func38, Try.ntmps38
  go_wp2
  go_ret
  exact ⟨rfl, field_set HB.out 0 _, grown_set w B 0 _⟩

set_option maxRecDepth 100000 in
set_option maxHeartbeats 400000 in
theorem number_12_Z : NumberDoes 12 48 12 false := by
  intro B i s1 s2 s3 s4 s5 s6 s7 s8 s9 w hB
  have c0 : w.cell? ⟨B, 0, none⟩ = some (.int .u8 12) := by rw [cell_of_row w B 0 _ _ _ hB]; rfl
  have f0 : w.frozen? ⟨B, 0, none⟩ = false := frozen_of_row w B 0 _ _ hB
  have HB : Hid _ := hB
  clear hB
  go_enter Try.func38, Try.ntmps38
  go_wp2
  go_ret
  exact ⟨rfl, HB.out, World.grownBy.refl _ _⟩

set_option maxRecDepth 100000 in
set_option maxHeartbeats 400000 in
theorem number_12_D (c : Int) (h1 : 49 ≤ c) (h2 : c ≤ 57) : NumberDoes 12 c 12 false := by
  intro B i s1 s2 s3 s4 s5 s6 s7 s8 s9 w hB
  have c0 : w.cell? ⟨B, 0, none⟩ = some (.int .u8 12) := by rw [cell_of_row w B 0 _ _ _ hB]; rfl
  have f0 : w.frozen? ⟨B, 0, none⟩ = false := frozen_of_row w B 0 _ _ hB
  have HB : Hid _ := hB
  clear hB
  have x43 : (c == 43) = false := by simp; omega
  have x45 : (c == 45) = false := by simp; omega
  have x46 : (c == 46) = false := by simp; omega
  have x48 : (c == 48) = false := by simp; omega
  have x69 : (c == 69) = false := by simp; omega
  have x101 : (c == 101) = false := by simp; omega
  go_enter Try.func38, Try.ntmps38
  go_wp2
  go_ret
  exact ⟨rfl, HB.out, World.grownBy.refl _ _⟩

set_option maxRecDepth 100000 in
set_option maxHeartbeats 400000 in
theorem number_12_P : NumberDoes 12 46 13 false := by
  intro B i s1 s2 s3 s4 s5 s6 s7 s8 s9 w hB
  have c0 : w.cell? ⟨B, 0, none⟩ = some (.int .u8 12) := by rw [cell_of_row w B 0 _ _ _ hB]; rfl
  have f0 : w.frozen? ⟨B, 0, none⟩ = false := frozen_of_row w B 0 _ _ hB
  have HB : Hid _ := hB
  clear hB
  go_enter Try.func38, Try.ntmps38
  go_wp2
  go_ret
  exact ⟨rfl, field_set HB.out 0 _, grown_set w B 0 _⟩

set_option maxRecDepth 100000 in
set_option maxHeartbeats 400000 in
theorem number_12_e : NumberDoes 12 101 15 false := by
  intro B i s1 s2 s3 s4 s5 s6 s7 s8 s9 w hB
  have c0 : w.cell? ⟨B, 0, none⟩ = some (.int .u8 12) := by rw [cell_of_row w B 0 _ _ _ hB]; rfl
  have f0 : w.frozen? ⟨B, 0, none⟩ = false := frozen_of_row w B 0 _ _ hB
  have HB : Hid _ := hB
  clear hB
  go_enter Try.func38, Try.ntmps38
  go_wp2
  go_ret
  exact ⟨rfl, field_set HB.out 0 _, grown_set w B 0 _⟩

set_option maxRecDepth 100000 in
set_option maxHeartbeats 400000 in
theorem number_12_E : NumberDoes 12 69 15 false := by
  intro B i s1 s2 s3 s4 s5 s6 s7 s8 s9 w hB
  have c0 : w.cell? ⟨B, 0, none⟩ = some (.int .u8 12) := by rw [cell_of_row w B 0 _ _ _ hB]; rfl
  have f0 : w.frozen? ⟨B, 0, none⟩ = false := frozen_of_row w B 0 _ _ hB
  have HB : Hid _ := hB
  clear hB
  go_enter Try.func38, Try.ntmps38
  go_wp2
  go_ret
  exact ⟨rfl, field_set HB.out 0 _, grown_set w B 0 _⟩

set_option maxRecDepth 100000 in
set_option maxHeartbeats 400000 in
theorem number_12_M : NumberDoes 12 45 5 true := by
  intro B i s1 s2 s3 s4 s5 s6 s7 s8 s9 w hB
  have c0 : w.cell? ⟨B, 0, none⟩ = some (.int .u8 12) := by rw [cell_of_row w B 0 _ _ _ hB]; rfl
  have f0 : w.frozen? ⟨B, 0, none⟩ = false := frozen_of_row w B 0 _ _ hB
  have HB : Hid _ := hB
  clear hB
  go_enter Try.func38, Try.ntmps38
  go_wp2
  go_ret
  exact ⟨rfl, field_set HB.out 0 _, grown_set w B 0 _⟩

set_option maxRecDepth 100000 in
set_option maxHeartbeats 400000 in
theorem number_12_L : NumberDoes 12 43 5 true := by
  intro B i s1 s2 s3 s4 s5 s6 s7 s8 s9 w hB
  have c0 : w.cell? ⟨B, 0, none⟩ = some (.int .u8 12) := by rw [cell_of_row w B 0 _ _ _ hB]; rfl
  have f0 : w.frozen? ⟨B, 0, none⟩ = false := frozen_of_row w B 0 _ _ hB
  have HB : Hid _ := hB
  clear hB
  go_enter Try.func38, Try.ntmps38
  go_wp2
  go_ret
  exact ⟨rfl, field_set HB.out 0 _, grown_set w B 0 _⟩

set_option maxRecDepth 100000 in
set_option maxHeartbeats 400000 in
theorem number_12_l (c : Int) (h1 : c < 48) (h2 : c ≠ 43) (h3 : c ≠ 45) (h4 : c ≠ 46) : NumberDoes 12 c 5 true := by
  intro B i s1 s2 s3 s4 s5 s6 s7 s8 s9 w hB
  have c0 : w.cell? ⟨B, 0, none⟩ = some (.int .u8 12) := by rw [cell_of_row w B 0 _ _ _ hB]; rfl
  have f0 : w.frozen? ⟨B, 0, none⟩ = false := frozen_of_row w B 0 _ _ hB
  have HB : Hid _ := hB
  clear hB
  have x43 : (c == 43) = false := by simp; omega
  have x45 : (c == 45) = false := by simp; omega
  have x46 : (c == 46) = false := by simp; omega
  have x48 : (c == 48) = false := by simp; omega
  have x69 : (c == 69) = false := by simp; omega
  have x101 : (c == 101) = false := by simp; omega
  go_enter Try.func38, Try.ntmps38
  go_wp2
  go_ret
  exact ⟨rfl, field_set HB.out 0 _, grown_set w B 0 _⟩

set_option maxRecDepth 100000 in
set_option maxHeartbeats 400000 in
theorem number_12_h (c : Int) (h1 : 57 < c) (h2 : c ≠ 69) (h3 : c ≠ 101) : NumberDoes 12 c 5 true := by
  intro B i s1 s2 s3 s4 s5 s6 s7 s8 s9 w hB
  have c0 : w.cell? ⟨B, 0, none⟩ = some (.int .u8 12) := by rw [cell_of_row w B 0 _ _ _ hB]; rfl
  have f0 : w.frozen? ⟨B, 0, none⟩ = false := frozen_of_row w B 0 _ _ hB
  have HB : Hid _ := hB
  clear hB
  have x43 : (c == 43) = false := by simp; omega
  have x45 : (c == 45) = false := by simp; omega
  have x46 : (c == 46) = false := by simp; omega
  have x48 : (c == 48) = false := by simp; omega
  have x69 : (c == 69) = false := by simp; omega
  have x101 : (c == 101) = false := by simp; omega
  go_enter Try.func38, Try.ntmps38
  go_wp2
  go_ret
  exact ⟨rfl, field_set HB.out 0 _, grown_set w B 0 _⟩

set_option maxRecDepth 100000 in
set_option maxHeartbeats 400000 in
theorem number_13_Z : NumberDoes 13 48 14 false := by
  intro B i s1 s2 s3 s4 s5 s6 s7 s8 s9 w hB
  have c0 : w.cell? ⟨B, 0, none⟩ = some (.int .u8 13) := by rw [cell_of_row w B 0 _ _ _ hB]; rfl
  have f0 : w.frozen? ⟨B, 0, none⟩ = false := frozen_of_row w B 0 _ _ hB
  have HB : Hid _ := hB
  clear hB
  go_enter Try.func38, Try.ntmps38
  go_wp2
  go_ret
  exact ⟨rfl, field_set HB.out 0 _, grown_set w B 0 _⟩

set_option maxRecDepth 100000 in
set_option maxHeartbeats 400000 in
theorem number_13_D (c : Int) (h1 : 49 ≤ c) (h2 : c ≤ 57) : NumberDoes 13 c 14 false := by
  intro B i s1 s2 s3 s4 s5 s6 s7 s8 s9 w hB
  have c0 : w.cell? ⟨B, 0, none⟩ = some (.int .u8 13) := by rw [cell_of_row w B 0 _ _ _ hB]; rfl
  have f0 : w.frozen? ⟨B, 0, none⟩ = false := frozen_of_row w B 0 _ _ hB
  have HB : Hid _ := hB
  clear hB
  have x43 : (c == 43) = false := by simp; omega
  have x45 : (c == 45) = false := by simp; omega
  have x46 : (c == 46) = false := by simp; omega
  have x48 : (c == 48) = false := by simp; omega
  have x69 : (c == 69) = false := by simp; omega
  have x101 : (c == 101) = false := by simp; omega
  go_enter Try.func38, Try.ntmps38
  go_wp2
  go_ret
  exact ⟨rfl, field_set HB.out 0 _, grown_set w B 0 _⟩

set_option maxRecDepth 100000 in
set_option maxHeartbeats 400000 in
theorem number_13_P : NumberDoes 13 46 18 false := by
  intro B i s1 s2 s3 s4 s5 s6 s7 s8 s9 w hB
  have c0 : w.cell? ⟨B, 0, none⟩ = some (.int .u8 13) := by rw [cell_of_row w B 0 _ _ _ hB]; rfl
  have f0 : w.frozen? ⟨B, 0, none⟩ = false := frozen_of_row w B 0 _ _ hB
  have HB : Hid _ := hB
  clear hB
  go_enter Try.func38, Try.ntmps38
  go_wp2
  go_ret
  exact ⟨rfl, field_set HB.out 0 _, grown_set w B 0 _⟩

set_option maxRecDepth 100000 in
set_option maxHeartbeats 400000 in
theorem number_13_e : NumberDoes 13 101 18 false := by
  intro B i s1 s2 s3 s4 s5 s6 s7 s8 s9 w hB
  have c0 : w.cell? ⟨B, 0, none⟩ = some (.int .u8 13) := by rw [cell_of_row w B 0 _ _ _ hB]; rfl
  have f0 : w.frozen? ⟨B, 0, none⟩ = false := frozen_of_row w B 0 _ _ hB
  have HB : Hid _ := hB
  clear hB
  go_enter Try.func38, Try.ntmps38
  go_wp2
  go_ret
  exact ⟨rfl, field_set HB.out 0 _, grown_set w B 0 _⟩

set_option maxRecDepth 100000 in
set_option maxHeartbeats 400000 in
theorem number_13_E : NumberDoes 13 69 18 false := by
  intro B i s1 s2 s3 s4 s5 s6 s7 s8 s9 w hB
  have c0 : w.cell? ⟨B, 0, none⟩ = some (.int .u8 13) := by rw [cell_of_row w B 0 _ _ _ hB]; rfl
  have f0 : w.frozen? ⟨B, 0, none⟩ = false := frozen_of_row w B 0 _ _ hB
  have HB : Hid _ := hB
  clear hB
  go_enter Try.func38, Try.ntmps38
  go_wp2
  go_ret
  exact ⟨rfl, field_set HB.out 0 _, grown_set w B 0 _⟩

set_option maxRecDepth 100000 in
set_option maxHeartbeats 400000 in
theorem number_13_M : NumberDoes 13 45 18 false := by
  intro B i s1 s2 s3 s4 s5 s6 s7 s8 s9 w hB
  have c0 : w.cell? ⟨B, 0, none⟩ = some (.int .u8 13) := by rw [cell_of_row w B 0 _ _ _ hB]; rfl
  have f0 : w.frozen? ⟨B, 0, none⟩ = false := frozen_of_row w B 0 _ _ hB
  have HB : Hid _ := hB
  clear hB
  go_enter Try.func38, Try.ntmps38
  go_wp2
  go_ret
  exact ⟨rfl, field_set HB.out 0 _, grown_set w B 0 _⟩

set_option maxRecDepth 100000 in
set_option maxHeartbeats 400000 in
theorem number_13_L : NumberDoes 13 43 18 false := by
  intro B i s1 s2 s3 s4 s5 s6 s7 s8 s9 w hB
  have c0 : w.cell? ⟨B, 0, none⟩ = some (.int .u8 13) := by rw [cell_of_row w B 0 _ _ _ hB]; rfl
  have f0 : w.frozen? ⟨B, 0, none⟩ = false := frozen_of_row w B 0 _ _ hB
  have HB : Hid _ := hB
  clear hB
  go_enter Try.func38, Try.ntmps38
  go_wp2
  go_ret
  exact ⟨rfl, field_set HB.out 0 _, grown_set w B 0 _⟩

set_option maxRecDepth 100000 in
set_option maxHeartbeats 400000 in
theorem number_13_l (c : Int) (h1 : c < 48) (h2 : c ≠ 43) (h3 : c ≠ 45) (h4 : c ≠ 46) : NumberDoes 13 c 18 false := by
  intro B i s1 s2 s3 s4 s5 s6 s7 s8 s9 w hB
  have c0 : w.cell? ⟨B, 0, none⟩ = some (.int .u8 13) := by rw [cell_of_row w B 0 _ _ _ hB]; rfl
  have f0 : w.frozen? ⟨B, 0, none⟩ = false := frozen_of_row w B 0 _ _ hB
  have HB : Hid _ := hB
  clear hB
  have x43 : (c == 43) = false := by simp; omega
  have x45 : (c == 45) = false := by simp; omega
  have x46 : (c == 46) = false := by simp; omega
  have x48 : (c == 48) = false := by simp; omega
  have x69 : (c == 69) = false := by simp; omega
  have x101 : (c == 101) = false := by simp; omega
  go_enter Try.func38, Try.ntmps38
  go_wp2
  go_ret
  exact ⟨rfl, field_set HB.out 0 _, grown_set w B 0 _⟩

set_option maxRecDepth 100000 in
set_option maxHeartbeats 400000 in
theorem number_13_h (c : Int) (h1 : 57 < c) (h2 : c ≠ 69) (h3 : c ≠ 101) : NumberDoes 13 c 18 false := by
  intro B i s1 s2 s3 s4 s5 s6 s7 s8 s9 w hB
  have c0 : w.cell? ⟨B, 0, none⟩ = some (.int .u8 13) := by rw [cell_of_row w B 0 _ _ _ hB]; rfl
  have f0 : w.frozen? ⟨B, 0, none⟩ = false := frozen_of_row w B 0 _ _ hB
  have HB : Hid _ := hB
  clear hB
  have x43 : (c == 43) = false := by simp; omega
  have x45 : (c == 45) = false := by simp; omega
  have x46 : (c == 46) = false := by simp; omega
  have x48 : (c == 48) = false := by simp; omega
  have x69 : (c == 69) = false := by simp; omega
  have x101 : (c == 101) = false := by simp; omega
  go_enter Try.func38, Try.ntmps38
  go_wp2
  go_ret
  exact ⟨rfl, field_set HB.out 0 _, grown_set w B 0 _⟩
end Go.Proofs.Qxb6602542a
