import Derived.Test.Qxb6602542aBeginA
namespace Go.Proofs.Qxb6602542a
open Go.RowKit

set_option maxRecDepth 100000 in
set_option maxHeartbeats 1000000 in
theorem begin_low (st lim ob : Int) (d : Nat) (a : Option Addr) (n c : Nat) (zs : List Int) (key : Bool) (left : ByteArray) (hex vals oab : Int) (ch : Int) (w : World)
    (hz : Elems .u8 w a n zs) (ha : a = none → n = 0 ∧ c = 0) (hob1 : 0 ≤ ob) (hob2 : ob < 18446744073709551616)
    (h3 : (n : Int) + left.size ≤ 1048576) (hd : d ≤ 65536) (hu : n = want d) (hd1 : ch < 49) (e1 : ch ≠ 34) (e2 : ch ≠ 45) (e3 : ch ≠ 48) :
    Calls Try.prog 5 #[.int .u8 st, .int .i64 lim, .int .i64 d, .int .u64 ob, .slice a n c, .bool key, .string left, .int .i64 hex, .int .i64 vals, .int .i64 oab, .int .u8 ch] w fun e w' => e = .returned (.bool true) ∧ Below w.heap.size w w' := by
  have h1 : (n : Int) ≤ 1048576 := by omega
  have h2 : (left.size : Int) ≤ 1048576 := by omega
  have x123 : (ch == 123) = false := by simp; omega
  have x91 : (ch == 91) = false := by simp; omega
  have x34 : (ch == 34) = false := by simp; omega
  have x116 : (ch == 116) = false := by simp; omega
  have x102 : (ch == 102) = false := by simp; omega
  have x110 : (ch == 110) = false := by simp; omega
  have x45 : (ch == 45) = false := by simp; omega
  have x48 : (ch == 48) = false := by simp; omega
  have HU : Hid (n = want d) := hu
  clear hu
  go_enter Try.func5, Try.ntmps5
  go_wp2_with (go_at_call 23; go_in)
  refine (clone_any _ _ _ zs _ (by omega) hz ha).mono ?_
  rintro e w1 ⟨a1, c1, rfl, hown1, hb1⟩
  go_wp2_with fail
  refine (stack_ok _ _ _ _ _ zs _ (by omega) HU.out (ownsRow_elems hown1)).mono ?_
  rintro e w2 ⟨a2, c2, rfl, hown2, hb2⟩
  go_wp2_with (first | (go_at_call 10; go_in) | (go_at_call 24; go_in) | (go_at_call 37; go_in))
  go_end0
  go_wp2_with fail
  go_end0
  go_wp2_with (first | (go_at_call 12; go_in) | (go_at_call 25; go_in) | (go_at_call 26; go_in) | (go_at_call 27; go_in) | (go_at_call 13; go_in) | (go_at_call 14; go_in) | (go_at_call 15; go_in) | (go_at_call 17; go_in) | (go_at_call 18; go_in) | (go_at_call 19; go_in))
  have he1 := ((ownsRow_elems hown1).below hb2).below ((Below.refl _ w2).alloc (Nat.le_refl _) (Obj.cells #[.int .u8 18, .int .i64 lim, .int .i64 d, .int .u64 ob, .slice a1 n c1, .bool key, .string left, .int .i64 hex, .int .i64 (wrap64 (vals + 1)), .int .i64 oab] 54))
  refine (stack_ok _ _ _ _ _ zs _ (by omega) HU.out ?he).mono ?_
  case he => exact he1
  rintro e w3 ⟨a3, c3, rfl, hown3, hb3⟩
  have he2 : Elems .u8 w3 a2 d (stackOf d ob zs) := by
    refine Elems.below ?_ hb3
    exact (ownsRow_elems hown2).below ((Below.refl _ w2).alloc (Nat.le_refl _) (Obj.cells #[.int .u8 18, .int .i64 lim, .int .i64 d, .int .u64 ob, .slice a1 n c1, .bool key, .string left, .int .i64 hex, .int .i64 (wrap64 (vals + 1)), .int .i64 oab] 54))
  have he3 := ownsRow_elems hown3
  obtain ⟨hc3, hf3⟩ := bcell hb3
  have hobj : w3.cell? ⟨w2.heap.size, 3, none⟩ = some (.int .u64 ob) := by rw [hc3 _ _ (by simp)]; simp
  clear hc3 hf3
  go_wp2_with fail
  refine (equal_same _ _ _ _ _ _ _ (by omega) he3 he2).mono ?_
  rintro e w4 ⟨rfl, q, rfl⟩
  have hx0 := xor_self ob hob1 hob2
  go_wp2_with (go_at_call 18; go_in)
  go_ret
  have hB := (hb1.trans (hb2.mono hb1.size)).alloc (Nat.le_trans hb1.size hb2.size) (Obj.cells #[.int .u8 18, .int .i64 lim, .int .i64 d, .int .u64 ob, .slice a1 n c1, .bool key, .string left, .int .i64 hex, .int .i64 (wrap64 (vals + 1)), .int .i64 oab] 54)
  refine ⟨rfl, below_drewN (Below.trans ?_ (hb3.mono ?_)) _⟩
  · exact hB
  · simp; exact Nat.le_succ_of_le (Nat.le_trans hb1.size hb2.size)

set_option maxRecDepth 100000 in
set_option maxHeartbeats 1000000 in
theorem begin_high (st lim ob : Int) (d : Nat) (a : Option Addr) (n c : Nat) (zs : List Int) (key : Bool) (left : ByteArray) (hex vals oab : Int) (ch : Int) (w : World)
    (hz : Elems .u8 w a n zs) (ha : a = none → n = 0 ∧ c = 0) (hob1 : 0 ≤ ob) (hob2 : ob < 18446744073709551616)
    (h3 : (n : Int) + left.size ≤ 1048576) (hd : d ≤ 65536) (hu : n = want d) (hd1 : 57 < ch) (e1 : ch ≠ 123) (e2 : ch ≠ 91) (e3 : ch ≠ 116) (e4 : ch ≠ 102) (e5 : ch ≠ 110) :
    Calls Try.prog 5 #[.int .u8 st, .int .i64 lim, .int .i64 d, .int .u64 ob, .slice a n c, .bool key, .string left, .int .i64 hex, .int .i64 vals, .int .i64 oab, .int .u8 ch] w fun e w' => e = .returned (.bool true) ∧ Below w.heap.size w w' := by
  have h1 : (n : Int) ≤ 1048576 := by omega
  have h2 : (left.size : Int) ≤ 1048576 := by omega
  have x123 : (ch == 123) = false := by simp; omega
  have x91 : (ch == 91) = false := by simp; omega
  have x34 : (ch == 34) = false := by simp; omega
  have x116 : (ch == 116) = false := by simp; omega
  have x102 : (ch == 102) = false := by simp; omega
  have x110 : (ch == 110) = false := by simp; omega
  have x45 : (ch == 45) = false := by simp; omega
  have x48 : (ch == 48) = false := by simp; omega
  have HU : Hid (n = want d) := hu
  clear hu
  go_enter Try.func5, Try.ntmps5
  go_wp2_with (go_at_call 23; go_in)
  refine (clone_any _ _ _ zs _ (by omega) hz ha).mono ?_
  rintro e w1 ⟨a1, c1, rfl, hown1, hb1⟩
  go_wp2_with fail
  refine (stack_ok _ _ _ _ _ zs _ (by omega) HU.out (ownsRow_elems hown1)).mono ?_
  rintro e w2 ⟨a2, c2, rfl, hown2, hb2⟩
  go_wp2_with (first | (go_at_call 10; go_in) | (go_at_call 24; go_in) | (go_at_call 37; go_in))
  go_end0
  go_wp2_with fail
  go_end0
  go_wp2_with (first | (go_at_call 12; go_in) | (go_at_call 25; go_in) | (go_at_call 26; go_in) | (go_at_call 27; go_in) | (go_at_call 13; go_in) | (go_at_call 14; go_in) | (go_at_call 15; go_in) | (go_at_call 17; go_in) | (go_at_call 18; go_in) | (go_at_call 19; go_in))
  have he1 := ((ownsRow_elems hown1).below hb2).below ((Below.refl _ w2).alloc (Nat.le_refl _) (Obj.cells #[.int .u8 18, .int .i64 lim, .int .i64 d, .int .u64 ob, .slice a1 n c1, .bool key, .string left, .int .i64 hex, .int .i64 (wrap64 (vals + 1)), .int .i64 oab] 54))
  refine (stack_ok _ _ _ _ _ zs _ (by omega) HU.out ?he).mono ?_
  case he => exact he1
  rintro e w3 ⟨a3, c3, rfl, hown3, hb3⟩
  have he2 : Elems .u8 w3 a2 d (stackOf d ob zs) := by
    refine Elems.below ?_ hb3
    exact (ownsRow_elems hown2).below ((Below.refl _ w2).alloc (Nat.le_refl _) (Obj.cells #[.int .u8 18, .int .i64 lim, .int .i64 d, .int .u64 ob, .slice a1 n c1, .bool key, .string left, .int .i64 hex, .int .i64 (wrap64 (vals + 1)), .int .i64 oab] 54))
  have he3 := ownsRow_elems hown3
  obtain ⟨hc3, hf3⟩ := bcell hb3
  have hobj : w3.cell? ⟨w2.heap.size, 3, none⟩ = some (.int .u64 ob) := by rw [hc3 _ _ (by simp)]; simp
  clear hc3 hf3
  go_wp2_with fail
  refine (equal_same _ _ _ _ _ _ _ (by omega) he3 he2).mono ?_
  rintro e w4 ⟨rfl, q, rfl⟩
  have hx0 := xor_self ob hob1 hob2
  go_wp2_with (go_at_call 18; go_in)
  go_ret
  have hB := (hb1.trans (hb2.mono hb1.size)).alloc (Nat.le_trans hb1.size hb2.size) (Obj.cells #[.int .u8 18, .int .i64 lim, .int .i64 d, .int .u64 ob, .slice a1 n c1, .bool key, .string left, .int .i64 hex, .int .i64 (wrap64 (vals + 1)), .int .i64 oab] 54)
  refine ⟨rfl, below_drewN (Below.trans ?_ (hb3.mono ?_)) _⟩
  · exact hB
  · simp; exact Nat.le_succ_of_le (Nat.le_trans hb1.size hb2.size)
end Go.Proofs.Qxb6602542a
