import Derived.Test.Qxb6602542aOpen
namespace Go.Proofs.Qxb6602542a
open Go.RowKit

set_option maxRecDepth 100000 in
set_option maxHeartbeats 1000000 in
theorem begin_lim123 (st ob : Int) (d : Nat) (a : Option Addr) (n c : Nat) (zs : List Int) (key : Bool) (left : ByteArray) (hex vals oab : Int) (w : World)
    (hz : Elems .u8 w a n zs) (ha : a = none → n = 0 ∧ c = 0) (hob1 : 0 ≤ ob) (hob2 : ob < 18446744073709551616)
    (h3 : (n : Int) + left.size ≤ 1048576) (hd : d ≤ 65536) (hu : n = want d) :
    Calls Try.prog 5 #[.int .u8 st, .int .i64 d, .int .i64 d, .int .u64 ob, .slice a n c, .bool key, .string left, .int .i64 hex, .int .i64 vals, .int .i64 oab, .int .u8 123] w fun e w' => e = .returned (.bool true) ∧ Below w.heap.size w w' := by
  have h1 : (n : Int) ≤ 1048576 := by omega
  have h2 : (left.size : Int) ≤ 1048576 := by omega
  have HU : Hid (n = want d) := hu
  clear hu
  go_enter Try.func5, Try.ntmps5
  go_wp2_with (go_at_call 23; go_in)
  refine (clone_any _ _ _ zs _ (by omega) hz ha).mono ?_
  rintro e w1 ⟨a1, c1, rfl, hown1, hb1⟩
  go_wp2_with fail
  refine (stack_ok _ _ _ _ _ zs _ (by omega) HU.out (ownsRow_elems hown1)).mono ?_
  rintro e w2 ⟨a2, c2, rfl, hown2, hb2⟩
  have hs1 := hb1.size
  have hs2 := hb2.size
  have hlt2 : ∀ g, (Value.slice a2 d c2).ownBlock = some g → w1.heap.size ≤ g ∧ g < w2.heap.size := hown2.lt
  have hlt1 : ∀ g, (Value.slice a1 n c1).ownBlock = some g → w.heap.size ≤ g ∧ g < w1.heap.size := hown1.lt
  have HL2 : Hid _ := hlt2
  have HL1 : Hid _ := hlt1
  clear hlt1 hlt2
  go_wp2_with (first | (go_at_call 10; go_in) | (go_at_call 24; go_in))
  refine (begins_lim123 w2.heap.size d ob vals oab (.int .u8 st) (.slice a1 n c1) (.bool key) (.string left) (.int .i64 hex) _ (heap_alloc_new w2 _)).mono ?_
  rintro e w3 ⟨rfl, hB3, hg3⟩
  have hb3 : Below w2.heap.size w2 w3 := ((Below.refl _ w2).alloc (Nat.le_refl _) _).grown hg3 (by simp) (fun k hk => by cases hk; exact Nat.le_refl _)
  have hs3 : w2.heap.size < w3.heap.size := by have := hg3.size; simp at this; omega
  have w30 : w3.cell? ⟨w2.heap.size, 0, none⟩ = some (.int .u8 18) := by rw [cell_of_row w3 _ 0 _ _ _ hB3]; rfl
  have w31 : w3.cell? ⟨w2.heap.size, 1, none⟩ = some (.int .i64 d) := by rw [cell_of_row w3 _ 1 _ _ _ hB3]; rfl
  have w32 : w3.cell? ⟨w2.heap.size, 2, none⟩ = some (.int .i64 d) := by rw [cell_of_row w3 _ 2 _ _ _ hB3]; rfl
  have w33 : w3.cell? ⟨w2.heap.size, 3, none⟩ = some (.int .u64 ob) := by rw [cell_of_row w3 _ 3 _ _ _ hB3]; rfl
  have w34 : w3.cell? ⟨w2.heap.size, 4, none⟩ = some (.slice a1 n c1) := by rw [cell_of_row w3 _ 4 _ _ _ hB3]; rfl
  have w35 : w3.cell? ⟨w2.heap.size, 5, none⟩ = some (.bool key) := by rw [cell_of_row w3 _ 5 _ _ _ hB3]; rfl
  have w36 : w3.cell? ⟨w2.heap.size, 6, none⟩ = some (.string left) := by rw [cell_of_row w3 _ 6 _ _ _ hB3]; rfl
  have w37 : w3.cell? ⟨w2.heap.size, 7, none⟩ = some (.int .i64 hex) := by rw [cell_of_row w3 _ 7 _ _ _ hB3]; rfl
  have w38 : w3.cell? ⟨w2.heap.size, 8, none⟩ = some (.int .i64 (wrap64 (vals + 1))) := by rw [cell_of_row w3 _ 8 _ _ _ hB3]; rfl
  have w39 : w3.cell? ⟨w2.heap.size, 9, none⟩ = some (.int .i64 (wrap64 (oab + 1))) := by rw [cell_of_row w3 _ 9 _ _ _ hB3]; rfl
  clear hg3
  have HB3 : Hid _ := hB3
  clear hB3
  go_wp2_with fail
  go_end0
  go_wp2_with (first | (go_at_call 12; go_in) | (go_at_call 25; go_in) | (go_at_call 26; go_in) | (go_at_call 27; go_in) | (go_at_call 13; go_in) | (go_at_call 14; go_in) | (go_at_call 15; go_in) | (go_at_call 17; go_in) | (go_at_call 18; go_in) | (go_at_call 19; go_in))
  have he1 := ((ownsRow_elems hown1).below hb2).below hb3
  refine (stack_ok _ _ _ _ _ zs _ (by omega) HU.out he1).mono ?_
  rintro e w4 ⟨a3, c3, rfl, hown3, hb4⟩
  have he2 := ((ownsRow_elems hown2).below hb3).below hb4
  have he3 := ownsRow_elems hown3
  have hobj : w4.cell? ⟨w2.heap.size, 3, none⟩ = some (.int .u64 ob) := by rw [hb4.cell (by exact hs3)]; exact w33
  go_wp2_with fail
  refine (equal_same _ _ _ _ _ _ _ (by omega) he3 he2).mono ?_
  rintro e w5 ⟨rfl, q, rfl⟩
  have hx0 := xor_self ob hob1 hob2
  go_wp2_with (go_at_call 18; go_in)
  go_ret
  exact ⟨rfl, below_drewN (((hb1.trans (hb2.mono hs1)).trans (hb3.mono (by omega))).trans (hb4.mono (by omega))) _⟩

set_option maxRecDepth 100000 in
set_option maxHeartbeats 1000000 in
theorem begin_lim91 (st ob : Int) (d : Nat) (a : Option Addr) (n c : Nat) (zs : List Int) (key : Bool) (left : ByteArray) (hex vals oab : Int) (w : World)
    (hz : Elems .u8 w a n zs) (ha : a = none → n = 0 ∧ c = 0) (hob1 : 0 ≤ ob) (hob2 : ob < 18446744073709551616)
    (h3 : (n : Int) + left.size ≤ 1048576) (hd : d ≤ 65536) (hu : n = want d) :
    Calls Try.prog 5 #[.int .u8 st, .int .i64 d, .int .i64 d, .int .u64 ob, .slice a n c, .bool key, .string left, .int .i64 hex, .int .i64 vals, .int .i64 oab, .int .u8 91] w fun e w' => e = .returned (.bool true) ∧ Below w.heap.size w w' := by
  have h1 : (n : Int) ≤ 1048576 := by omega
  have h2 : (left.size : Int) ≤ 1048576 := by omega
  have HU : Hid (n = want d) := hu
  clear hu
  go_enter Try.func5, Try.ntmps5
  go_wp2_with (go_at_call 23; go_in)
  refine (clone_any _ _ _ zs _ (by omega) hz ha).mono ?_
  rintro e w1 ⟨a1, c1, rfl, hown1, hb1⟩
  go_wp2_with fail
  refine (stack_ok _ _ _ _ _ zs _ (by omega) HU.out (ownsRow_elems hown1)).mono ?_
  rintro e w2 ⟨a2, c2, rfl, hown2, hb2⟩
  have hs1 := hb1.size
  have hs2 := hb2.size
  have hlt2 : ∀ g, (Value.slice a2 d c2).ownBlock = some g → w1.heap.size ≤ g ∧ g < w2.heap.size := hown2.lt
  have hlt1 : ∀ g, (Value.slice a1 n c1).ownBlock = some g → w.heap.size ≤ g ∧ g < w1.heap.size := hown1.lt
  have HL2 : Hid _ := hlt2
  have HL1 : Hid _ := hlt1
  clear hlt1 hlt2
  go_wp2_with (first | (go_at_call 10; go_in) | (go_at_call 24; go_in))
  refine (begins_lim91 w2.heap.size d ob vals oab (.int .u8 st) (.slice a1 n c1) (.bool key) (.string left) (.int .i64 hex) _ (heap_alloc_new w2 _)).mono ?_
  rintro e w3 ⟨rfl, hB3, hg3⟩
  have hb3 : Below w2.heap.size w2 w3 := ((Below.refl _ w2).alloc (Nat.le_refl _) _).grown hg3 (by simp) (fun k hk => by cases hk; exact Nat.le_refl _)
  have hs3 : w2.heap.size < w3.heap.size := by have := hg3.size; simp at this; omega
  have w30 : w3.cell? ⟨w2.heap.size, 0, none⟩ = some (.int .u8 18) := by rw [cell_of_row w3 _ 0 _ _ _ hB3]; rfl
  have w31 : w3.cell? ⟨w2.heap.size, 1, none⟩ = some (.int .i64 d) := by rw [cell_of_row w3 _ 1 _ _ _ hB3]; rfl
  have w32 : w3.cell? ⟨w2.heap.size, 2, none⟩ = some (.int .i64 d) := by rw [cell_of_row w3 _ 2 _ _ _ hB3]; rfl
  have w33 : w3.cell? ⟨w2.heap.size, 3, none⟩ = some (.int .u64 ob) := by rw [cell_of_row w3 _ 3 _ _ _ hB3]; rfl
  have w34 : w3.cell? ⟨w2.heap.size, 4, none⟩ = some (.slice a1 n c1) := by rw [cell_of_row w3 _ 4 _ _ _ hB3]; rfl
  have w35 : w3.cell? ⟨w2.heap.size, 5, none⟩ = some (.bool key) := by rw [cell_of_row w3 _ 5 _ _ _ hB3]; rfl
  have w36 : w3.cell? ⟨w2.heap.size, 6, none⟩ = some (.string left) := by rw [cell_of_row w3 _ 6 _ _ _ hB3]; rfl
  have w37 : w3.cell? ⟨w2.heap.size, 7, none⟩ = some (.int .i64 hex) := by rw [cell_of_row w3 _ 7 _ _ _ hB3]; rfl
  have w38 : w3.cell? ⟨w2.heap.size, 8, none⟩ = some (.int .i64 (wrap64 (vals + 1))) := by rw [cell_of_row w3 _ 8 _ _ _ hB3]; rfl
  have w39 : w3.cell? ⟨w2.heap.size, 9, none⟩ = some (.int .i64 oab) := by rw [cell_of_row w3 _ 9 _ _ _ hB3]; rfl
  clear hg3
  have HB3 : Hid _ := hB3
  clear hB3
  go_wp2_with fail
  go_end0
  go_wp2_with (first | (go_at_call 12; go_in) | (go_at_call 25; go_in) | (go_at_call 26; go_in) | (go_at_call 27; go_in) | (go_at_call 13; go_in) | (go_at_call 14; go_in) | (go_at_call 15; go_in) | (go_at_call 17; go_in) | (go_at_call 18; go_in) | (go_at_call 19; go_in))
  have he1 := ((ownsRow_elems hown1).below hb2).below hb3
  refine (stack_ok _ _ _ _ _ zs _ (by omega) HU.out he1).mono ?_
  rintro e w4 ⟨a3, c3, rfl, hown3, hb4⟩
  have he2 := ((ownsRow_elems hown2).below hb3).below hb4
  have he3 := ownsRow_elems hown3
  have hobj : w4.cell? ⟨w2.heap.size, 3, none⟩ = some (.int .u64 ob) := by rw [hb4.cell (by exact hs3)]; exact w33
  go_wp2_with fail
  refine (equal_same _ _ _ _ _ _ _ (by omega) he3 he2).mono ?_
  rintro e w5 ⟨rfl, q, rfl⟩
  have hx0 := xor_self ob hob1 hob2
  go_wp2_with (go_at_call 18; go_in)
  go_ret
  exact ⟨rfl, below_drewN (((hb1.trans (hb2.mono hs1)).trans (hb3.mono (by omega))).trans (hb4.mono (by omega))) _⟩
end Go.Proofs.Qxb6602542a
