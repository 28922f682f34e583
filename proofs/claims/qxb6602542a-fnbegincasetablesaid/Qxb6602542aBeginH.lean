import Derived.Test.Qxb6602542aOpen
namespace Go.Proofs.Qxb6602542a
open Go.RowKit

set_option maxRecDepth 100000 in
set_option maxHeartbeats 1000000 in
theorem begin_flat123 (st lim ob : Int) (d : Nat) (a : Option Addr) (n c : Nat) (zs : List Int) (key : Bool) (left : ByteArray) (hex vals oab : Int) (w : World)
    (hz : Elems .u8 w a n zs) (ha : a = none → n = 0 ∧ c = 0) (hob1 : 0 ≤ ob) (hob2 : ob < 18446744073709551616)
    (h3 : (n : Int) + left.size ≤ 1048576) (hd : d ≤ 65536) (hu : n = want d) (hdd : d < 64) (hlim : lim ≠ d) :
    Calls Try.prog 5 #[.int .u8 st, .int .i64 lim, .int .i64 d, .int .u64 ob, .slice a n c, .bool key, .string left, .int .i64 hex, .int .i64 vals, .int .i64 oab, .int .u8 123] w fun e w' => e = .returned (.bool true) ∧ Below w.heap.size w w' := by
  have h1 : (n : Int) ≤ 1048576 := by omega
  have h2 : (left.size : Int) ≤ 1048576 := by omega
  have hne : ((d : Int) == lim) = false := by simp; omega
  have hne2 : ((d : Int) != lim) = true := by simp; omega
  have hnn : n ≤ 65600 := by unfold want at hu; omega
  have HU : Hid (n = want d) := hu
  clear hu
  go_enter Try.func5, Try.ntmps5
  go_wp2_with (go_at_call 23; go_in)
  refine (clone_any _ _ _ zs _ (by omega) hz ha).mono ?_
  rintro e w1 ⟨a1, c1, rfl, hown1, hb1⟩
  go_wp2_with fail
  refine (stack_ok2 _ _ _ _ _ zs _ (by omega) HU.out (ownsRow_elems hown1)).mono ?_
  rintro e w2 ⟨a2, rfl, hown2, hb2⟩
  have hs1 := hb1.size
  have hs2 := hb2.size
  have hlt2 : ∀ g, (Value.slice a2 d d).ownBlock = some g → w1.heap.size ≤ g ∧ g < w2.heap.size := hown2.lt
  have hlt1 : ∀ g, (Value.slice a1 n c1).ownBlock = some g → w.heap.size ≤ g ∧ g < w1.heap.size := hown1.lt
  have HL2 : Hid _ := hlt2
  have HL1 : Hid _ := hlt1
  clear hlt1 hlt2
  go_wp2_with (first | (go_at_call 10; go_in) | (go_at_call 24; go_in))
  refine (opens_flat123 w2.heap.size d lim ob vals oab (.int .u8 st) (.slice a1 n c1) (.bool key) (.string left) (.int .i64 hex) _ hdd hne (heap_alloc_new w2 _)).mono ?_
  rintro e w3 ⟨rfl, hB3, hg3⟩
  have hs3 : w2.heap.size < w3.heap.size := by have := hg3.size; simp at this; omega
  have hbb3 : Below w2.heap.size w2 w3 := ((Below.refl _ w2).alloc (Nat.le_refl _) _).grown hg3 (by simp) (fun k hk => by cases hk; exact Nat.le_refl _)
  have hownB : w3.ownsRow w1.heap.size 5 1 (.slice a2 d d) d ((stackOf d ob zs).map (Value.int .u8)) :=
    ownsRow_same hown2 (fun g hg => hbb3.block g (HL2.out g hg).2)
  have hown1' : w3.ownsRow w.heap.size 5 1 (.slice a1 n c1) n (zs.map (Value.int .u8)) :=
    ownsRow_same hown1 (fun g hg => by have := HL1.out g hg; rw [hbb3.block g (by omega), hb2.block g (by omega)])
  have hb3 : Below w.heap.size w w3 := (hb1.trans (hb2.mono hs1)).trans (hbb3.mono (by omega))
  clear hg3 hbb3
  obtain ⟨o', ho'⟩ : ∃ o', o' = bits .or .u64 ob (IntKind.u64.wrap (2 ^ d)) := ⟨_, rfl⟩
  have hlaw := setBit ob d hob1 hob2 hdd
  rw [← ho'] at hB3
  simp only [← ho'] at hlaw
  obtain ⟨ho1, ho2, hbrs, hxor⟩ := hlaw
  have HS : Hid _ := hbrs
  clear ho' hbrs
  obtain ⟨D, hD⟩ : ∃ D, D = d + 1 := ⟨_, rfl⟩
  rw [← hD] at hB3
  have HD : Hid _ := hD
  have hDb : D ≤ 65600 := by omega
  clear hD
  have w30 : w3.cell? ⟨w2.heap.size, 0, none⟩ = some (.int .u8 2) := by rw [cell_of_row w3 _ 0 _ _ _ hB3]; rfl
  have w31 : w3.cell? ⟨w2.heap.size, 1, none⟩ = some (.int .i64 lim) := by rw [cell_of_row w3 _ 1 _ _ _ hB3]; rfl
  have w32 : w3.cell? ⟨w2.heap.size, 2, none⟩ = some (.int .i64 D) := by rw [cell_of_row w3 _ 2 _ _ _ hB3]; rfl
  have w33 : w3.cell? ⟨w2.heap.size, 3, none⟩ = some (.int .u64 o') := by rw [cell_of_row w3 _ 3 _ _ _ hB3]; rfl
  have w34 : w3.cell? ⟨w2.heap.size, 4, none⟩ = some (.slice a1 n c1) := by rw [cell_of_row w3 _ 4 _ _ _ hB3]; rfl
  have w35 : w3.cell? ⟨w2.heap.size, 5, none⟩ = some (.bool key) := by rw [cell_of_row w3 _ 5 _ _ _ hB3]; rfl
  have w36 : w3.cell? ⟨w2.heap.size, 6, none⟩ = some (.string left) := by rw [cell_of_row w3 _ 6 _ _ _ hB3]; rfl
  have w37 : w3.cell? ⟨w2.heap.size, 7, none⟩ = some (.int .i64 hex) := by rw [cell_of_row w3 _ 7 _ _ _ hB3]; rfl
  have w38 : w3.cell? ⟨w2.heap.size, 8, none⟩ = some (.int .i64 (wrap64 (vals + 1))) := by rw [cell_of_row w3 _ 8 _ _ _ hB3]; rfl
  have w39 : w3.cell? ⟨w2.heap.size, 9, none⟩ = some (.int .i64 (wrap64 (oab + 1))) := by rw [cell_of_row w3 _ 9 _ _ _ hB3]; rfl
  have HB3 : Hid _ := hB3
  clear hB3
  obtain ⟨i0, hi, hz0, hz1, hz2⟩ := info_parts Try.info5
  go_wp2_with fail
  go_end0
  have hnone : a2 = none → d = 0 ∧ d = 0 := by
    intro e
    rcases hownB.2 with ⟨_, h⟩ | ⟨g, cap, _, h, _⟩
    · exact ⟨h, h⟩
    · rw [e] at h; simp at h
  have holds : ∀ b, a2 = some b → ∀ j u, ((stackOf d ob zs).map (Value.int .u8))[j]? = some u → w3.cell? (b.add j) = some u := by
    intro b e j u hu
    rcases hownB.2 with ⟨h, _⟩ | ⟨g, cap, _, h, _⟩
    · rw [e] at h; simp at h
    · rw [e] at h
      simp only [Value.slice.injEq, Option.some.injEq] at h
      rw [h.1]
      exact hownB.cells (by rw [e, h.1]; rfl) j u hu
  have hlen : ((stackOf d ob zs).map (Value.int .u8)).length = d * 1 := hownB.1
  have hgone : ∀ j, (Value.slice a2 d d).ownBlock = some j → j < w3.heap.size := fun j hj => by have := HL2.out j hj; omega
  have holds2 : ∀ o b, a2 = some b → ∀ j u, ((stackOf d ob zs).map (Value.int .u8))[j]? = some u → (w3.alloc o).cell? (b.add j) = some u := by
    intro o b e j u hu
    have h := holds b e j u hu
    rw [((Below.refl w3.heap.size w3).alloc (Nat.le_refl _) o).cell (World.block_lt_of_cell? w3 _ h)]
    exact h
  have HH2 : Hid _ := holds2
  have HNO : Hid _ := hnone
  have HLE : Hid _ := hlen
  clear holds holds2 hnone hlen hgone
  go_wp2_with (at_builtin; refine wpList_append_grows _ rfl _ _ 22 rfl 5 i0 (.int .u8 0) 1 1 Try.underlying22 hi hz0 hz1 hz2 rfl (by decide) _ _ _ _ rfl HNO.out HLE.out (HH2.out _) ⟨w3.heap.size, 0, none⟩ 1 1 [.int .u8 123] rfl rfl (cell_one_new _ _ _) (by simp [Value.oneCell']) (by omega) (by unfold maxLen; omega) (by omega) ?_)
  intro v' w4 hown4 hgrow4
  have hex : ∃ g cap, v' = .slice (some ⟨g, 0, none⟩) (d + 1) cap := by
    rcases hown4.2 with ⟨_, h⟩ | ⟨g, cap, _, h, _⟩
    · omega
    · exact ⟨g, cap, h⟩
  obtain ⟨g, cap, rfl⟩ := hex
  have hB4 : w4.heap[w2.heap.size]? = _ := (hgrow4.block w2.heap.size (by simp; omega) (fun e => by cases e)).trans ((heap_alloc_old w3 _ hs3).trans HB3.out)
  have hs4 : w3.heap.size < w4.heap.size := by have := hgrow4.size; simp at this; omega
  have hel4 : Elems .u8 w4 a1 n zs := ownsRow_elems (ownsRow_same hown1' (fun k hk => by
    have hk' := hown1'.lt k hk
    exact (hgrow4.block k (by simp; omega) (fun e => by cases e)).trans (heap_alloc_old w3 _ hk'.2)))
  have hel5 : Elems .u8 w4 (some ⟨g, 0, none⟩) (d + 1) (stackOf d ob zs ++ [123]) := ownsRow_elems (by rw [List.map_append]; exact hown4)
  have hb4 : Below w.heap.size w w4 := (hb3.alloc (by omega) _).grown hgrow4 (by simp; omega) (fun k hk => by cases hk)
  rw [← HD.out] at hel5 ⊢
  have w40 : w4.cell? ⟨w2.heap.size, 0, none⟩ = some (.int .u8 2) := by rw [cell_of_row w4 _ 0 _ _ _ hB4]; rfl
  have w41 : w4.cell? ⟨w2.heap.size, 1, none⟩ = some (.int .i64 lim) := by rw [cell_of_row w4 _ 1 _ _ _ hB4]; rfl
  have w42 : w4.cell? ⟨w2.heap.size, 2, none⟩ = some (.int .i64 D) := by rw [cell_of_row w4 _ 2 _ _ _ hB4]; rfl
  have w43 : w4.cell? ⟨w2.heap.size, 3, none⟩ = some (.int .u64 o') := by rw [cell_of_row w4 _ 3 _ _ _ hB4]; rfl
  have w44 : w4.cell? ⟨w2.heap.size, 4, none⟩ = some (.slice a1 n c1) := by rw [cell_of_row w4 _ 4 _ _ _ hB4]; rfl
  have w45 : w4.cell? ⟨w2.heap.size, 5, none⟩ = some (.bool key) := by rw [cell_of_row w4 _ 5 _ _ _ hB4]; rfl
  have w46 : w4.cell? ⟨w2.heap.size, 6, none⟩ = some (.string left) := by rw [cell_of_row w4 _ 6 _ _ _ hB4]; rfl
  have w47 : w4.cell? ⟨w2.heap.size, 7, none⟩ = some (.int .i64 hex) := by rw [cell_of_row w4 _ 7 _ _ _ hB4]; rfl
  have w48 : w4.cell? ⟨w2.heap.size, 8, none⟩ = some (.int .i64 (wrap64 (vals + 1))) := by rw [cell_of_row w4 _ 8 _ _ _ hB4]; rfl
  have w49 : w4.cell? ⟨w2.heap.size, 9, none⟩ = some (.int .i64 (wrap64 (oab + 1))) := by rw [cell_of_row w4 _ 9 _ _ _ hB4]; rfl
  have HB4 : Hid _ := hB4
  clear hB4 hgrow4 hown4
  clear w30 w31 w32 w33 w34 w35 w36 w37 w38 w39
  go_wp2_with (first | (go_at_call 12; go_in) | (go_at_call 25; go_in) | (go_at_call 26; go_in) | (go_at_call 27; go_in) | (go_at_call 13; go_in) | (go_at_call 14; go_in) | (go_at_call 15; go_in) | (go_at_call 17; go_in) | (go_at_call 18; go_in) | (go_at_call 19; go_in))
  have hwant : n = want D := by have := HD.out; have := HU.out; unfold want at *; omega
  have hst : stackOf D o' zs = stackOf d ob zs ++ [123] := by rw [HD.out]; exact stackOf_flatz d ob o' 123 zs hdd (by have h5 := hz.1; have := HU.out; unfold want at this; omega) HS.out
  refine (stack_ok D n c1 o' a1 zs w4 hDb hwant hel4).mono ?_
  rintro e w5 ⟨a5, c5, rfl, hown5, hb5⟩
  rw [hst] at hown5
  have he2 := hel5.below hb5
  have he3 := ownsRow_elems hown5
  have hobj : w5.cell? ⟨w2.heap.size, 3, none⟩ = some (.int .u64 o') := by rw [hb5.cell (by show w2.heap.size < _; omega)]; exact w43
  clear hst hwant w40 w41 w42 w43 w44 w45 w46 w47 w48 w49 hel4 hel5
  go_wp2_with fail
  refine (equal_same _ _ _ _ _ _ _ (by omega) he3 he2).mono ?_
  rintro e w6 ⟨rfl, q, rfl⟩
  go_wp2_with (go_at_call 18; go_in)
  go_ret
  exact ⟨rfl, below_drewN (hb4.trans (hb5.mono (by have := hb4.size; omega))) _⟩

set_option maxRecDepth 100000 in
set_option maxHeartbeats 1000000 in
theorem begin_flat91 (st lim ob : Int) (d : Nat) (a : Option Addr) (n c : Nat) (zs : List Int) (key : Bool) (left : ByteArray) (hex vals oab : Int) (w : World)
    (hz : Elems .u8 w a n zs) (ha : a = none → n = 0 ∧ c = 0) (hob1 : 0 ≤ ob) (hob2 : ob < 18446744073709551616)
    (h3 : (n : Int) + left.size ≤ 1048576) (hd : d ≤ 65536) (hu : n = want d) (hdd : d < 64) (hlim : lim ≠ d) :
    Calls Try.prog 5 #[.int .u8 st, .int .i64 lim, .int .i64 d, .int .u64 ob, .slice a n c, .bool key, .string left, .int .i64 hex, .int .i64 vals, .int .i64 oab, .int .u8 91] w fun e w' => e = .returned (.bool true) ∧ Below w.heap.size w w' := by
  have h1 : (n : Int) ≤ 1048576 := by omega
  have h2 : (left.size : Int) ≤ 1048576 := by omega
  have hne : ((d : Int) == lim) = false := by simp; omega
  have hne2 : ((d : Int) != lim) = true := by simp; omega
  have hnn : n ≤ 65600 := by unfold want at hu; omega
  have HU : Hid (n = want d) := hu
  clear hu
  go_enter Try.func5, Try.ntmps5
  go_wp2_with (go_at_call 23; go_in)
  refine (clone_any _ _ _ zs _ (by omega) hz ha).mono ?_
  rintro e w1 ⟨a1, c1, rfl, hown1, hb1⟩
  go_wp2_with fail
  refine (stack_ok2 _ _ _ _ _ zs _ (by omega) HU.out (ownsRow_elems hown1)).mono ?_
  rintro e w2 ⟨a2, rfl, hown2, hb2⟩
  have hs1 := hb1.size
  have hs2 := hb2.size
  have hlt2 : ∀ g, (Value.slice a2 d d).ownBlock = some g → w1.heap.size ≤ g ∧ g < w2.heap.size := hown2.lt
  have hlt1 : ∀ g, (Value.slice a1 n c1).ownBlock = some g → w.heap.size ≤ g ∧ g < w1.heap.size := hown1.lt
  have HL2 : Hid _ := hlt2
  have HL1 : Hid _ := hlt1
  clear hlt1 hlt2
  go_wp2_with (first | (go_at_call 10; go_in) | (go_at_call 24; go_in))
  refine (opens_flat91 w2.heap.size d lim ob vals oab (.int .u8 st) (.slice a1 n c1) (.bool key) (.string left) (.int .i64 hex) _ hdd hne (heap_alloc_new w2 _)).mono ?_
  rintro e w3 ⟨rfl, hB3, hg3⟩
  have hs3 : w2.heap.size < w3.heap.size := by have := hg3.size; simp at this; omega
  have hbb3 : Below w2.heap.size w2 w3 := ((Below.refl _ w2).alloc (Nat.le_refl _) _).grown hg3 (by simp) (fun k hk => by cases hk; exact Nat.le_refl _)
  have hownB : w3.ownsRow w1.heap.size 5 1 (.slice a2 d d) d ((stackOf d ob zs).map (Value.int .u8)) :=
    ownsRow_same hown2 (fun g hg => hbb3.block g (HL2.out g hg).2)
  have hown1' : w3.ownsRow w.heap.size 5 1 (.slice a1 n c1) n (zs.map (Value.int .u8)) :=
    ownsRow_same hown1 (fun g hg => by have := HL1.out g hg; rw [hbb3.block g (by omega), hb2.block g (by omega)])
  have hb3 : Below w.heap.size w w3 := (hb1.trans (hb2.mono hs1)).trans (hbb3.mono (by omega))
  clear hg3 hbb3
  obtain ⟨o', ho'⟩ : ∃ o', o' = bits .andNot .u64 ob (IntKind.u64.wrap (2 ^ d)) := ⟨_, rfl⟩
  have hlaw := clearBit ob d hob1 hob2 hdd
  rw [← ho'] at hB3
  simp only [← ho'] at hlaw
  obtain ⟨ho1, ho2, hbrs, hxor⟩ := hlaw
  have HS : Hid _ := hbrs
  clear ho' hbrs
  obtain ⟨D, hD⟩ : ∃ D, D = d + 1 := ⟨_, rfl⟩
  rw [← hD] at hB3
  have HD : Hid _ := hD
  have hDb : D ≤ 65600 := by omega
  clear hD
  have w30 : w3.cell? ⟨w2.heap.size, 0, none⟩ = some (.int .u8 1) := by rw [cell_of_row w3 _ 0 _ _ _ hB3]; rfl
  have w31 : w3.cell? ⟨w2.heap.size, 1, none⟩ = some (.int .i64 lim) := by rw [cell_of_row w3 _ 1 _ _ _ hB3]; rfl
  have w32 : w3.cell? ⟨w2.heap.size, 2, none⟩ = some (.int .i64 D) := by rw [cell_of_row w3 _ 2 _ _ _ hB3]; rfl
  have w33 : w3.cell? ⟨w2.heap.size, 3, none⟩ = some (.int .u64 o') := by rw [cell_of_row w3 _ 3 _ _ _ hB3]; rfl
  have w34 : w3.cell? ⟨w2.heap.size, 4, none⟩ = some (.slice a1 n c1) := by rw [cell_of_row w3 _ 4 _ _ _ hB3]; rfl
  have w35 : w3.cell? ⟨w2.heap.size, 5, none⟩ = some (.bool key) := by rw [cell_of_row w3 _ 5 _ _ _ hB3]; rfl
  have w36 : w3.cell? ⟨w2.heap.size, 6, none⟩ = some (.string left) := by rw [cell_of_row w3 _ 6 _ _ _ hB3]; rfl
  have w37 : w3.cell? ⟨w2.heap.size, 7, none⟩ = some (.int .i64 hex) := by rw [cell_of_row w3 _ 7 _ _ _ hB3]; rfl
  have w38 : w3.cell? ⟨w2.heap.size, 8, none⟩ = some (.int .i64 (wrap64 (vals + 1))) := by rw [cell_of_row w3 _ 8 _ _ _ hB3]; rfl
  have w39 : w3.cell? ⟨w2.heap.size, 9, none⟩ = some (.int .i64 oab) := by rw [cell_of_row w3 _ 9 _ _ _ hB3]; rfl
  have HB3 : Hid _ := hB3
  clear hB3
  obtain ⟨i0, hi, hz0, hz1, hz2⟩ := info_parts Try.info5
  go_wp2_with fail
  go_end0
  have hnone : a2 = none → d = 0 ∧ d = 0 := by
    intro e
    rcases hownB.2 with ⟨_, h⟩ | ⟨g, cap, _, h, _⟩
    · exact ⟨h, h⟩
    · rw [e] at h; simp at h
  have holds : ∀ b, a2 = some b → ∀ j u, ((stackOf d ob zs).map (Value.int .u8))[j]? = some u → w3.cell? (b.add j) = some u := by
    intro b e j u hu
    rcases hownB.2 with ⟨h, _⟩ | ⟨g, cap, _, h, _⟩
    · rw [e] at h; simp at h
    · rw [e] at h
      simp only [Value.slice.injEq, Option.some.injEq] at h
      rw [h.1]
      exact hownB.cells (by rw [e, h.1]; rfl) j u hu
  have hlen : ((stackOf d ob zs).map (Value.int .u8)).length = d * 1 := hownB.1
  have hgone : ∀ j, (Value.slice a2 d d).ownBlock = some j → j < w3.heap.size := fun j hj => by have := HL2.out j hj; omega
  have holds2 : ∀ o b, a2 = some b → ∀ j u, ((stackOf d ob zs).map (Value.int .u8))[j]? = some u → (w3.alloc o).cell? (b.add j) = some u := by
    intro o b e j u hu
    have h := holds b e j u hu
    rw [((Below.refl w3.heap.size w3).alloc (Nat.le_refl _) o).cell (World.block_lt_of_cell? w3 _ h)]
    exact h
  have HH2 : Hid _ := holds2
  have HNO : Hid _ := hnone
  have HLE : Hid _ := hlen
  clear holds holds2 hnone hlen hgone
  go_wp2_with (at_builtin; refine wpList_append_grows _ rfl _ _ 22 rfl 5 i0 (.int .u8 0) 1 1 Try.underlying22 hi hz0 hz1 hz2 rfl (by decide) _ _ _ _ rfl HNO.out HLE.out (HH2.out _) ⟨w3.heap.size, 0, none⟩ 1 1 [.int .u8 91] rfl rfl (cell_one_new _ _ _) (by simp [Value.oneCell']) (by omega) (by unfold maxLen; omega) (by omega) ?_)
  intro v' w4 hown4 hgrow4
  have hex : ∃ g cap, v' = .slice (some ⟨g, 0, none⟩) (d + 1) cap := by
    rcases hown4.2 with ⟨_, h⟩ | ⟨g, cap, _, h, _⟩
    · omega
    · exact ⟨g, cap, h⟩
  obtain ⟨g, cap, rfl⟩ := hex
  have hB4 : w4.heap[w2.heap.size]? = _ := (hgrow4.block w2.heap.size (by simp; omega) (fun e => by cases e)).trans ((heap_alloc_old w3 _ hs3).trans HB3.out)
  have hs4 : w3.heap.size < w4.heap.size := by have := hgrow4.size; simp at this; omega
  have hel4 : Elems .u8 w4 a1 n zs := ownsRow_elems (ownsRow_same hown1' (fun k hk => by
    have hk' := hown1'.lt k hk
    exact (hgrow4.block k (by simp; omega) (fun e => by cases e)).trans (heap_alloc_old w3 _ hk'.2)))
  have hel5 : Elems .u8 w4 (some ⟨g, 0, none⟩) (d + 1) (stackOf d ob zs ++ [91]) := ownsRow_elems (by rw [List.map_append]; exact hown4)
  have hb4 : Below w.heap.size w w4 := (hb3.alloc (by omega) _).grown hgrow4 (by simp; omega) (fun k hk => by cases hk)
  rw [← HD.out] at hel5 ⊢
  have w40 : w4.cell? ⟨w2.heap.size, 0, none⟩ = some (.int .u8 1) := by rw [cell_of_row w4 _ 0 _ _ _ hB4]; rfl
  have w41 : w4.cell? ⟨w2.heap.size, 1, none⟩ = some (.int .i64 lim) := by rw [cell_of_row w4 _ 1 _ _ _ hB4]; rfl
  have w42 : w4.cell? ⟨w2.heap.size, 2, none⟩ = some (.int .i64 D) := by rw [cell_of_row w4 _ 2 _ _ _ hB4]; rfl
  have w43 : w4.cell? ⟨w2.heap.size, 3, none⟩ = some (.int .u64 o') := by rw [cell_of_row w4 _ 3 _ _ _ hB4]; rfl
  have w44 : w4.cell? ⟨w2.heap.size, 4, none⟩ = some (.slice a1 n c1) := by rw [cell_of_row w4 _ 4 _ _ _ hB4]; rfl
  have w45 : w4.cell? ⟨w2.heap.size, 5, none⟩ = some (.bool key) := by rw [cell_of_row w4 _ 5 _ _ _ hB4]; rfl
  have w46 : w4.cell? ⟨w2.heap.size, 6, none⟩ = some (.string left) := by rw [cell_of_row w4 _ 6 _ _ _ hB4]; rfl
  have w47 : w4.cell? ⟨w2.heap.size, 7, none⟩ = some (.int .i64 hex) := by rw [cell_of_row w4 _ 7 _ _ _ hB4]; rfl
  have w48 : w4.cell? ⟨w2.heap.size, 8, none⟩ = some (.int .i64 (wrap64 (vals + 1))) := by rw [cell_of_row w4 _ 8 _ _ _ hB4]; rfl
  have w49 : w4.cell? ⟨w2.heap.size, 9, none⟩ = some (.int .i64 oab) := by rw [cell_of_row w4 _ 9 _ _ _ hB4]; rfl
  have HB4 : Hid _ := hB4
  clear hB4 hgrow4 hown4
  clear w30 w31 w32 w33 w34 w35 w36 w37 w38 w39
  go_wp2_with (first | (go_at_call 12; go_in) | (go_at_call 25; go_in) | (go_at_call 26; go_in) | (go_at_call 27; go_in) | (go_at_call 13; go_in) | (go_at_call 14; go_in) | (go_at_call 15; go_in) | (go_at_call 17; go_in) | (go_at_call 18; go_in) | (go_at_call 19; go_in))
  have hwant : n = want D := by have := HD.out; have := HU.out; unfold want at *; omega
  have hst : stackOf D o' zs = stackOf d ob zs ++ [91] := by rw [HD.out]; exact stackOf_flatz d ob o' 91 zs hdd (by have h5 := hz.1; have := HU.out; unfold want at this; omega) HS.out
  refine (stack_ok D n c1 o' a1 zs w4 hDb hwant hel4).mono ?_
  rintro e w5 ⟨a5, c5, rfl, hown5, hb5⟩
  rw [hst] at hown5
  have he2 := hel5.below hb5
  have he3 := ownsRow_elems hown5
  have hobj : w5.cell? ⟨w2.heap.size, 3, none⟩ = some (.int .u64 o') := by rw [hb5.cell (by show w2.heap.size < _; omega)]; exact w43
  clear hst hwant w40 w41 w42 w43 w44 w45 w46 w47 w48 w49 hel4 hel5
  go_wp2_with fail
  refine (equal_same _ _ _ _ _ _ _ (by omega) he3 he2).mono ?_
  rintro e w6 ⟨rfl, q, rfl⟩
  go_wp2_with (go_at_call 18; go_in)
  go_ret
  exact ⟨rfl, below_drewN (hb4.trans (hb5.mono (by have := hb4.size; omega))) _⟩
end Go.Proofs.Qxb6602542a
