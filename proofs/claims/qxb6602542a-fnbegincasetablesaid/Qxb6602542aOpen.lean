import Derived.Test.Qxb6602542aPush
namespace Go.Proofs.Qxb6602542a
open Go.RowKit

theorem ownsRow_same {w w' : World} {base : Nat} {e : TypeId} {size : Nat} {v : Value} {n : Nat} {xs : List Value} (h : w.ownsRow base e size v n xs) (hs : ∀ g, v.ownBlock = some g → w'.heap[g]? = w.heap[g]?) : w'.ownsRow base e size v n xs := by
  refine ⟨h.1, ?_⟩
  rcases h.2 with hn | ⟨g, cap, cur, rfl, hb, hgg, rest⟩
  · exact .inl hn
  · exact .inr ⟨g, cap, cur, rfl, hb, by rw [hs g rfl]; exact hgg, rest⟩

theorem stackOf_flat (d : Nat) (o o' : Int) (ch : Int) (hd : d < 64) (h : brs o' (d + 1) = brs o d ++ [ch]) : stackOf (d + 1) o' [] = stackOf d o [] ++ [ch] := by
  unfold stackOf
  rw [Nat.min_eq_left (by omega), Nat.min_eq_left (by omega), h]
  simp

theorem stackOf_flatz (d : Nat) (o o' : Int) (ch : Int) (zs : List Int) (hd : d < 64) (hz : zs.length = 0) (h : brs o' (d + 1) = brs o d ++ [ch]) : stackOf (d + 1) o' zs = stackOf d o zs ++ [ch] := by
  obtain rfl : zs = [] := List.eq_nil_of_length_eq_zero hz
  exact stackOf_flat d o o' ch hd h

theorem stackOf_deep (d : Nat) (o ch : Int) (zs : List Int) (hd : 64 ≤ d) : stackOf (d + 1) o (zs ++ [ch]) = stackOf d o zs ++ [ch] := by
  unfold stackOf
  rw [Nat.min_eq_right (by omega), Nat.min_eq_right (by omega)]
  simp

set_option maxRecDepth 100000 in
set_option maxHeartbeats 1000000 in
theorem opens_flat123 (B d : Nat) (lim o vals oab : Int) (s0 s4 s5 s6 s7 : Value) (w : World) (hd : d < 64) (hne : ((d : Int) == lim) = false)
    (hB : w.heap[B]? = some (.cells #[s0, .int .i64 lim, .int .i64 d, .int .u64 o, s4, s5, s6, s7, .int .i64 vals, .int .i64 oab] 54 (0, 0))) :
    Calls Try.prog 37 #[.pointer (some ⟨B, 0, none⟩), .int .u8 123] w fun e w' => e = .returned (.tuple #[]) ∧
      w'.heap[B]? = some (.cells #[.int .u8 2, .int .i64 lim, .int .i64 ((d + 1 : Nat) : Int), .int .u64 (bits .or .u64 o (IntKind.u64.wrap (2 ^ d))), s4, s5, s6, s7, .int .i64 (wrap64 (vals + 1)), .int .i64 (wrap64 (oab + 1))] 54 (0, 0)) ∧ w.grownBy w' (some B) := by
  have c1 : w.cell? ⟨B, 1, none⟩ = some (.int .i64 lim) := by rw [cell_of_row w B 1 _ _ _ hB]; rfl
  have c2 : w.cell? ⟨B, 2, none⟩ = some (.int .i64 d) := by rw [cell_of_row w B 2 _ _ _ hB]; rfl
  have c8 : w.cell? ⟨B, 8, none⟩ = some (.int .i64 vals) := by rw [cell_of_row w B 8 _ _ _ hB]; rfl
  have c9 : w.cell? ⟨B, 9, none⟩ = some (.int .i64 oab) := by rw [cell_of_row w B 9 _ _ _ hB]; rfl
  have f8 : w.frozen? ⟨B, 8, none⟩ = false := frozen_of_row w B 8 _ _ hB
  have f9 : w.frozen? ⟨B, 9, none⟩ = false := frozen_of_row w B 9 _ _ hB
  have HB : Hid _ := hB
  clear hB
  go_enter Try.func37, Try.ntmps37
  go_wp2_with fail
  go_quiet (fail)
  go_wp2_with fail
  have hb1 := field_set (field_set HB.out 8 (.int .i64 (wrap64 (vals + 1)))) 9 (.int .i64 (wrap64 (oab + 1)))
  refine (push_flat B d o 123 s0 (.int .i64 lim) s4 s5 s6 s7 (.int .i64 (wrap64 (vals + 1))) (.int .i64 (wrap64 (oab + 1))) _ hd rfl ?hb).mono ?_
  case hb => exact hb1
  rintro e w1 ⟨rfl, hb2, hg2⟩
  have k0 : w1.cell? ⟨B, 0, none⟩ = some s0 := by rw [cell_of_row w1 B 0 _ _ _ hb2]; rfl
  have f0 : w1.frozen? ⟨B, 0, none⟩ = false := frozen_of_row w1 B 0 _ _ hb2
  have HB2 : Hid _ := hb2
  have HG2 : Hid _ := hg2
  clear hb2 hg2 hb1 c1 c2 c8 c9 f8 f9
  go_wp2_with fail
  go_end0
  refine ⟨rfl, ?_, ?_⟩
  · have h := field_set (field_set HB2.out 0 (.int .u8 1)) 0 (.int .u8 2)
    exact h
  · exact grown_trans (grown_trans (grown_drewN (grown_trans (grown_set w B 8 (.int .i64 (wrap64 (vals + 1)))) (grown_set _ B 9 (.int .i64 (wrap64 (oab + 1))))) _) HG2.out) (grown_trans (grown_set w1 B 0 _) (grown_set _ B 0 _))

set_option maxRecDepth 100000 in
set_option maxHeartbeats 1000000 in
theorem opens_deep123 (base B d n c : Nat) (a : Option Addr) (lim o vals oab : Int) (zs : List Int) (s0 s5 s6 s7 : Value) (w : World) (hd : 64 ≤ d) (hd2 : d ≤ 65600) (hn : n ≤ 65600) (hne : ((d : Int) == lim) = false)
    (hbase : base ≤ w.heap.size) (hbB : base ≤ B) (hblt : B < w.heap.size) (hown : w.ownsRow base 5 1 (.slice a n c) n (zs.map (Value.int .u8))) (hnb : (Value.slice a n c).ownBlock ≠ some B)
    (hB : w.heap[B]? = some (.cells #[s0, .int .i64 lim, .int .i64 d, .int .u64 o, .slice a n c, s5, s6, s7, .int .i64 vals, .int .i64 oab] 54 (0, 0))) :
    Calls Try.prog 37 #[.pointer (some ⟨B, 0, none⟩), .int .u8 123] w fun e w' => e = .returned (.tuple #[]) ∧ ∃ a' c',
      w'.ownsRow base 5 1 (.slice a' (n + 1) c') (n + 1) ((zs ++ [123]).map (Value.int .u8)) ∧
      w'.heap[B]? = some (.cells #[.int .u8 2, .int .i64 lim, .int .i64 ((d + 1 : Nat) : Int), .int .u64 o, .slice a' (n + 1) c', s5, s6, s7, .int .i64 (wrap64 (vals + 1)), .int .i64 (wrap64 (oab + 1))] 54 (0, 0)) ∧ Below base w w' ∧
      ∀ k, k < w.heap.size → k ≠ B → some k ≠ (Value.slice a n c).ownBlock → w'.heap[k]? = w.heap[k]? := by
  have c1 : w.cell? ⟨B, 1, none⟩ = some (.int .i64 lim) := by rw [cell_of_row w B 1 _ _ _ hB]; rfl
  have c2 : w.cell? ⟨B, 2, none⟩ = some (.int .i64 d) := by rw [cell_of_row w B 2 _ _ _ hB]; rfl
  have c8 : w.cell? ⟨B, 8, none⟩ = some (.int .i64 vals) := by rw [cell_of_row w B 8 _ _ _ hB]; rfl
  have c9 : w.cell? ⟨B, 9, none⟩ = some (.int .i64 oab) := by rw [cell_of_row w B 9 _ _ _ hB]; rfl
  have f8 : w.frozen? ⟨B, 8, none⟩ = false := frozen_of_row w B 8 _ _ hB
  have f9 : w.frozen? ⟨B, 9, none⟩ = false := frozen_of_row w B 9 _ _ hB
  have HB : Hid _ := hB
  have HN : Hid _ := hnb
  clear hB hnb
  go_enter Try.func37, Try.ntmps37
  go_wp2_with fail
  go_quiet (fail)
  go_wp2_with fail
  have hb1 := field_set (field_set HB.out 8 (.int .i64 (wrap64 (vals + 1)))) 9 (.int .i64 (wrap64 (oab + 1)))
  have hgr := grown_trans (grown_set w B 8 (.int .i64 (wrap64 (vals + 1)))) (grown_set _ B 9 (.int .i64 (wrap64 (oab + 1))))
  refine (push_deep base B d n c a o 123 zs s0 (.int .i64 lim) s5 s6 s7 (.int .i64 (wrap64 (vals + 1))) (.int .i64 (wrap64 (oab + 1))) _ hd hd2 hn ?h1 hbB ?h2 ?h3 HN.out ?hb).mono ?_
  case hb => exact hb1
  case h1 => simpa using hbase
  case h2 => simpa using hblt
  case h3 => exact ownsRow_same hown (fun g hg => hgr.block g (hown.lt g hg).2 (fun e => HN.out (by rw [hg, e])))
  rintro e w1 ⟨rfl, a', c', hown1, hb2, hB2, hk2⟩
  have k0 : w1.cell? ⟨B, 0, none⟩ = some s0 := by rw [cell_of_row w1 B 0 _ _ _ hb2]; rfl
  have f0 : w1.frozen? ⟨B, 0, none⟩ = false := frozen_of_row w1 B 0 _ _ hb2
  have hgB : (Value.slice a' (n + 1) c').ownBlock ≠ some B := by
    intro e
    rcases hown1.2 with ⟨_, h⟩ | ⟨g', cap', cur, h, _, hh, _⟩
    · omega
    · rw [h] at e
      simp [Value.ownBlock] at e
      rw [e, hb2] at hh
      simp at hh
  have HB2 : Hid _ := hb2
  have HG : Hid _ := hgr
  have HL : Hid _ := hB2
  have HK : Hid _ := hk2
  have HE : Hid _ := hgB
  clear hb2 hB2 hk2 hgB hb1 hgr c1 c2 c8 c9 f8 f9
  go_wp2_with fail
  go_end0
  refine ⟨rfl, a', c', ?_, ?_, ?_, ?_⟩
  · refine ownsRow_same hown1 (fun g hg => ?_)
    have hgne : g ≠ B := fun e => HE.out (by rw [hg, e])
    first | rw [heap_setCell_other _ _ g _ (by exact hgne), heap_setCell_other _ _ g _ (by exact hgne)] | rw [heap_setCell_other _ _ g _ (by exact hgne)]
  · have h := field_set (field_set HB2.out 0 (.int .u8 1)) 0 (.int .u8 2)
    exact h
  · exact Below.setCell (Below.setCell (Below.trans (below_drewN (((Below.refl _ w).setCell hbB _).setCell hbB _) _) HL.out) hbB _) hbB _
  · intro k hk hkB hko
    rw [heap_setCell_other _ _ k _ (by exact hkB), heap_setCell_other _ _ k _ (by exact hkB), HK.out k (by simpa using hk) hkB hko]
    exact HG.out.block k hk (fun e => hkB (by simpa using e))

set_option maxRecDepth 100000 in
set_option maxHeartbeats 1000000 in
theorem opens_flat91 (B d : Nat) (lim o vals oab : Int) (s0 s4 s5 s6 s7 : Value) (w : World) (hd : d < 64) (hne : ((d : Int) == lim) = false)
    (hB : w.heap[B]? = some (.cells #[s0, .int .i64 lim, .int .i64 d, .int .u64 o, s4, s5, s6, s7, .int .i64 vals, .int .i64 oab] 54 (0, 0))) :
    Calls Try.prog 37 #[.pointer (some ⟨B, 0, none⟩), .int .u8 91] w fun e w' => e = .returned (.tuple #[]) ∧
      w'.heap[B]? = some (.cells #[.int .u8 1, .int .i64 lim, .int .i64 ((d + 1 : Nat) : Int), .int .u64 (bits .andNot .u64 o (IntKind.u64.wrap (2 ^ d))), s4, s5, s6, s7, .int .i64 (wrap64 (vals + 1)), .int .i64 oab] 54 (0, 0)) ∧ w.grownBy w' (some B) := by
  have c1 : w.cell? ⟨B, 1, none⟩ = some (.int .i64 lim) := by rw [cell_of_row w B 1 _ _ _ hB]; rfl
  have c2 : w.cell? ⟨B, 2, none⟩ = some (.int .i64 d) := by rw [cell_of_row w B 2 _ _ _ hB]; rfl
  have c8 : w.cell? ⟨B, 8, none⟩ = some (.int .i64 vals) := by rw [cell_of_row w B 8 _ _ _ hB]; rfl
  have c9 : w.cell? ⟨B, 9, none⟩ = some (.int .i64 oab) := by rw [cell_of_row w B 9 _ _ _ hB]; rfl
  have f8 : w.frozen? ⟨B, 8, none⟩ = false := frozen_of_row w B 8 _ _ hB
  have f9 : w.frozen? ⟨B, 9, none⟩ = false := frozen_of_row w B 9 _ _ hB
  have HB : Hid _ := hB
  clear hB
  go_enter Try.func37, Try.ntmps37
  go_wp2_with fail
  go_quiet (fail)
  go_wp2_with fail
  have hb1 := field_set HB.out 8 (.int .i64 (wrap64 (vals + 1)))
  refine (push_flat_arr B d o 91 s0 (.int .i64 lim) s4 s5 s6 s7 (.int .i64 (wrap64 (vals + 1))) (.int .i64 oab) _ hd rfl ?hb).mono ?_
  case hb => exact hb1
  rintro e w1 ⟨rfl, hb2, hg2⟩
  have k0 : w1.cell? ⟨B, 0, none⟩ = some s0 := by rw [cell_of_row w1 B 0 _ _ _ hb2]; rfl
  have f0 : w1.frozen? ⟨B, 0, none⟩ = false := frozen_of_row w1 B 0 _ _ hb2
  have HB2 : Hid _ := hb2
  have HG2 : Hid _ := hg2
  clear hb2 hg2 hb1 c1 c2 c8 c9 f8 f9
  go_wp2_with fail
  go_end0
  refine ⟨rfl, ?_, ?_⟩
  · have h := field_set HB2.out 0 (.int .u8 1)
    exact h
  · exact grown_trans (grown_trans (grown_drewN (grown_set w B 8 (.int .i64 (wrap64 (vals + 1)))) _) HG2.out) (grown_set w1 B 0 _)

set_option maxRecDepth 100000 in
set_option maxHeartbeats 1000000 in
theorem opens_deep91 (base B d n c : Nat) (a : Option Addr) (lim o vals oab : Int) (zs : List Int) (s0 s5 s6 s7 : Value) (w : World) (hd : 64 ≤ d) (hd2 : d ≤ 65600) (hn : n ≤ 65600) (hne : ((d : Int) == lim) = false)
    (hbase : base ≤ w.heap.size) (hbB : base ≤ B) (hblt : B < w.heap.size) (hown : w.ownsRow base 5 1 (.slice a n c) n (zs.map (Value.int .u8))) (hnb : (Value.slice a n c).ownBlock ≠ some B)
    (hB : w.heap[B]? = some (.cells #[s0, .int .i64 lim, .int .i64 d, .int .u64 o, .slice a n c, s5, s6, s7, .int .i64 vals, .int .i64 oab] 54 (0, 0))) :
    Calls Try.prog 37 #[.pointer (some ⟨B, 0, none⟩), .int .u8 91] w fun e w' => e = .returned (.tuple #[]) ∧ ∃ a' c',
      w'.ownsRow base 5 1 (.slice a' (n + 1) c') (n + 1) ((zs ++ [91]).map (Value.int .u8)) ∧
      w'.heap[B]? = some (.cells #[.int .u8 1, .int .i64 lim, .int .i64 ((d + 1 : Nat) : Int), .int .u64 o, .slice a' (n + 1) c', s5, s6, s7, .int .i64 (wrap64 (vals + 1)), .int .i64 oab] 54 (0, 0)) ∧ Below base w w' ∧
      ∀ k, k < w.heap.size → k ≠ B → some k ≠ (Value.slice a n c).ownBlock → w'.heap[k]? = w.heap[k]? := by
  have c1 : w.cell? ⟨B, 1, none⟩ = some (.int .i64 lim) := by rw [cell_of_row w B 1 _ _ _ hB]; rfl
  have c2 : w.cell? ⟨B, 2, none⟩ = some (.int .i64 d) := by rw [cell_of_row w B 2 _ _ _ hB]; rfl
  have c8 : w.cell? ⟨B, 8, none⟩ = some (.int .i64 vals) := by rw [cell_of_row w B 8 _ _ _ hB]; rfl
  have c9 : w.cell? ⟨B, 9, none⟩ = some (.int .i64 oab) := by rw [cell_of_row w B 9 _ _ _ hB]; rfl
  have f8 : w.frozen? ⟨B, 8, none⟩ = false := frozen_of_row w B 8 _ _ hB
  have f9 : w.frozen? ⟨B, 9, none⟩ = false := frozen_of_row w B 9 _ _ hB
  have HB : Hid _ := hB
  have HN : Hid _ := hnb
  clear hB hnb
  go_enter Try.func37, Try.ntmps37
  go_wp2_with fail
  go_quiet (fail)
  go_wp2_with fail
  have hb1 := field_set HB.out 8 (.int .i64 (wrap64 (vals + 1)))
  have hgr := grown_set w B 8 (.int .i64 (wrap64 (vals + 1)))
  refine (push_deep base B d n c a o 91 zs s0 (.int .i64 lim) s5 s6 s7 (.int .i64 (wrap64 (vals + 1))) (.int .i64 oab) _ hd hd2 hn ?h1 hbB ?h2 ?h3 HN.out ?hb).mono ?_
  case hb => exact hb1
  case h1 => simpa using hbase
  case h2 => simpa using hblt
  case h3 => exact ownsRow_same hown (fun g hg => hgr.block g (hown.lt g hg).2 (fun e => HN.out (by rw [hg, e])))
  rintro e w1 ⟨rfl, a', c', hown1, hb2, hB2, hk2⟩
  have k0 : w1.cell? ⟨B, 0, none⟩ = some s0 := by rw [cell_of_row w1 B 0 _ _ _ hb2]; rfl
  have f0 : w1.frozen? ⟨B, 0, none⟩ = false := frozen_of_row w1 B 0 _ _ hb2
  have hgB : (Value.slice a' (n + 1) c').ownBlock ≠ some B := by
    intro e
    rcases hown1.2 with ⟨_, h⟩ | ⟨g', cap', cur, h, _, hh, _⟩
    · omega
    · rw [h] at e
      simp [Value.ownBlock] at e
      rw [e, hb2] at hh
      simp at hh
  have HB2 : Hid _ := hb2
  have HG : Hid _ := hgr
  have HL : Hid _ := hB2
  have HK : Hid _ := hk2
  have HE : Hid _ := hgB
  clear hb2 hB2 hk2 hgB hb1 hgr c1 c2 c8 c9 f8 f9
  go_wp2_with fail
  go_end0
  refine ⟨rfl, a', c', ?_, ?_, ?_, ?_⟩
  · refine ownsRow_same hown1 (fun g hg => ?_)
    have hgne : g ≠ B := fun e => HE.out (by rw [hg, e])
    rw [heap_setCell_other _ _ g _ (by exact hgne)]
  · have h := field_set HB2.out 0 (.int .u8 1)
    exact h
  · exact Below.setCell (Below.trans (below_drewN ((Below.refl _ w).setCell hbB _) _) HL.out) hbB _
  · intro k hk hkB hko
    rw [heap_setCell_other _ _ k _ (by exact hkB), HK.out k (by simpa using hk) hkB hko]
    exact HG.out.block k hk (fun e => hkB (by simpa using e))

set_option maxRecDepth 100000 in
set_option maxHeartbeats 1000000 in
theorem begins_lim123 (B d : Nat) (o vals oab : Int) (s0 s4 s5 s6 s7 : Value) (w : World)
    (hB : w.heap[B]? = some (.cells #[s0, .int .i64 d, .int .i64 d, .int .u64 o, s4, s5, s6, s7, .int .i64 vals, .int .i64 oab] 54 (0, 0))) :
    Calls Try.prog 37 #[.pointer (some ⟨B, 0, none⟩), .int .u8 123] w fun e w' => e = .returned (.tuple #[]) ∧
      w'.heap[B]? = some (.cells #[.int .u8 18, .int .i64 d, .int .i64 d, .int .u64 o, s4, s5, s6, s7, .int .i64 (wrap64 (vals + 1)), .int .i64 (wrap64 (oab + 1))] 54 (0, 0)) ∧ w.grownBy w' (some B) := by
  have c0 : w.cell? ⟨B, 0, none⟩ = some s0 := by rw [cell_of_row w B 0 _ _ _ hB]; rfl
  have c1 : w.cell? ⟨B, 1, none⟩ = some (.int .i64 d) := by rw [cell_of_row w B 1 _ _ _ hB]; rfl
  have c2 : w.cell? ⟨B, 2, none⟩ = some (.int .i64 d) := by rw [cell_of_row w B 2 _ _ _ hB]; rfl
  have c8 : w.cell? ⟨B, 8, none⟩ = some (.int .i64 vals) := by rw [cell_of_row w B 8 _ _ _ hB]; rfl
  have c9 : w.cell? ⟨B, 9, none⟩ = some (.int .i64 oab) := by rw [cell_of_row w B 9 _ _ _ hB]; rfl
  have f0 : w.frozen? ⟨B, 0, none⟩ = false := frozen_of_row w B 0 _ _ hB
  have f8 : w.frozen? ⟨B, 8, none⟩ = false := frozen_of_row w B 8 _ _ hB
  have f9 : w.frozen? ⟨B, 9, none⟩ = false := frozen_of_row w B 9 _ _ hB
  have HB : Hid _ := hB
  clear hB
  go_enter Try.func37, Try.ntmps37
  go_wp2_with fail
  go_quiet (fail)
  go_wp2_with fail
  refine bodyPost_ret (results_none rfl _ _ _) rfl ?_
  refine ⟨rfl, ?_, ?_⟩
  · have h := field_set (field_set (field_set HB.out 8 (.int .i64 (wrap64 (vals + 1)))) 9 (.int .i64 (wrap64 (oab + 1)))) 0 (.int .u8 18)
    exact h
  · exact grown_trans (grown_drewN (grown_trans (grown_set w B 8 (.int .i64 (wrap64 (vals + 1)))) (grown_set _ B 9 (.int .i64 (wrap64 (oab + 1))))) _) (grown_set _ B 0 _)

set_option maxRecDepth 100000 in
set_option maxHeartbeats 1000000 in
theorem begins_lim91 (B d : Nat) (o vals oab : Int) (s0 s4 s5 s6 s7 : Value) (w : World)
    (hB : w.heap[B]? = some (.cells #[s0, .int .i64 d, .int .i64 d, .int .u64 o, s4, s5, s6, s7, .int .i64 vals, .int .i64 oab] 54 (0, 0))) :
    Calls Try.prog 37 #[.pointer (some ⟨B, 0, none⟩), .int .u8 91] w fun e w' => e = .returned (.tuple #[]) ∧
      w'.heap[B]? = some (.cells #[.int .u8 18, .int .i64 d, .int .i64 d, .int .u64 o, s4, s5, s6, s7, .int .i64 (wrap64 (vals + 1)), .int .i64 oab] 54 (0, 0)) ∧ w.grownBy w' (some B) := by
  have c0 : w.cell? ⟨B, 0, none⟩ = some s0 := by rw [cell_of_row w B 0 _ _ _ hB]; rfl
  have c1 : w.cell? ⟨B, 1, none⟩ = some (.int .i64 d) := by rw [cell_of_row w B 1 _ _ _ hB]; rfl
  have c2 : w.cell? ⟨B, 2, none⟩ = some (.int .i64 d) := by rw [cell_of_row w B 2 _ _ _ hB]; rfl
  have c8 : w.cell? ⟨B, 8, none⟩ = some (.int .i64 vals) := by rw [cell_of_row w B 8 _ _ _ hB]; rfl
  have c9 : w.cell? ⟨B, 9, none⟩ = some (.int .i64 oab) := by rw [cell_of_row w B 9 _ _ _ hB]; rfl
  have f0 : w.frozen? ⟨B, 0, none⟩ = false := frozen_of_row w B 0 _ _ hB
  have f8 : w.frozen? ⟨B, 8, none⟩ = false := frozen_of_row w B 8 _ _ hB
  have f9 : w.frozen? ⟨B, 9, none⟩ = false := frozen_of_row w B 9 _ _ hB
  have HB : Hid _ := hB
  clear hB
  go_enter Try.func37, Try.ntmps37
  go_wp2_with fail
  go_quiet (fail)
  go_wp2_with fail
  refine bodyPost_ret (results_none rfl _ _ _) rfl ?_
  refine ⟨rfl, ?_, ?_⟩
  · have h := field_set (field_set HB.out 8 (.int .i64 (wrap64 (vals + 1)))) 0 (.int .u8 18)
    exact h
  · exact grown_trans (grown_drewN (grown_set w B 8 (.int .i64 (wrap64 (vals + 1)))) _) (grown_set _ B 0 _)
end Go.Proofs.Qxb6602542a
