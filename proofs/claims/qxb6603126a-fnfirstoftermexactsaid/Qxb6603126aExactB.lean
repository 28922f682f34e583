import Derived.Test.Qxb6603126aExactA
namespace Go.Proofs.Qxb6603126a
open Go.RowKit

theorem Elems.drewN {k : IntKind} {w : World} {a : Option Addr} {n : Nat} {zs : List Int} (h : Elems k w a n zs) (q : Nat) : Elems k (w.drewN q) a n zs := h

theorem far_tests {bi i : Int} {n : Nat} (h : ¬ bi + n + 65536 < i) : (decide (bi + (n : Int) < i) = false) ∨ (bi + (n : Int) < i ∧ decide (bi + (n : Int) < i) = true ∧ decide (65536 < i - (bi + (n : Int))) = false) := by
  by_cases h1 : bi + (n : Int) < i
  · exact .inr ⟨h1, by simpa using h1, by simp; omega⟩
  · exact .inl (by simpa using h1)

set_option maxRecDepth 100000 in
set_option maxHeartbeats 1000000 in
theorem ex_pos_far (bi bt i : Int) (b off n c : Nat) (ts : List Int) (w : World) (hn : 0 < n) (hl : ts.length = n) (hm : n ≤ 131072) (hbi : 0 ≤ bi) (hbn : bi + n ≤ 18446744073709551615) (hbm : bi + 1 ≤ 18446744073709551615) (him : i ≤ 18446744073709551615)
    (hc : ∀ i, i < n → w.cell? ⟨b, off + i, none⟩ = some (.int .u64 (ts.getD i 0))) (hfar : bi + n + 65536 < i) :
    Calls Try.prog 5 #[.int .u64 bi, .int .u64 bt, .slice (some ⟨b, off, none⟩) n c, .int .u64 i] w fun e w' => e = .returned (.bool true) ∧ Below w.heap.size w w' := by
  have kb : (bi == 18446744073709551615) = false := by simp; omega
  have g1 : bi + (n : Int) < i := by omega
  have g2 : 65536 < i - (bi + (n : Int)) := by omega
  obtain ⟨i0, hi, hz0, hz1, hz2⟩ := info_parts Try.info22
  have q23 := nilN23
  have hb : b < w.heap.size := World.block_lt_of_cell? w _ (hc 0 hn)
  go_enter Try.func5, Try.ntmps5
  go_wp2_with (first | (go_at_call 16; go_in) | (at_make; refine wpList_make_full _ rfl _ _ 23 rfl w.heap.size 22 i0 (.int .u64 0) 1 Try.underlying23 hi hz0 hz1 _ _ _ _ n rfl rfl rfl rfl (by rw [hz2]; omega) (by unfold maxLen; omega) (Nat.le_refl _) ?_))
  intro w1 hown hgrow
  have hB1 : Below w.heap.size w w1 := (Below.refl _ _).grown hgrow (Nat.le_refl _) (fun k hk => by cases hk)
  obtain ⟨cur, hcur, hcl⟩ := made_row hown
  have HC := hide hcur
  have HS := hide (src_cells hl (fun i hi => (hB1.cell (by exact hb)).trans (hc i hi)))
  clear hown hgrow hcur
  go_wp2_with (refine wpList_copy_splice rfl _ _ 23 23 rfl 22 Try.underlying23 size22 _ _ _ _ _ _ rfl rfl w.heap.size 0 cur 22 HC.out (ts.map (Value.int .u64)) (by simp [hl]) (fun _ => ⟨rfl, _, rfl, HS.out⟩) (by simp; omega) (ints_oneCell _ _) w.heap.size w hB1 (Nat.le_refl _) ?_)
  intro w2 HG2 hB2
  have HE : Hid (Elems .u64 w2 (some ⟨w.heap.size, 0, none⟩) n ts) := hide ⟨hl, fun _ => ⟨w.heap.size, 0, rfl, row_cells hl hcl HG2.out⟩⟩
  clear HC HS hB1 HG2
  go_wp2_with fail
  go_ret
  exact ⟨rfl, hB2⟩

set_option maxRecDepth 100000 in
set_option maxHeartbeats 1000000 in
theorem ex_pos_small (bi bt i : Int) (b off n c : Nat) (ts : List Int) (w : World) (hn : 0 < n) (hl : ts.length = n) (hm : n ≤ 131072) (hbi : 0 ≤ bi) (hbn : bi + n ≤ 18446744073709551615) (hbm : bi + 1 ≤ 18446744073709551615)
    (hc : ∀ i, i < n → w.cell? ⟨b, off + i, none⟩ = some (.int .u64 (ts.getD i 0))) (hsm : i ≤ bi + 1) :
    Calls Try.prog 5 #[.int .u64 bi, .int .u64 bt, .slice (some ⟨b, off, none⟩) n c, .int .u64 i] w fun e w' => e = .returned (.bool true) ∧ Below w.heap.size w w' := by
  have kb : (bi == 18446744073709551615) = false := by simp; omega
  have ho : decide (bi + (n : Int) < i) = false := by simp; omega
  have hsm' : ¬ bi + 1 < i := by omega
  obtain ⟨i0, hi, hz0, hz1, hz2⟩ := info_parts Try.info22
  have q23 := nilN23
  have hb : b < w.heap.size := World.block_lt_of_cell? w _ (hc 0 hn)
  go_enter Try.func5, Try.ntmps5
  go_wp2_with (first | (go_at_call 16; go_in) | (at_make; refine wpList_make_full _ rfl _ _ 23 rfl w.heap.size 22 i0 (.int .u64 0) 1 Try.underlying23 hi hz0 hz1 _ _ _ _ n rfl rfl rfl rfl (by rw [hz2]; omega) (by unfold maxLen; omega) (Nat.le_refl _) ?_))
  intro w1 hown hgrow
  have hB1 : Below w.heap.size w w1 := (Below.refl _ _).grown hgrow (Nat.le_refl _) (fun k hk => by cases hk)
  obtain ⟨cur, hcur, hcl⟩ := made_row hown
  have HC := hide hcur
  have HS := hide (src_cells hl (fun i hi => (hB1.cell (by exact hb)).trans (hc i hi)))
  clear hown hgrow hcur
  go_wp2_with (refine wpList_copy_splice rfl _ _ 23 23 rfl 22 Try.underlying23 size22 _ _ _ _ _ _ rfl rfl w.heap.size 0 cur 22 HC.out (ts.map (Value.int .u64)) (by simp [hl]) (fun _ => ⟨rfl, _, rfl, HS.out⟩) (by simp; omega) (ints_oneCell _ _) w.heap.size w hB1 (Nat.le_refl _) ?_)
  intro w2 HG2 hB2
  have HE : Hid (Elems .u64 w2 (some ⟨w.heap.size, 0, none⟩) n ts) := hide ⟨hl, fun _ => ⟨w.heap.size, 0, rfl, row_cells hl hcl HG2.out⟩⟩
  clear HC HS hB1 HG2
  go_wp2_with fail
  refine (mk_any bi bt (some ⟨w.heap.size, 0, none⟩) n n ts _ (by omega) hbi (by omega) HE.out).mono ?_
  rintro e w3 ⟨L, rfl, ⟨E, hlog⟩, hb3⟩
  have HL := hide hlog
  have HE3 := hide (HE.out.below hb3)
  have hB3 : Below w.heap.size w w3 := hB2.trans (hb3.mono hB2.size)
  clear hlog hb3 hB2 HE
  go_wp2_with fail
  refine (fot17_small L E n bi bt i ts _ _ HL.out hbi (by omega) hbm hsm).mono ?_
  rintro e w4 ⟨rfl, q4, rfl⟩
  go_wp2_with fail
  go_ret
  exact ⟨rfl, below_drewN hB3 _⟩

set_option maxRecDepth 100000 in
set_option maxHeartbeats 1000000 in
theorem ex_pos_big (bi bt i : Int) (b off n c : Nat) (ts : List Int) (w : World) (hn : 0 < n) (hl : ts.length = n) (hm : n ≤ 131072) (hbi : 0 ≤ bi) (hbn : bi + n ≤ 18446744073709551615) (hbm : bi + 1 ≤ 18446744073709551615) (him : i ≤ 18446744073709551615)
    (hc : ∀ i, i < n → w.cell? ⟨b, off + i, none⟩ = some (.int .u64 (ts.getD i 0))) (J : Nat) (hJ : i = bi + (J : Int)) (hJ2 : 2 ≤ J) (hfar : ¬ bi + n + 65536 < i) :
    Calls Try.prog 5 #[.int .u64 bi, .int .u64 bt, .slice (some ⟨b, off, none⟩) n c, .int .u64 i] w fun e w' => e = .returned (.bool true) ∧ Below w.heap.size w w' := by
  have kb : (bi == 18446744073709551615) = false := by simp; omega
  have HO := hide (far_tests (bi := bi) (i := i) (n := n) hfar)
  have hlt1 : bi + 1 < i := by omega
  have hJb : (J : Int) ≤ 200000 := by omega
  have hlt0 : bi < i := by omega
  have hspan : i - bi = (J : Int) := by omega
  have HJ := hide hJ
  clear hJ hfar
  rcases HO.out with ho | ⟨ho1, ho2, ho3⟩
  all_goals
    obtain ⟨i0, hi, hz0, hz1, hz2⟩ := info_parts Try.info22
    have q23 := nilN23
    have hb : b < w.heap.size := World.block_lt_of_cell? w _ (hc 0 hn)
    go_enter Try.func5, Try.ntmps5
    go_wp2_with (first | (go_at_call 16; go_in) | (at_make; refine wpList_make_full _ rfl _ _ 23 rfl w.heap.size 22 i0 (.int .u64 0) 1 Try.underlying23 hi hz0 hz1 _ _ _ _ n rfl rfl rfl rfl (by rw [hz2]; omega) (by unfold maxLen; omega) (Nat.le_refl _) ?_))
    intro w1 hown hgrow
    have hB1 : Below w.heap.size w w1 := (Below.refl _ _).grown hgrow (Nat.le_refl _) (fun k hk => by cases hk)
    obtain ⟨cur, hcur, hcl⟩ := made_row hown
    have HC := hide hcur
    have HS := hide (src_cells hl (fun i hi => (hB1.cell (by exact hb)).trans (hc i hi)))
    clear hown hgrow hcur
    go_wp2_with (refine wpList_copy_splice rfl _ _ 23 23 rfl 22 Try.underlying23 size22 _ _ _ _ _ _ rfl rfl w.heap.size 0 cur 22 HC.out (ts.map (Value.int .u64)) (by simp [hl]) (fun _ => ⟨rfl, _, rfl, HS.out⟩) (by simp; omega) (ints_oneCell _ _) w.heap.size w hB1 (Nat.le_refl _) ?_)
    intro w2 HG2 hB2
    have HE : Hid (Elems .u64 w2 (some ⟨w.heap.size, 0, none⟩) n ts) := hide ⟨hl, fun _ => ⟨w.heap.size, 0, rfl, row_cells hl hcl HG2.out⟩⟩
    clear HC HS hB1 HG2
    go_wp2_with fail
    refine (mk_any bi bt (some ⟨w.heap.size, 0, none⟩) n n ts _ (by omega) hbi (by omega) HE.out).mono ?_
    rintro e w3 ⟨L, rfl, ⟨E, hlog⟩, hb3⟩
    have HL := hide hlog
    have HE3 := hide (HE.out.below hb3)
    have hB3 : Below w.heap.size w w3 := hB2.trans (hb3.mono hB2.size)
    clear hlog hb3 hB2 HE
    go_wp2_with fail
    refine (fot17 L E n J bi bt i ts _ _ HL.out hbi (by omega) HJ.out (by omega) him).mono ?_
    rintro e w4 ⟨he4, q4, rfl⟩
    obtain ⟨G, hG⟩ : ∃ G : Int, G = bi + (runStart (tf ts n) J : Nat) := ⟨_, rfl⟩
    rw [← hG] at he4
    subst he4
    have HGG := hide hG
    clear hG
    go_wp2_with fail
    refine (at_any bi (bi + 1) (some ⟨w.heap.size, 0, none⟩) n n 1 ts _ (HE3.out.drewN q4) (by omega) hbi (by omega) (by omega) (by omega)).mono ?_
    rintro e w5 ⟨he5, rfl⟩
    obtain ⟨p0, hp0⟩ : ∃ p0 : Int, p0 = tf ts n 1 := ⟨_, rfl⟩
    rw [← hp0] at he5
    subst he5
    have HP0 := hide hp0
    clear hp0
    go_wp2_with fail
    go_loopw [13, 14, 16, 17, 18] (fun vw vp vd _ _ wr => wr = w3.drewN q4 ∧ ∃ d : Nat, ∃ wt pv : Int, 1 ≤ d ∧ d ≤ J ∧ vd = .int .u64 ((d : Int) + 1) ∧ vw = .int .u64 wt ∧ vp = .int .u64 pv ∧ Hid (wt = bi + (runStart (tf ts n) d : Nat)) ∧ Hid (pv = tf ts n d)) (fun _ _ vd _ _ _ => J + 1 - (intOf vd).toNat)
    case atStart =>
      have hb1 := runStart_bounds (tf ts n) 1 (Nat.le_refl _)
      exact ⟨rfl, 1, _, _, Nat.le_refl _, by omega, rfl, rfl, rfl, hide (by rw [show runStart (tf ts n) 1 = 1 by omega]; rfl), HP0⟩
    case round =>
      obtain ⟨rfl, d, wt, pv, hd1, hd2, rfl, rfl, rfl, hwt, hpv⟩ := hrel
      by_cases hlt : d + 1 ≤ J
      · have hlt' : (d : Int) + 1 ≤ (J : Int) := by omega
        have hkb : bi + ((d : Int) + 1) ≤ 18446744073709551615 := by omega
        go_wp2_with fail
        refine (at_any bi _ (some ⟨w.heap.size, 0, none⟩) n n (d + 1) ts _ (HE3.out.drewN q4) (by omega) hbi hkb (by omega) (by omega)).mono ?_
        rintro e w6 ⟨he6, rfl⟩
        obtain ⟨t6, ht6⟩ : ∃ t6 : Int, t6 = tf ts n (d + 1) := ⟨_, rfl⟩
        rw [← ht6] at he6
        subst he6
        have HT6 := hide ht6
        clear ht6
        by_cases heq : t6 = pv
        · have hbe : (t6 != pv) = false := by simp [heq]
          have HEQ := hide heq
          clear heq
          go_wp2_with fail
          go_roundw
          case rel => exact ⟨by trivial, d + 1, wt, t6, by omega, by omega, by go_num, rfl, rfl, hide (by rw [runStart_succ_same _ d hd1 (by rw [← HT6.out, HEQ.out, hpv.out])]; exact hwt.out), HT6⟩
          case measure => simp [intOf]; omega
        · have hbe : (t6 != pv) = true := by simp [heq]
          go_wp2_with fail
          go_roundw
          case rel => exact ⟨by trivial, d + 1, _, t6, by omega, by omega, by go_num, rfl, rfl, hide (by rw [runStart_succ_new _ d (fun h => heq (by rw [HT6.out, hpv.out, h]))]; omega), HT6⟩
          case measure => simp [intOf]; omega
      · have hnlt : ¬ (d : Int) + 1 ≤ (J : Int) := by omega
        have hdJ : d = J := by omega
        have hres : (G == wt) = true := by rw [HGG.out, hwt.out, hdJ]; simp
        go_wp2_with fail
        go_ret
        exact ⟨rfl, below_drewN hB3 _⟩
end Go.Proofs.Qxb6603126a
