import Derived.Test.Qxb6603126aCopy
namespace Go.Proofs.Qxb6603126a
open Go.RowKit

set_option maxRecDepth 100000 in
set_option maxHeartbeats 1000000 in
theorem run_le (bi bt i j : Int) (b off n c : Nat) (ts : List Int) (w : World) (hn : 0 < n) (hl : ts.length = n) (hm : n ≤ 131072) (hbi : 0 ≤ bi) (hbn : bi + n ≤ 18446744073709551615)
    (hc : ∀ i, i < n → w.cell? ⟨b, off + i, none⟩ = some (.int .u64 (ts.getD i 0))) (X Y : Nat) (hX : i = bi + (X + 1 : Nat)) (hY : j = bi + (Y + 1 : Nat)) (hXY : X ≤ Y) (hYn : Y < n) :
    Calls Try.prog 6 #[.int .u64 bi, .int .u64 bt, .slice (some ⟨b, off, none⟩) n c, .int .u64 i, .int .u64 j] w fun e w' => e = .returned (.bool true) ∧ Below w.heap.size w w' := by
  obtain ⟨i0, hi, hz0, hz1, hz2⟩ := info_parts Try.info22
  have hi1 : bi < i := by omega
  have hi2 : i ≤ bi + n := by omega
  have hij : i ≤ j := by omega
  have hj1 : bi < j := by omega
  have hj2 : j ≤ bi + n := by omega
  have k1 : decide (i ≤ bi) = false := by simp; omega
  have k2 : decide (bi + (n : Int) < i) = false := by simp; omega
  have k3 : decide (j ≤ bi) = false := by simp; omega
  have k4 : decide (bi + (n : Int) < j) = false := by simp; omega
  have hix : i - bi - 1 = (X : Int) := by omega
  obtain ⟨P, hP⟩ : ∃ P, P = runStart (tf ts n) (X + 1) := ⟨_, rfl⟩
  obtain ⟨R, hR⟩ : ∃ R, R = runStart (tf ts n) (Y + 1) := ⟨_, rfl⟩
  have hPb := runStart_bounds (tf ts n) (X + 1) (by omega)
  have hRb := runStart_bounds (tf ts n) (Y + 1) (by omega)
  have hrun := runStart_run (tf ts n) (X + 1)
  have hstop := runStart_stop (tf ts n) (X + 1) (by omega)
  have hidem := runStart_idem (tf ts n) (X + 1) (by omega)
  have hmono := runStart_mono (tf ts n) (X + 1) (Y + 1) (by omega) (by omega)
  have hsame := runStart_same (tf ts n) (X + 1) (Y + 1) (by omega) (by omega)
  rw [← hP] at hPb hrun hstop hidem hmono hsame
  rw [← hR] at hRb hmono hsame
  obtain ⟨fi, hfi⟩ : ∃ fi : Int, fi = bi + (P : Nat) := ⟨_, rfl⟩
  obtain ⟨fj, hfj⟩ : ∃ fj : Int, fj = bi + (R : Nat) := ⟨_, rfl⟩
  have g1 : bi < fi := by omega
  have g2 : fi ≤ i := by omega
  have k5 : decide (fi ≤ bi) = false := by simp; omega
  have k6 : decide (i < fi) = false := by simp; omega
  have k7 : decide (fj < fi) = false := by simp; omega
  have hlast : (decide (fj ≤ i) = false) ∨ (decide (fj ≤ i) = true ∧ (fi != fj) = false) := by
    by_cases h : R ≤ X + 1
    · refine .inr ⟨by simp; omega, ?_⟩
      have := hsame h
      simp; omega
    · exact .inl (by simp; omega)
  have HFI := hide hfi
  have HFJ := hide hfj
  have HP := hide hP
  have HR := hide hR
  have HRUN := hide hrun
  have HSTOP := hide hstop
  have HID := hide hidem
  have HPB := hide hPb
  have HLAST := hide hlast
  clear hfi hfj hrun hstop hidem hmono hsame hP hR hPb hRb hlast
  have HX := hide hX
  have HY := hide hY
  clear hX hY
  have q23 := nilN23
  have hb : b < w.heap.size := World.block_lt_of_cell? w _ (hc 0 hn)
  go_enter Try.func6, Try.ntmps6
  go_wp2_with (first | (go_at_call 19; go_in) | (at_make; refine wpList_make_full _ rfl _ _ 23 rfl w.heap.size 22 i0 (.int .u64 0) 1 Try.underlying23 hi hz0 hz1 _ _ _ _ n rfl rfl rfl rfl (by rw [hz2]; omega) (by unfold maxLen; omega) (Nat.le_refl _) ?_))
  intro w1 hown hgrow
  have hB1 : Below w.heap.size w w1 := (Below.refl _ _).grown hgrow (Nat.le_refl _) (fun k hk => by cases hk)
  obtain ⟨cur, hcur, hcl⟩ := made_row hown
  have HC := hide hcur
  have HS := hide (src_cells hl (fun i hi => (hB1.cell (by exact hb)).trans (hc i hi)))
  clear hown hgrow hcur
  go_wp2_with (refine wpList_copy_splice rfl _ _ 23 23 rfl 22 Try.underlying23 size22 _ _ _ _ _ _ rfl rfl w.heap.size 0 cur 22 HC.out (ts.map (Value.int .u64)) (by simp [hl]) (fun _ => ⟨rfl, _, rfl, HS.out⟩) (by simp; omega) (ints_oneCell _ _) w.heap.size w hB1 (Nat.le_refl _) ?_)
  intro w2 HG2 hB2
  have hct := row_cells hl hcl HG2.out
  have HC2 := hide hct
  clear hct HC HS hB1
  go_wp2_with fail
  refine (mk_nil bi bt w.heap.size 0 n n ts _ hn hl hm hbi hbn HC2.out).mono ?_
  rintro e w3 ⟨L, rfl, ⟨E, hlog⟩, hb3⟩
  have hs2 : w.heap.size < w2.heap.size := World.block_lt_of_cell? w2 _ (HC2.out 0 hn)
  have hct3 : ∀ i, i < n → w3.cell? ⟨w.heap.size, 0 + i, none⟩ = some (.int .u64 (ts.getD i 0)) := fun i hi => by rw [hb3.cell (by exact hs2)]; exact HC2.out i hi
  have HC3 := hide hct3
  have HL := hide hlog
  have hB3 : Below w.heap.size w w3 := hB2.trans (hb3.mono hB2.size)
  clear hct3 hlog hb3 hB2 HC2 HG2
  go_wp2_with fail
  refine (fot17 L E n (X + 1) bi bt i ts _ _ HL.out hbi hbn HX.out (by omega) (by omega)).mono ?_
  rintro e w4 ⟨he4, q4, rfl⟩
  rw [← HP.out, ← HFI.out] at he4
  subst he4
  go_wp2_with fail
  refine (fot17 L E n (Y + 1) bi bt j ts _ _ (HL.out.drewN _) hbi hbn HY.out (by omega) (by omega)).mono ?_
  rintro e w5 ⟨he5, q5, rfl⟩
  rw [← HR.out, ← HFJ.out] at he5
  subst he5
  obtain ⟨z, hz⟩ : ∃ z, z = ts.getD X 0 := ⟨_, rfl⟩
  have ctX : w3.cell? ⟨w.heap.size, X, none⟩ = some (.int .u64 z) := by have := HC3.out X (by omega); rw [Nat.zero_add] at this; rw [this, hz]
  have HZ := hide hz
  have hXn : (X : Int) < (n : Int) := by omega
  clear hz
  go_wp2_with fail
  go_loop [17] (fun v => ∃ kk : Int, v = .int .u64 kk ∧ fi - 1 ≤ kk ∧ kk ≤ i) (fun v => (intOf v - fi + 1).toNat)
  case atStart => exact ⟨i, rfl, by omega, by omega⟩
  case round =>
    obtain ⟨kk, rfl, hk1, hk2⟩ := hrel
    by_cases hge : fi ≤ kk
    · obtain ⟨M, hM⟩ := Int.eq_ofNat_of_zero_le (show 0 ≤ kk - bi - 1 by omega)
      have hMn : (M : Int) < (n : Int) := by have := HX.out; omega
      have ctM : w3.cell? ⟨w.heap.size, M, none⟩ = some (.int .u64 z) := by
        have h0 := HC3.out M (by omega)
        have hX' := HX.out
        have hf := HFI.out
        rw [Nat.zero_add] at h0
        have h1 := HRUN.out (M + 1) (by omega) (by omega) (by omega)
        unfold tf at h1
        rw [if_pos ⟨by omega, by omega⟩, if_pos ⟨by omega, by omega⟩] at h1
        simp only [Nat.add_sub_cancel] at h1
        rw [h0, h1, HZ.out]
      go_wp2_with fail
      go_round
      case rel => exact ⟨kk - 1, rfl, by omega, by omega⟩
      case measure => simp [intOf]; omega
    · have hcd : ((1 < P ∧ decide (bi + 1 < fi) = true) ∨ (P = 1 ∧ decide (bi + 1 < fi) = false)) := by
        have := HFI.out
        have := HPB.out
        by_cases h : P = 1
        · exact .inr ⟨h, by simp; omega⟩
        · exact .inl ⟨by omega, by simp; omega⟩
      have hPP := HPB.out
      rcases hcd with ⟨hP1, hcd⟩ | ⟨hP1, hcd⟩
      · obtain ⟨z2, hz2'⟩ : ∃ z2, z2 = ts.getD (P - 2) 0 := ⟨_, rfl⟩
        have hix2 : fi - bi - 2 = ((P - 2 : Nat) : Int) := by have := HFI.out; omega
        obtain ⟨M2, hM2⟩ : ∃ M2, M2 = P - 2 := ⟨_, rfl⟩
        rw [← hM2] at hix2 hz2'
        have hMn : (M2 : Int) < (n : Int) := by omega
        have ct2 : w3.cell? ⟨w.heap.size, M2, none⟩ = some (.int .u64 z2) := by
          have h0 := HC3.out M2 (by omega)
          rw [Nat.zero_add] at h0
          rw [h0, hz2']
        have hne2 : (z2 == z) = false := by
          have h1 := HSTOP.out hP1
          unfold tf at h1
          rw [if_pos ⟨by omega, by omega⟩, if_pos ⟨by omega, by omega⟩] at h1
          simp only [Nat.add_sub_cancel] at h1
          rw [show P - 1 - 1 = M2 by omega] at h1
          rw [hz2', HZ.out]
          simpa using h1
        clear hz2' hM2 hPP
        go_wp2_with fail
        refine (fot17 L E n P bi bt fi ts _ _ (HL.out.drewN _) hbi hbn HFI.out HPB.out.1 (by omega)).mono ?_
        rintro e w6 ⟨he6, q6, rfl⟩
        rw [HID.out, ← HFI.out] at he6
        subst he6
        rcases HLAST.out with hla | ⟨hla, hlb⟩
        all_goals
          go_wp2_with fail
          go_ret
          exact ⟨rfl, below_drewN hB3 _⟩
      · clear hPP hP1
        go_wp2_with fail
        refine (fot17 L E n P bi bt fi ts _ _ (HL.out.drewN _) hbi hbn HFI.out HPB.out.1 (by omega)).mono ?_
        rintro e w6 ⟨he6, q6, rfl⟩
        rw [HID.out, ← HFI.out] at he6
        subst he6
        rcases HLAST.out with hla | ⟨hla, hlb⟩
        all_goals
          go_wp2_with fail
          go_ret
          exact ⟨rfl, below_drewN hB3 _⟩

set_option maxRecDepth 100000 in
set_option maxHeartbeats 1000000 in
theorem run_gt (bi bt i j : Int) (b off n c : Nat) (ts : List Int) (w : World) (hn : 0 < n) (hl : ts.length = n) (hm : n ≤ 131072) (hbi : 0 ≤ bi) (hbn : bi + n ≤ 18446744073709551615)
    (hc : ∀ i, i < n → w.cell? ⟨b, off + i, none⟩ = some (.int .u64 (ts.getD i 0))) (X Y : Nat) (hX : i = bi + (X + 1 : Nat)) (hY : j = bi + (Y + 1 : Nat)) (hXY : X < Y) (hYn : Y < n) :
    Calls Try.prog 6 #[.int .u64 bi, .int .u64 bt, .slice (some ⟨b, off, none⟩) n c, .int .u64 j, .int .u64 i] w fun e w' => e = .returned (.bool true) ∧ Below w.heap.size w w' := by
  obtain ⟨i0, hi, hz0, hz1, hz2⟩ := info_parts Try.info22
  have hi1 : bi < i := by omega
  have hi2 : i ≤ bi + n := by omega
  have hij : i < j := by omega
  have hj1 : bi < j := by omega
  have hj2 : j ≤ bi + n := by omega
  have k1 : decide (i ≤ bi) = false := by simp; omega
  have k2 : decide (bi + (n : Int) < i) = false := by simp; omega
  have k3 : decide (j ≤ bi) = false := by simp; omega
  have k4 : decide (bi + (n : Int) < j) = false := by simp; omega
  have hix : i - bi - 1 = (X : Int) := by omega
  obtain ⟨P, hP⟩ : ∃ P, P = runStart (tf ts n) (X + 1) := ⟨_, rfl⟩
  obtain ⟨R, hR⟩ : ∃ R, R = runStart (tf ts n) (Y + 1) := ⟨_, rfl⟩
  have hPb := runStart_bounds (tf ts n) (X + 1) (by omega)
  have hRb := runStart_bounds (tf ts n) (Y + 1) (by omega)
  have hrun := runStart_run (tf ts n) (X + 1)
  have hstop := runStart_stop (tf ts n) (X + 1) (by omega)
  have hidem := runStart_idem (tf ts n) (X + 1) (by omega)
  have hmono := runStart_mono (tf ts n) (X + 1) (Y + 1) (by omega) (by omega)
  have hsame := runStart_same (tf ts n) (X + 1) (Y + 1) (by omega) (by omega)
  rw [← hP] at hPb hrun hstop hidem hmono hsame
  rw [← hR] at hRb hmono hsame
  obtain ⟨fi, hfi⟩ : ∃ fi : Int, fi = bi + (P : Nat) := ⟨_, rfl⟩
  obtain ⟨fj, hfj⟩ : ∃ fj : Int, fj = bi + (R : Nat) := ⟨_, rfl⟩
  have g1 : bi < fi := by omega
  have g2 : fi ≤ i := by omega
  have k5 : decide (fi ≤ bi) = false := by simp; omega
  have k6 : decide (i < fi) = false := by simp; omega
  have k7 : decide (fj < fi) = false := by simp; omega
  have hlast : (decide (fj ≤ i) = false) ∨ (decide (fj ≤ i) = true ∧ (fi != fj) = false) := by
    by_cases h : R ≤ X + 1
    · refine .inr ⟨by simp; omega, ?_⟩
      have := hsame h
      simp; omega
    · exact .inl (by simp; omega)
  have HFI := hide hfi
  have HFJ := hide hfj
  have HP := hide hP
  have HR := hide hR
  have HRUN := hide hrun
  have HSTOP := hide hstop
  have HID := hide hidem
  have HPB := hide hPb
  have HLAST := hide hlast
  clear hfi hfj hrun hstop hidem hmono hsame hP hR hPb hRb hlast
  have HX := hide hX
  have HY := hide hY
  clear hX hY
  have q23 := nilN23
  have hb : b < w.heap.size := World.block_lt_of_cell? w _ (hc 0 hn)
  go_enter Try.func6, Try.ntmps6
  go_wp2_with (first | (go_at_call 19; go_in) | (at_make; refine wpList_make_full _ rfl _ _ 23 rfl w.heap.size 22 i0 (.int .u64 0) 1 Try.underlying23 hi hz0 hz1 _ _ _ _ n rfl rfl rfl rfl (by rw [hz2]; omega) (by unfold maxLen; omega) (Nat.le_refl _) ?_))
  intro w1 hown hgrow
  have hB1 : Below w.heap.size w w1 := (Below.refl _ _).grown hgrow (Nat.le_refl _) (fun k hk => by cases hk)
  obtain ⟨cur, hcur, hcl⟩ := made_row hown
  have HC := hide hcur
  have HS := hide (src_cells hl (fun i hi => (hB1.cell (by exact hb)).trans (hc i hi)))
  clear hown hgrow hcur
  go_wp2_with (refine wpList_copy_splice rfl _ _ 23 23 rfl 22 Try.underlying23 size22 _ _ _ _ _ _ rfl rfl w.heap.size 0 cur 22 HC.out (ts.map (Value.int .u64)) (by simp [hl]) (fun _ => ⟨rfl, _, rfl, HS.out⟩) (by simp; omega) (ints_oneCell _ _) w.heap.size w hB1 (Nat.le_refl _) ?_)
  intro w2 HG2 hB2
  have hct := row_cells hl hcl HG2.out
  have HC2 := hide hct
  clear hct HC HS hB1
  go_wp2_with fail
  refine (mk_nil bi bt w.heap.size 0 n n ts _ hn hl hm hbi hbn HC2.out).mono ?_
  rintro e w3 ⟨L, rfl, ⟨E, hlog⟩, hb3⟩
  have hs2 : w.heap.size < w2.heap.size := World.block_lt_of_cell? w2 _ (HC2.out 0 hn)
  have hct3 : ∀ i, i < n → w3.cell? ⟨w.heap.size, 0 + i, none⟩ = some (.int .u64 (ts.getD i 0)) := fun i hi => by rw [hb3.cell (by exact hs2)]; exact HC2.out i hi
  have HC3 := hide hct3
  have HL := hide hlog
  have hB3 : Below w.heap.size w w3 := hB2.trans (hb3.mono hB2.size)
  clear hct3 hlog hb3 hB2 HC2 HG2
  go_wp2_with fail
  refine (fot17 L E n (X + 1) bi bt i ts _ _ HL.out hbi hbn HX.out (by omega) (by omega)).mono ?_
  rintro e w4 ⟨he4, q4, rfl⟩
  rw [← HP.out, ← HFI.out] at he4
  subst he4
  go_wp2_with fail
  refine (fot17 L E n (Y + 1) bi bt j ts _ _ (HL.out.drewN _) hbi hbn HY.out (by omega) (by omega)).mono ?_
  rintro e w5 ⟨he5, q5, rfl⟩
  rw [← HR.out, ← HFJ.out] at he5
  subst he5
  obtain ⟨z, hz⟩ : ∃ z, z = ts.getD X 0 := ⟨_, rfl⟩
  have ctX : w3.cell? ⟨w.heap.size, X, none⟩ = some (.int .u64 z) := by have := HC3.out X (by omega); rw [Nat.zero_add] at this; rw [this, hz]
  have HZ := hide hz
  have hXn : (X : Int) < (n : Int) := by omega
  clear hz
  go_wp2_with fail
  go_loop [17] (fun v => ∃ kk : Int, v = .int .u64 kk ∧ fi - 1 ≤ kk ∧ kk ≤ i) (fun v => (intOf v - fi + 1).toNat)
  case atStart => exact ⟨i, rfl, by omega, by omega⟩
  case round =>
    obtain ⟨kk, rfl, hk1, hk2⟩ := hrel
    by_cases hge : fi ≤ kk
    · obtain ⟨M, hM⟩ := Int.eq_ofNat_of_zero_le (show 0 ≤ kk - bi - 1 by omega)
      have hMn : (M : Int) < (n : Int) := by have := HX.out; omega
      have ctM : w3.cell? ⟨w.heap.size, M, none⟩ = some (.int .u64 z) := by
        have h0 := HC3.out M (by omega)
        have hX' := HX.out
        have hf := HFI.out
        rw [Nat.zero_add] at h0
        have h1 := HRUN.out (M + 1) (by omega) (by omega) (by omega)
        unfold tf at h1
        rw [if_pos ⟨by omega, by omega⟩, if_pos ⟨by omega, by omega⟩] at h1
        simp only [Nat.add_sub_cancel] at h1
        rw [h0, h1, HZ.out]
      go_wp2_with fail
      go_round
      case rel => exact ⟨kk - 1, rfl, by omega, by omega⟩
      case measure => simp [intOf]; omega
    · have hcd : ((1 < P ∧ decide (bi + 1 < fi) = true) ∨ (P = 1 ∧ decide (bi + 1 < fi) = false)) := by
        have := HFI.out
        have := HPB.out
        by_cases h : P = 1
        · exact .inr ⟨h, by simp; omega⟩
        · exact .inl ⟨by omega, by simp; omega⟩
      have hPP := HPB.out
      rcases hcd with ⟨hP1, hcd⟩ | ⟨hP1, hcd⟩
      · obtain ⟨z2, hz2'⟩ : ∃ z2, z2 = ts.getD (P - 2) 0 := ⟨_, rfl⟩
        have hix2 : fi - bi - 2 = ((P - 2 : Nat) : Int) := by have := HFI.out; omega
        obtain ⟨M2, hM2⟩ : ∃ M2, M2 = P - 2 := ⟨_, rfl⟩
        rw [← hM2] at hix2 hz2'
        have hMn : (M2 : Int) < (n : Int) := by omega
        have ct2 : w3.cell? ⟨w.heap.size, M2, none⟩ = some (.int .u64 z2) := by
          have h0 := HC3.out M2 (by omega)
          rw [Nat.zero_add] at h0
          rw [h0, hz2']
        have hne2 : (z2 == z) = false := by
          have h1 := HSTOP.out hP1
          unfold tf at h1
          rw [if_pos ⟨by omega, by omega⟩, if_pos ⟨by omega, by omega⟩] at h1
          simp only [Nat.add_sub_cancel] at h1
          rw [show P - 1 - 1 = M2 by omega] at h1
          rw [hz2', HZ.out]
          simpa using h1
        clear hz2' hM2 hPP
        go_wp2_with fail
        refine (fot17 L E n P bi bt fi ts _ _ (HL.out.drewN _) hbi hbn HFI.out HPB.out.1 (by omega)).mono ?_
        rintro e w6 ⟨he6, q6, rfl⟩
        rw [HID.out, ← HFI.out] at he6
        subst he6
        rcases HLAST.out with hla | ⟨hla, hlb⟩
        all_goals
          go_wp2_with fail
          go_ret
          exact ⟨rfl, below_drewN hB3 _⟩
      · clear hPP hP1
        go_wp2_with fail
        refine (fot17 L E n P bi bt fi ts _ _ (HL.out.drewN _) hbi hbn HFI.out HPB.out.1 (by omega)).mono ?_
        rintro e w6 ⟨he6, q6, rfl⟩
        rw [HID.out, ← HFI.out] at he6
        subst he6
        rcases HLAST.out with hla | ⟨hla, hlb⟩
        all_goals
          go_wp2_with fail
          go_ret
          exact ⟨rfl, below_drewN hB3 _⟩
end Go.Proofs.Qxb6603126a
