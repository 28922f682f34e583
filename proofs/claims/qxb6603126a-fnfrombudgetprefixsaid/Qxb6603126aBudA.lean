import Derived.Test.Qxb6603126aCopy
import Derived.Test.Qxb6603126aBytes
import Derived.Test.Qxb6603126aFrom
import Derived.Test.Qxb6603126aCloneE
import Derived.LaidEql
namespace Go.Proofs.Qxb6603126a
open Go.RowKit

theorem nil30 : ∀ (w : World) (a : Option Addr) (n c n' c' : Nat), (binOp .eql 30 (.slice a n c) (.slice none n' c')).run Try.prog w = .ok (.bool a.isNone) w :=
  fun w a n c n' c' => Lib.run_eql_slice_nil w _ _ a n c n' c' Try.underlying30

theorem ptrIn52 (d : Nat) (w : World) (a : Addr) : (Op.equalIn (d + 1) 52 (.pointer (some a)) (.pointer (some a))).run Try.prog w = .ok true w := by
  obtain ⟨i0, hi, _⟩ := info_parts Try.info35
  simp [Op.equalIn, run_underlying Try.underlying52, sizeOf, typeInfo, hi, run_sameAddr_same]

theorem ptrN52 : ∀ (w : World) (a : Addr), (binOp .neq 52 (.pointer (some a)) (.pointer (some a))).run Try.prog w = .ok (.bool false) w := by
  intro w a
  simp only [binOp]
  simp [Op.equal, Op.maxDepth, ptrIn52 9999 w a]

theorem cut_mono {L : Nat → Nat} {f n : Nat} {m1 m2 : Int} {K1 K2 : Nat} (h1 : Cut L f n m1 K1) (h2 : Cut L f n m2 K2) (h : m1 ≤ m2) : K1 ≤ K2 := by
  by_cases hc : K2 < K1
  · have a := h2.high (by have := h1.fit; omega)
    have b := h1.low (K2 + 1) (by have := h2.one; omega) (by omega)
    omega
  · omega

set_option maxRecDepth 100000 in
set_option maxHeartbeats 2000000 in
theorem bud_le (bi bt lo m1 m2 : Int) (ta : Option Addr) (n tc : Nat) (da : Option Addr) (m dc : Nat) (ts : List Int) (A : Nat → Option Addr) (L C : Nat → Nat) (Z : Nat → List Int) (w : World) (hbi : 0 ≤ bi) (hbm : bi ≤ 18446744073709551615) (hn : n ≤ maxLen) (hm : m ≤ maxLen)
    (hz : Elems .u64 w ta n ts) (htn : ta = none → n = 0 ∧ tc = 0) (hd : DatasAt w da m A L C Z) (hdn : da = none → m = 0 ∧ dc = 0) (hord : m1 ≤ m2) :
    Calls Try.prog 8 #[.int .u64 bi, .int .u64 bt, .slice ta n tc, .slice da m dc, .int .u64 lo, .int .i64 m1, .int .i64 m2] w fun e w' => e = .returned (.bool true) ∧ Below w.heap.size w w' := by
  obtain ⟨i0, hi, hz0, hz1, hz2⟩ := info_parts Try.info22
  have q23 := nilN23
  have q30 := nil30
  have HD := hide hd
  have HZ := hide hz
  have HDN := hide hdn
  have HTN := hide htn
  clear hd hz hdn htn
  have p52 := ptrN52
  go_enter Try.func8, Try.ntmps8
  go_wp2_with fail
  refine (bytes25_any bi bt lo m1 m2 ta n tc da m dc A L C Z _ hn hm HD.out).mono ?_
  rintro e w1 (⟨rfl, hw1⟩ | ⟨rfl, hw1, hbd⟩)
  · have hw2 := hw1.symm
    subst hw2
    go_wp2_with fail
    go_ret
    exact ⟨rfl, Below.refl _ _⟩
  have hw2 := hw1.symm
  subst hw2
  have HBD := hide hbd
  clear hbd
  go_wp2_with fail
  refine (logBytes_any ta n tc da m dc A L C Z _ HBD.out HD.out).mono ?_
  rintro e w1 ⟨r, rfl, hw1, hsm⟩
  have hw2 := hw1.symm
  subst hw2
  have HSM := hide hsm
  clear hsm
  by_cases hr : r < 0
  · go_wp2_with fail
    go_ret
    exact ⟨rfl, Below.refl _ _⟩
  have hs3 := HSM.out (by omega)
  have hn1 : n ≤ 131072 := hs3.1
  have HSUM := hide hs3.2.2
  clear hs3 HSM HBD
  by_cases hmn : ¬ m = n
  · have hmb : ((m : Int) != (n : Int)) = true := by simp; omega
    go_wp2_with fail
    go_ret
    exact ⟨rfl, Below.refl _ _⟩
  obtain rfl : m = n := by omega
  clear hmn
  by_cases hbase : 18446744073709551615 - (m : Int) ≤ bi
  · go_wp2_with fail
    go_ret
    exact ⟨rfl, Below.refl _ _⟩
  by_cases hlo : lo ≤ bi
  · go_wp2_with fail
    go_ret
    exact ⟨rfl, Below.refl _ _⟩
  have hbm1 : bi + m < 18446744073709551615 := by omega
  by_cases hm0 : 0 < m
  · obtain ⟨b, off, rfl, hc⟩ := HZ.out.2 hm0
    have hl := HZ.out.1
    have hb : b < w.heap.size := World.block_lt_of_cell? w _ (hc 0 hm0)
    have HCC := hide hc
    clear hc
    go_wp2_with (at_make; refine wpList_make_full _ rfl _ _ 23 rfl w.heap.size 22 i0 (.int .u64 0) 1 Try.underlying23 hi hz0 hz1 _ _ _ _ m rfl rfl rfl rfl (by rw [hz2]; omega) (by unfold maxLen; omega) (Nat.le_refl _) ?_)
    intro w1 hown hgrow
    have hB1 : Below w.heap.size w w1 := (Below.refl _ _).grown hgrow (Nat.le_refl _) (fun k hk => by cases hk)
    obtain ⟨cur, hcur, hcl⟩ := made_row hown
    have HC := hide hcur
    have HS := hide (src_cells hl (fun i hi => (hB1.cell (by exact hb)).trans (HCC.out i hi)))
    clear hown hgrow hcur
    go_wp2_with (refine wpList_copy_splice rfl _ _ 23 23 rfl 22 Try.underlying23 size22 _ _ _ _ _ _ rfl rfl w.heap.size 0 cur 22 HC.out (ts.map (Value.int .u64)) (by simp [hl]) (fun _ => ⟨rfl, _, rfl, HS.out⟩) (by simp; omega) (ints_oneCell _ _) w.heap.size w hB1 (Nat.le_refl _) ?_)
    intro w2 HG2 hB2
    have HE : Hid (Elems .u64 w2 (some ⟨w.heap.size, 0, none⟩) m ts) := hide ⟨hl, fun _ => ⟨w.heap.size, 0, rfl, row_cells hl hcl HG2.out⟩⟩
    clear HC HS hB1 HG2
    go_wp2_with fail
    refine (cloneD_any da m dc A L C Z _ (by omega) HSUM.out (HD.out.below hB2) (fun h => ⟨(by first | rfl | exact (HDN.out h).1), (HDN.out h).2⟩)).mono ?_
    rintro e w3 ⟨a', c', rfl, hcopy, hb3⟩
    obtain ⟨A', C', hdc, hsame⟩ := hcopy
    have HDC := hide hdc
    have HSAME := hide hsame
    have hB3 : Below w.heap.size w w3 := hB2.trans (hb3.mono hB2.size)
    have HE3 := hide (HE.out.below hb3)
    clear hdc hsame hb3 HE hB2
    go_wp2_with fail
    refine (mk_datas bi bt (some ⟨w.heap.size, 0, none⟩) m m a' c' ts A' L C' Z _ (by omega) hbi (by omega) HSUM.out HE3.out HDC.out).mono ?_
    rintro e w5 ⟨L', rfl, ⟨E, hlog⟩, hb5⟩
    have HL := hide hlog
    have HE5 := hide (HE3.out.below hb5)
    have HC5 := hide (HDC.out.below hb5)
    have hB5 : Below w.heap.size w w5 := hB3.trans (hb5.mono hB3.size)
    have HD5 := hide (HD.out.below hB5)
    clear hlog hb5 hB3 HE3 HDC
    by_cases hpast : bi + m < lo
    · go_wp2_with fail
      refine (from13_nil L' E m bi bt lo m1 ts _ _ HL.out hbi (by omega) (by omega)).mono ?_
      rintro e w6 ⟨rfl, q1, rfl⟩
      go_wp2_with fail
      refine (from13_nil L' E m bi bt lo m2 ts _ _ (HL.out.drewN _) hbi (by omega) (by omega)).mono ?_
      rintro e w7 ⟨rfl, q2, rfl⟩
      go_wp2_with fail
      go_ret
      exact ⟨rfl, below_drewN hB5 _⟩
    obtain ⟨f, hf⟩ := Int.eq_ofNat_of_zero_le (show 0 ≤ lo - bi - 1 by omega)
    have hfn : f < m := by omega
    have HF := hide hf
    clear hf
    go_wp2_with fail
    refine (from13_some L' E m f bi bt lo m1 ts A' L C' _ HL.out hbi hbm1 HSUM.out HF.out hfn).mono ?_
    rintro e w6 ⟨K1, rfl, hc1, q1, rfl⟩
    have HC1 := hide hc1
    clear hc1
    go_wp2_with fail
    refine (from13_some L' E m f bi bt lo m2 ts A' L C' _ (HL.out.drewN _) hbi hbm1 HSUM.out HF.out hfn).mono ?_
    rintro e w7 ⟨K2, rfl, hc2, q2, rfl⟩
    have hK := cut_mono HC1.out hc2 (by omega)
    have hk1 := HC1.out.one
    have hk2 := hc2.fit
    have kk1 : decide ((K1 : Int) < 1) = false := by simp; omega
    have kk2 : decide ((K2 : Int) < (K1 : Int)) = false := by simp; omega
    have hnp : ¬ bi + (m : Int) < lo := by omega
    clear hc2
    go_wp2_with fail
    go_loopw [21] (fun vx wr => ∃ x q : Nat, x ≤ K1 ∧ vx = .int .i64 x ∧ wr = w5.drewN q) (fun vx _ => K1 - (intOf vx).toNat)
    case atStart => exact ⟨0, _, Nat.zero_le _, rfl, rfl⟩
    case round =>
      obtain ⟨x, q, hx, rfl, rfl⟩ := hrel
      by_cases hlt : x < K1
      · have hlt1 : (x : Int) < (K1 : Int) := by omega
        have hlt2 : (x : Int) < (K2 : Int) := by omega
        go_wp2_with fail
        go_quiet (fail)
        go_wp2_with fail
        go_roundw
        case rel => exact ⟨x + 1, _, by omega, by go_num, rfl⟩
        case measure => simp [intOf]; omega
      · have hge : ¬ (x : Int) < (K1 : Int) := by omega
        go_wp2_with fail
        go_ret
        exact ⟨rfl, below_drewN hB5 _⟩
  · obtain rfl : m = 0 := by omega
    obtain rfl : ts = [] := List.eq_nil_of_length_eq_zero HZ.out.1
    have hpast : bi < lo := by omega
    cases ta with
    | none =>
      obtain ⟨-, rfl⟩ := HTN.out rfl
      have hB2 : Below w.heap.size w w := Below.refl _ _
      have HE : Hid (Elems .u64 w none 0 []) := HZ
      go_wp2_with fail
      refine (cloneD_any da 0 dc A L C Z _ (by omega) HSUM.out (HD.out.below hB2) (fun h => ⟨(by first | rfl | exact (HDN.out h).1), (HDN.out h).2⟩)).mono ?_
      rintro e w3 ⟨a', c', rfl, hcopy, hb3⟩
      obtain ⟨A', C', hdc, hsame⟩ := hcopy
      have HDC := hide hdc
      have HSAME := hide hsame
      have hB3 : Below w.heap.size w w3 := hB2.trans (hb3.mono hB2.size)
      have HE3 := hide (HE.out.below hb3)
      clear hdc hsame hb3 HE hB2
      go_wp2_with fail
      refine (mk_datas bi bt none 0 0 a' c' [] A' L C' Z _ (by omega) hbi (by omega) HSUM.out HE3.out HDC.out).mono ?_
      rintro e w5 ⟨L', rfl, ⟨E, hlog⟩, hb5⟩
      have HL := hide hlog
      have HE5 := hide (HE3.out.below hb5)
      have HC5 := hide (HDC.out.below hb5)
      have hB5 : Below w.heap.size w w5 := hB3.trans (hb5.mono hB3.size)
      have HD5 := hide (HD.out.below hB5)
      clear hlog hb5 hB3 HE3 HDC
      go_wp2_with fail
      refine (from13_nil L' E 0 bi bt lo m1 [] _ _ HL.out hbi (by omega) (by omega)).mono ?_
      rintro e w6 ⟨rfl, q1, rfl⟩
      go_wp2_with fail
      refine (from13_nil L' E 0 bi bt lo m2 [] _ _ (HL.out.drewN _) hbi (by omega) (by omega)).mono ?_
      rintro e w7 ⟨rfl, q2, rfl⟩
      go_wp2_with fail
      go_ret
      exact ⟨rfl, below_drewN hB5 _⟩
    | some x =>
      go_wp2_with (at_make; refine wpList_make_full _ rfl _ _ 23 rfl w.heap.size 22 i0 (.int .u64 0) 1 Try.underlying23 hi hz0 hz1 _ _ _ _ 0 rfl rfl rfl rfl (by omega) (by unfold maxLen; omega) (Nat.le_refl _) ?_)
      intro w2 hown hgrow
      have hB2 : Below w.heap.size w w2 := (Below.refl _ _).grown hgrow (Nat.le_refl _) (fun k hk => by cases hk)
      have HE : Hid (Elems .u64 w2 (some ⟨w.heap.size, 0, none⟩) 0 []) := hide ⟨rfl, fun h => absurd h (by omega)⟩
      clear hown hgrow
      go_wp2_with (refine wpList_copy_nothing rfl _ _ 23 23 rfl 22 Try.underlying23 size22 _ _ _ _ _ _ rfl rfl rfl ?_)
      try go_wp2_with fail
      refine (cloneD_any da 0 dc A L C Z _ (by omega) HSUM.out (HD.out.below hB2) (fun h => ⟨(by first | rfl | exact (HDN.out h).1), (HDN.out h).2⟩)).mono ?_
      rintro e w3 ⟨a', c', rfl, hcopy, hb3⟩
      obtain ⟨A', C', hdc, hsame⟩ := hcopy
      have HDC := hide hdc
      have HSAME := hide hsame
      have hB3 : Below w.heap.size w w3 := hB2.trans (hb3.mono hB2.size)
      have HE3 := hide (HE.out.below hb3)
      clear hdc hsame hb3 HE hB2
      go_wp2_with fail
      refine (mk_datas bi bt (some ⟨w.heap.size, 0, none⟩) 0 0 a' c' [] A' L C' Z _ (by omega) hbi (by omega) HSUM.out HE3.out HDC.out).mono ?_
      rintro e w5 ⟨L', rfl, ⟨E, hlog⟩, hb5⟩
      have HL := hide hlog
      have HE5 := hide (HE3.out.below hb5)
      have HC5 := hide (HDC.out.below hb5)
      have hB5 : Below w.heap.size w w5 := hB3.trans (hb5.mono hB3.size)
      have HD5 := hide (HD.out.below hB5)
      clear hlog hb5 hB3 HE3 HDC
      go_wp2_with fail
      refine (from13_nil L' E 0 bi bt lo m1 [] _ _ HL.out hbi (by omega) (by omega)).mono ?_
      rintro e w6 ⟨rfl, q1, rfl⟩
      go_wp2_with fail
      refine (from13_nil L' E 0 bi bt lo m2 [] _ _ (HL.out.drewN _) hbi (by omega) (by omega)).mono ?_
      rintro e w7 ⟨rfl, q2, rfl⟩
      go_wp2_with fail
      go_ret
      exact ⟨rfl, below_drewN hB5 _⟩

set_option maxRecDepth 100000 in
set_option maxHeartbeats 2000000 in
theorem bud_gt (bi bt lo m1 m2 : Int) (ta : Option Addr) (n tc : Nat) (da : Option Addr) (m dc : Nat) (ts : List Int) (A : Nat → Option Addr) (L C : Nat → Nat) (Z : Nat → List Int) (w : World) (hbi : 0 ≤ bi) (hbm : bi ≤ 18446744073709551615) (hn : n ≤ maxLen) (hm : m ≤ maxLen)
    (hz : Elems .u64 w ta n ts) (htn : ta = none → n = 0 ∧ tc = 0) (hd : DatasAt w da m A L C Z) (hdn : da = none → m = 0 ∧ dc = 0) (hord : m2 < m1) :
    Calls Try.prog 8 #[.int .u64 bi, .int .u64 bt, .slice ta n tc, .slice da m dc, .int .u64 lo, .int .i64 m1, .int .i64 m2] w fun e w' => e = .returned (.bool true) ∧ Below w.heap.size w w' := by
  obtain ⟨i0, hi, hz0, hz1, hz2⟩ := info_parts Try.info22
  have q23 := nilN23
  have q30 := nil30
  have HD := hide hd
  have HZ := hide hz
  have HDN := hide hdn
  have HTN := hide htn
  clear hd hz hdn htn
  have p52 := ptrN52
  go_enter Try.func8, Try.ntmps8
  go_wp2_with fail
  refine (bytes25_any bi bt lo m1 m2 ta n tc da m dc A L C Z _ hn hm HD.out).mono ?_
  rintro e w1 (⟨rfl, hw1⟩ | ⟨rfl, hw1, hbd⟩)
  · have hw2 := hw1.symm
    subst hw2
    go_wp2_with fail
    go_ret
    exact ⟨rfl, Below.refl _ _⟩
  have hw2 := hw1.symm
  subst hw2
  have HBD := hide hbd
  clear hbd
  go_wp2_with fail
  refine (logBytes_any ta n tc da m dc A L C Z _ HBD.out HD.out).mono ?_
  rintro e w1 ⟨r, rfl, hw1, hsm⟩
  have hw2 := hw1.symm
  subst hw2
  have HSM := hide hsm
  clear hsm
  by_cases hr : r < 0
  · go_wp2_with fail
    go_ret
    exact ⟨rfl, Below.refl _ _⟩
  have hs3 := HSM.out (by omega)
  have hn1 : n ≤ 131072 := hs3.1
  have HSUM := hide hs3.2.2
  clear hs3 HSM HBD
  by_cases hmn : ¬ m = n
  · have hmb : ((m : Int) != (n : Int)) = true := by simp; omega
    go_wp2_with fail
    go_ret
    exact ⟨rfl, Below.refl _ _⟩
  obtain rfl : m = n := by omega
  clear hmn
  by_cases hbase : 18446744073709551615 - (m : Int) ≤ bi
  · go_wp2_with fail
    go_ret
    exact ⟨rfl, Below.refl _ _⟩
  by_cases hlo : lo ≤ bi
  · go_wp2_with fail
    go_ret
    exact ⟨rfl, Below.refl _ _⟩
  have hbm1 : bi + m < 18446744073709551615 := by omega
  by_cases hm0 : 0 < m
  · obtain ⟨b, off, rfl, hc⟩ := HZ.out.2 hm0
    have hl := HZ.out.1
    have hb : b < w.heap.size := World.block_lt_of_cell? w _ (hc 0 hm0)
    have HCC := hide hc
    clear hc
    go_wp2_with (at_make; refine wpList_make_full _ rfl _ _ 23 rfl w.heap.size 22 i0 (.int .u64 0) 1 Try.underlying23 hi hz0 hz1 _ _ _ _ m rfl rfl rfl rfl (by rw [hz2]; omega) (by unfold maxLen; omega) (Nat.le_refl _) ?_)
    intro w1 hown hgrow
    have hB1 : Below w.heap.size w w1 := (Below.refl _ _).grown hgrow (Nat.le_refl _) (fun k hk => by cases hk)
    obtain ⟨cur, hcur, hcl⟩ := made_row hown
    have HC := hide hcur
    have HS := hide (src_cells hl (fun i hi => (hB1.cell (by exact hb)).trans (HCC.out i hi)))
    clear hown hgrow hcur
    go_wp2_with (refine wpList_copy_splice rfl _ _ 23 23 rfl 22 Try.underlying23 size22 _ _ _ _ _ _ rfl rfl w.heap.size 0 cur 22 HC.out (ts.map (Value.int .u64)) (by simp [hl]) (fun _ => ⟨rfl, _, rfl, HS.out⟩) (by simp; omega) (ints_oneCell _ _) w.heap.size w hB1 (Nat.le_refl _) ?_)
    intro w2 HG2 hB2
    have HE : Hid (Elems .u64 w2 (some ⟨w.heap.size, 0, none⟩) m ts) := hide ⟨hl, fun _ => ⟨w.heap.size, 0, rfl, row_cells hl hcl HG2.out⟩⟩
    clear HC HS hB1 HG2
    go_wp2_with fail
    refine (cloneD_any da m dc A L C Z _ (by omega) HSUM.out (HD.out.below hB2) (fun h => ⟨(by first | rfl | exact (HDN.out h).1), (HDN.out h).2⟩)).mono ?_
    rintro e w3 ⟨a', c', rfl, hcopy, hb3⟩
    obtain ⟨A', C', hdc, hsame⟩ := hcopy
    have HDC := hide hdc
    have HSAME := hide hsame
    have hB3 : Below w.heap.size w w3 := hB2.trans (hb3.mono hB2.size)
    have HE3 := hide (HE.out.below hb3)
    clear hdc hsame hb3 HE hB2
    go_wp2_with fail
    refine (mk_datas bi bt (some ⟨w.heap.size, 0, none⟩) m m a' c' ts A' L C' Z _ (by omega) hbi (by omega) HSUM.out HE3.out HDC.out).mono ?_
    rintro e w5 ⟨L', rfl, ⟨E, hlog⟩, hb5⟩
    have HL := hide hlog
    have HE5 := hide (HE3.out.below hb5)
    have HC5 := hide (HDC.out.below hb5)
    have hB5 : Below w.heap.size w w5 := hB3.trans (hb5.mono hB3.size)
    have HD5 := hide (HD.out.below hB5)
    clear hlog hb5 hB3 HE3 HDC
    by_cases hpast : bi + m < lo
    · go_wp2_with fail
      refine (from13_nil L' E m bi bt lo m2 ts _ _ HL.out hbi (by omega) (by omega)).mono ?_
      rintro e w6 ⟨rfl, q1, rfl⟩
      go_wp2_with fail
      refine (from13_nil L' E m bi bt lo m1 ts _ _ (HL.out.drewN _) hbi (by omega) (by omega)).mono ?_
      rintro e w7 ⟨rfl, q2, rfl⟩
      go_wp2_with fail
      go_ret
      exact ⟨rfl, below_drewN hB5 _⟩
    obtain ⟨f, hf⟩ := Int.eq_ofNat_of_zero_le (show 0 ≤ lo - bi - 1 by omega)
    have hfn : f < m := by omega
    have HF := hide hf
    clear hf
    go_wp2_with fail
    refine (from13_some L' E m f bi bt lo m2 ts A' L C' _ HL.out hbi hbm1 HSUM.out HF.out hfn).mono ?_
    rintro e w6 ⟨K1, rfl, hc1, q1, rfl⟩
    have HC1 := hide hc1
    clear hc1
    go_wp2_with fail
    refine (from13_some L' E m f bi bt lo m1 ts A' L C' _ (HL.out.drewN _) hbi hbm1 HSUM.out HF.out hfn).mono ?_
    rintro e w7 ⟨K2, rfl, hc2, q2, rfl⟩
    have hK := cut_mono HC1.out hc2 (by omega)
    have hk1 := HC1.out.one
    have hk2 := hc2.fit
    have kk1 : decide ((K1 : Int) < 1) = false := by simp; omega
    have kk2 : decide ((K2 : Int) < (K1 : Int)) = false := by simp; omega
    have hnp : ¬ bi + (m : Int) < lo := by omega
    clear hc2
    go_wp2_with fail
    go_loopw [21] (fun vx wr => ∃ x q : Nat, x ≤ K1 ∧ vx = .int .i64 x ∧ wr = w5.drewN q) (fun vx _ => K1 - (intOf vx).toNat)
    case atStart => exact ⟨0, _, Nat.zero_le _, rfl, rfl⟩
    case round =>
      obtain ⟨x, q, hx, rfl, rfl⟩ := hrel
      by_cases hlt : x < K1
      · have hlt1 : (x : Int) < (K1 : Int) := by omega
        have hlt2 : (x : Int) < (K2 : Int) := by omega
        go_wp2_with fail
        go_quiet (fail)
        go_wp2_with fail
        go_roundw
        case rel => exact ⟨x + 1, _, by omega, by go_num, rfl⟩
        case measure => simp [intOf]; omega
      · have hge : ¬ (x : Int) < (K1 : Int) := by omega
        go_wp2_with fail
        go_ret
        exact ⟨rfl, below_drewN hB5 _⟩
  · obtain rfl : m = 0 := by omega
    obtain rfl : ts = [] := List.eq_nil_of_length_eq_zero HZ.out.1
    have hpast : bi < lo := by omega
    cases ta with
    | none =>
      obtain ⟨-, rfl⟩ := HTN.out rfl
      have hB2 : Below w.heap.size w w := Below.refl _ _
      have HE : Hid (Elems .u64 w none 0 []) := HZ
      go_wp2_with fail
      refine (cloneD_any da 0 dc A L C Z _ (by omega) HSUM.out (HD.out.below hB2) (fun h => ⟨(by first | rfl | exact (HDN.out h).1), (HDN.out h).2⟩)).mono ?_
      rintro e w3 ⟨a', c', rfl, hcopy, hb3⟩
      obtain ⟨A', C', hdc, hsame⟩ := hcopy
      have HDC := hide hdc
      have HSAME := hide hsame
      have hB3 : Below w.heap.size w w3 := hB2.trans (hb3.mono hB2.size)
      have HE3 := hide (HE.out.below hb3)
      clear hdc hsame hb3 HE hB2
      go_wp2_with fail
      refine (mk_datas bi bt none 0 0 a' c' [] A' L C' Z _ (by omega) hbi (by omega) HSUM.out HE3.out HDC.out).mono ?_
      rintro e w5 ⟨L', rfl, ⟨E, hlog⟩, hb5⟩
      have HL := hide hlog
      have HE5 := hide (HE3.out.below hb5)
      have HC5 := hide (HDC.out.below hb5)
      have hB5 : Below w.heap.size w w5 := hB3.trans (hb5.mono hB3.size)
      have HD5 := hide (HD.out.below hB5)
      clear hlog hb5 hB3 HE3 HDC
      go_wp2_with fail
      refine (from13_nil L' E 0 bi bt lo m2 [] _ _ HL.out hbi (by omega) (by omega)).mono ?_
      rintro e w6 ⟨rfl, q1, rfl⟩
      go_wp2_with fail
      refine (from13_nil L' E 0 bi bt lo m1 [] _ _ (HL.out.drewN _) hbi (by omega) (by omega)).mono ?_
      rintro e w7 ⟨rfl, q2, rfl⟩
      go_wp2_with fail
      go_ret
      exact ⟨rfl, below_drewN hB5 _⟩
    | some x =>
      go_wp2_with (at_make; refine wpList_make_full _ rfl _ _ 23 rfl w.heap.size 22 i0 (.int .u64 0) 1 Try.underlying23 hi hz0 hz1 _ _ _ _ 0 rfl rfl rfl rfl (by omega) (by unfold maxLen; omega) (Nat.le_refl _) ?_)
      intro w2 hown hgrow
      have hB2 : Below w.heap.size w w2 := (Below.refl _ _).grown hgrow (Nat.le_refl _) (fun k hk => by cases hk)
      have HE : Hid (Elems .u64 w2 (some ⟨w.heap.size, 0, none⟩) 0 []) := hide ⟨rfl, fun h => absurd h (by omega)⟩
      clear hown hgrow
      go_wp2_with (refine wpList_copy_nothing rfl _ _ 23 23 rfl 22 Try.underlying23 size22 _ _ _ _ _ _ rfl rfl rfl ?_)
      try go_wp2_with fail
      refine (cloneD_any da 0 dc A L C Z _ (by omega) HSUM.out (HD.out.below hB2) (fun h => ⟨(by first | rfl | exact (HDN.out h).1), (HDN.out h).2⟩)).mono ?_
      rintro e w3 ⟨a', c', rfl, hcopy, hb3⟩
      obtain ⟨A', C', hdc, hsame⟩ := hcopy
      have HDC := hide hdc
      have HSAME := hide hsame
      have hB3 : Below w.heap.size w w3 := hB2.trans (hb3.mono hB2.size)
      have HE3 := hide (HE.out.below hb3)
      clear hdc hsame hb3 HE hB2
      go_wp2_with fail
      refine (mk_datas bi bt (some ⟨w.heap.size, 0, none⟩) 0 0 a' c' [] A' L C' Z _ (by omega) hbi (by omega) HSUM.out HE3.out HDC.out).mono ?_
      rintro e w5 ⟨L', rfl, ⟨E, hlog⟩, hb5⟩
      have HL := hide hlog
      have HE5 := hide (HE3.out.below hb5)
      have HC5 := hide (HDC.out.below hb5)
      have hB5 : Below w.heap.size w w5 := hB3.trans (hb5.mono hB3.size)
      have HD5 := hide (HD.out.below hB5)
      clear hlog hb5 hB3 HE3 HDC
      go_wp2_with fail
      refine (from13_nil L' E 0 bi bt lo m2 [] _ _ HL.out hbi (by omega) (by omega)).mono ?_
      rintro e w6 ⟨rfl, q1, rfl⟩
      go_wp2_with fail
      refine (from13_nil L' E 0 bi bt lo m1 [] _ _ (HL.out.drewN _) hbi (by omega) (by omega)).mono ?_
      rintro e w7 ⟨rfl, q2, rfl⟩
      go_wp2_with fail
      go_ret
      exact ⟨rfl, below_drewN hB5 _⟩
end Go.Proofs.Qxb6603126a
