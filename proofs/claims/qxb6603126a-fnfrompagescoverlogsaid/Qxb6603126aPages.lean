import Derived.Test.Qxb6603126aCopy
import Derived.Test.Qxb6603126aBytes
import Derived.Test.Qxb6603126aFrom
import Derived.Test.Qxb6603126aCloneE
namespace Go.Proofs.Qxb6603126a
open Go.RowKit

theorem nil30 : ∀ (w : World) (a : Option Addr) (n c n' c' : Nat), (binOp .eql 30 (.slice a n c) (.slice none n' c')).run Try.prog w = .ok (.bool a.isNone) w :=
  fun w a n c n' c' => Lib.run_eql_slice_nil w _ _ a n c n' c' Try.underlying30


set_option maxRecDepth 100000 in
set_option maxHeartbeats 2000000 in
theorem pages_all (bi bt lo mx : Int) (ta : Option Addr) (n tc : Nat) (da : Option Addr) (m dc : Nat) (ts : List Int) (A : Nat → Option Addr) (L C : Nat → Nat) (Z : Nat → List Int) (w : World) (hbi : 0 ≤ bi) (hbm : bi ≤ 18446744073709551615) (hn : n ≤ maxLen) (hm : m ≤ maxLen)
    (hz : Elems .u64 w ta n ts) (htn : ta = none → n = 0 ∧ tc = 0) (hd : DatasAt w da m A L C Z) (hdn : da = none → m = 0 ∧ dc = 0) :
    Calls Try.prog 4 #[.int .u64 bi, .int .u64 bt, .slice ta n tc, .slice da m dc, .int .u64 lo, .int .i64 mx] w fun e w' => e = .returned (.bool true) ∧ Below w.heap.size w w' := by
  obtain ⟨i0, hi, hz0, hz1, hz2⟩ := info_parts Try.info22
  have q23 := nilN23
  have q30 := nil30
  have HD := hide hd
  have HZ := hide hz
  have HDN := hide hdn
  have HTN := hide htn
  clear hd hz hdn htn
  go_enter Try.func4, Try.ntmps4
  go_wp2_with fail
  refine (bytes15_any bi bt lo mx ta n tc da m dc A L C Z _ hn hm HD.out).mono ?_
  rintro e w1 (⟨rfl, hw1⟩ | ⟨rfl, hw1, hbd⟩)
  · have hw2 := hw1.symm
    subst hw2
    go_wp2_with fail
    go_ret
    exact ⟨rfl, Below.refl _ _⟩
  have hw2 := hw1.symm
  subst hw2
  have HBD := hide hbd
  clear hbd
  go_wp2_with fail
  refine (logBytes_any ta n tc da m dc A L C Z _ HBD.out HD.out).mono ?_
  rintro e w1 ⟨r, rfl, hw1, hsm⟩
  have hw2 := hw1.symm
  subst hw2
  have HSM := hide hsm
  clear hsm
  by_cases hr : r < 0
  · go_wp2_with fail
    go_ret
    exact ⟨rfl, Below.refl _ _⟩
  have hs3 := HSM.out (by omega)
  have hn1 : n ≤ 131072 := hs3.1
  have HSUM := hide hs3.2.2
  clear hs3 HSM HBD
  by_cases hmn : ¬ m = n
  · have hmb : ((m : Int) != (n : Int)) = true := by simp; omega
    go_wp2_with fail
    go_ret
    exact ⟨rfl, Below.refl _ _⟩
  obtain rfl : m = n := by omega
  clear hmn
  by_cases hbase : 18446744073709551615 - (m : Int) ≤ bi
  · go_wp2_with fail
    go_ret
    exact ⟨rfl, Below.refl _ _⟩
  by_cases hlo : lo ≤ bi
  · go_wp2_with fail
    go_ret
    exact ⟨rfl, Below.refl _ _⟩
  have hbm1 : bi + m < 18446744073709551615 := by omega
  by_cases hm0 : 0 < m
  · obtain ⟨b, off, rfl, hc⟩ := HZ.out.2 hm0
    have hl := HZ.out.1
    have hb : b < w.heap.size := World.block_lt_of_cell? w _ (hc 0 hm0)
    have HCC := hide hc
    clear hc
    go_wp2_with (at_make; refine wpList_make_full _ rfl _ _ 23 rfl w.heap.size 22 i0 (.int .u64 0) 1 Try.underlying23 hi hz0 hz1 _ _ _ _ m rfl rfl rfl rfl (by rw [hz2]; omega) (by unfold maxLen; omega) (Nat.le_refl _) ?_)
    intro w1 hown hgrow
    have hB1 : Below w.heap.size w w1 := (Below.refl _ _).grown hgrow (Nat.le_refl _) (fun k hk => by cases hk)
    obtain ⟨cur, hcur, hcl⟩ := made_row hown
    have HC := hide hcur
    have HS := hide (src_cells hl (fun i hi => (hB1.cell (by exact hb)).trans (HCC.out i hi)))
    clear hown hgrow hcur
    go_wp2_with (refine wpList_copy_splice rfl _ _ 23 23 rfl 22 Try.underlying23 size22 _ _ _ _ _ _ rfl rfl w.heap.size 0 cur 22 HC.out (ts.map (Value.int .u64)) (by simp [hl]) (fun _ => ⟨rfl, _, rfl, HS.out⟩) (by simp; omega) (ints_oneCell _ _) w.heap.size w hB1 (Nat.le_refl _) ?_)
    intro w2 HG2 hB2
    have HE : Hid (Elems .u64 w2 (some ⟨w.heap.size, 0, none⟩) m ts) := hide ⟨hl, fun _ => ⟨w.heap.size, 0, rfl, row_cells hl hcl HG2.out⟩⟩
    clear HC HS hB1 HG2
    go_wp2_with fail
    refine (cloneD_any da m dc A L C Z _ (by omega) HSUM.out (HD.out.below hB2) (fun h => ⟨(by first | rfl | exact (HDN.out h).1), (HDN.out h).2⟩)).mono ?_
    rintro e w3 ⟨a', c', rfl, hcopy, hb3⟩
    obtain ⟨A', C', hdc, hsame⟩ := hcopy
    have HDC := hide hdc
    have HSAME := hide hsame
    have hB3 : Below w.heap.size w w3 := hB2.trans (hb3.mono hB2.size)
    have HE3 := hide (HE.out.below hb3)
    clear hdc hsame hb3 HE hB2
    go_wp2_with fail
    refine (mk_datas bi bt (some ⟨w.heap.size, 0, none⟩) m m a' c' ts A' L C' Z _ (by omega) hbi (by omega) HSUM.out HE3.out HDC.out).mono ?_
    rintro e w5 ⟨L', rfl, ⟨E, hlog⟩, hb5⟩
    have HL := hide hlog
    have HE5 := hide (HE3.out.below hb5)
    have HC5 := hide (HDC.out.below hb5)
    have hB5 : Below w.heap.size w w5 := hB3.trans (hb5.mono hB3.size)
    have HD5 := hide (HD.out.below hB5)
    clear hlog hb5 hB3 HE3 HDC
    by_cases hpast : bi + m < lo
    · have hnp : ¬ lo ≤ bi + (m : Int) := by omega
      go_wp2_with fail
      refine wp_loop_rounds 1 ?_
      rw [rounds_succ]
      go_wp2_with fail
      refine (from13_nil L' E m bi bt lo mx ts _ _ HL.out hbi (by omega) (by omega)).mono ?_
      rintro e w6 ⟨rfl, q1, rfl⟩
      go_wp2_with fail
      go_ret
      exact ⟨rfl, below_drewN hB5 _⟩
    obtain ⟨f, hf⟩ := Int.eq_ofNat_of_zero_le (show 0 ≤ lo - bi - 1 by omega)
    have hfn : f < m := by omega
    have HF := hide hf
    clear hf
    obtain ⟨bd, od, rfl, hcd⟩ := HD5.out.row hm0
    have HCD := hide hcd
    have HT : Hid (∀ i, i < m → w5.cell? ⟨w.heap.size, i, none⟩ = some (.int .u64 (ts.getD i 0))) := by
      obtain ⟨b5, o5, e5, h5⟩ := HE5.out.2 hm0
      simp only [Option.some.injEq, Addr.mk.injEq, and_true] at e5
      obtain ⟨rfl, rfl⟩ := e5
      exact hide (fun i hi => by have := h5 i hi; rwa [Nat.zero_add] at this)
    clear hcd
    go_wp2_with fail
    go_loopw [17] (fun vc wr => ∃ g q : Nat, ∃ cc : Int, g ≤ m ∧ vc = .int .u64 cc ∧ cc - bi - 1 = (g : Int) ∧ wr = w5.drewN q) (fun vc _ => (bi + m + 1 - intOf vc).toNat)
    case atStart => exact ⟨f, 0, lo, by omega, rfl, HF.out, rfl⟩
    case round =>
      obtain ⟨g, q, cc, hgm, rfl, hcg, rfl⟩ := hrel
      have hcc : bi < cc := by omega
      by_cases hg : g < m
      · have hle : cc ≤ bi + (m : Int) := by omega
        have HCG := hide hcg
        clear hcg
        go_wp2_with fail
        refine (from13_some L' E m g bi bt cc mx ts A' L C' _ (HL.out.drewN _) hbi hbm1 HSUM.out HCG.out hg).mono ?_
        rintro e w6 ⟨K, rfl, hcut, q1, rfl⟩
        have hK1 := hcut.one
        have hK2 := hcut.fit
        have HCUT := hide hcut
        have kk1 : ((K : Int) == 0) = false := by simp; omega
        have kk2 : decide (bi + (m : Int) - cc + 1 < (K : Int)) = false := by have := HCG.out; simp; omega
        have hcb : cc + (K : Int) ≤ 18446744073709551615 := by have := HCG.out; omega
        clear hcut
        have hcg := HCG.out
        go_wp2_with fail
        go_loopw [19, 20] (fun vs vx wr => ∃ x S q : Nat, x ≤ K ∧ vx = .int .i64 x ∧ vs = .int .i64 S ∧ Hid (S = seg L g x) ∧ wr = w5.drewN q) (fun _ vx _ => K - (intOf vx).toNat)
        case atStart => exact ⟨0, 0, _, Nat.zero_le _, rfl, rfl, hide rfl, rfl⟩
        case round =>
          obtain ⟨x, S, q2, hxK, rfl, rfl, hS, rfl⟩ := hrel
          have hSb : S ≤ 1048576 := by have h1 := seg_le L g x m (by omega); have h2 := hS.out; have h3 := HSUM.out; omega
          by_cases hx : x < K
          · have hgx : g + x < m := by omega
            have hx' : (x : Int) < (K : Int) := by omega
            have hgx' : (g : Int) + (x : Int) < (m : Int) := by omega
            have ci : w5.cell? ⟨E, g * 4 + x * 4, none⟩ = some (.int .u64 (cc + (x : Int))) := by
              rw [show g * 4 + x * 4 = (g + x) * 4 by omega, HL.out.idx (g + x) hgx]
              exact congrArg (fun t => some (Value.int .u64 t)) (by omega)
            obtain ⟨z, hz'⟩ : ∃ z, z = ts.getD (g + x) 0 := ⟨_, rfl⟩
            have ct : w5.cell? ⟨E, g * 4 + x * 4 + 1, none⟩ = some (.int .u64 z) := by
              rw [show g * 4 + x * 4 + 1 = (g + x) * 4 + 1 by omega, HL.out.term (g + x) hgx, hz']
            have cT : w5.cell? ⟨w.heap.size, g + x, none⟩ = some (.int .u64 z) := by rw [HT.out (g + x) hgx, hz']
            obtain ⟨l, hl'⟩ : ∃ l, l = L (g + x) := ⟨_, rfl⟩
            have cd : w5.cell? ⟨E, g * 4 + x * 4 + 2, none⟩ = some (.slice (A' (g + x)) l (C' (g + x))) := by
              rw [show g * 4 + x * 4 + 2 = (g + x) * 4 + 2 by omega, HL.out.data (g + x) hgx, hl']
              rfl
            have hlb : l ≤ 1048576 := by have h1 := le_sumTo L (g + x) m hgx; have h3 := HSUM.out; omega
            have HL1 := hide hl'
            clear hz' hl'
            go_wp2_with fail
            go_quiet (fail)
            go_wp2_with fail
            go_roundw
            case rel => exact ⟨x + 1, S + l, _, by omega, by go_num, by go_num, hide (by rw [seg_succ, ← HL1.out, hS.out]), rfl⟩
            case measure => simp [intOf]; omega
          · obtain rfl : x = K := by omega
            have hnx : ¬ (x : Int) < (x : Int) := by omega
            have hlow : decide ((1 : Int) < (x : Int)) = false ∨ (decide ((1 : Int) < (x : Int)) = true ∧ decide (mx < (S : Int)) = false) := by
              by_cases h1 : x = 1
              · exact .inl (by simp; omega)
              · refine .inr ⟨by simp; omega, ?_⟩
                have h2 := HCUT.out.low x (by omega) (Nat.le_refl _)
                rw [← hS.out] at h2
                simp; omega
            have HLOW := hide hlow
            clear hlow
            by_cases hend : g + x < m
            · obtain ⟨G, hG⟩ : ∃ G, G = g + x := ⟨_, rfl⟩
              have hnext : cc + (x : Int) - bi - 1 = (G : Int) := by omega
              have hGm : (G : Int) < (m : Int) := by omega
              obtain ⟨l, hl'⟩ : ∃ l, l = L G := ⟨_, rfl⟩
              have cD : w5.cell? ⟨bd, od + G, none⟩ = some (.slice (A G) l (C G)) := by rw [HCD.out G (by omega), hl']
              have hlb : l ≤ 1048576 := by have h1 := le_sumTo L G m (by omega); have h3 := HSUM.out; omega
              have kk3 : decide (cc + (x : Int) ≤ bi + (m : Int)) = true := by simp; omega
              have kk4 : decide ((S : Int) + (l : Int) ≤ mx) = false := by
                have h2 := HCUT.out.high hend
                rw [seg_succ, ← hS.out, ← hG, ← hl'] at h2
                simp; omega
              have HG := hide hG
              clear hG hl'
              rcases HLOW.out with h1 | ⟨h1, h2⟩
              all_goals
                go_wp2_with fail
                go_roundw
                case rel => exact ⟨G, _, cc + x, by omega, rfl, hnext, rfl⟩
                case measure => simp [intOf]; omega
            · have kk3 : decide (cc + (x : Int) ≤ bi + (m : Int)) = false := by simp; omega
              rcases HLOW.out with h1 | ⟨h1, h2⟩
              all_goals
                go_wp2_with fail
                go_roundw
                case rel => exact ⟨g + x, _, cc + x, by omega, rfl, by omega, rfl⟩
                case measure => simp [intOf]; omega
      · have hnle : ¬ cc ≤ bi + (m : Int) := by omega
        go_wp2_with fail
        refine (from13_nil L' E m bi bt cc mx ts _ _ (HL.out.drewN _) hbi (by omega) (by omega)).mono ?_
        rintro e w6 ⟨rfl, q1, rfl⟩
        go_wp2_with fail
        go_ret
        exact ⟨rfl, below_drewN hB5 _⟩
  · obtain rfl : m = 0 := by omega
    obtain rfl : ts = [] := List.eq_nil_of_length_eq_zero HZ.out.1
    have hpast : bi < lo := by omega
    cases ta with
    | none =>
      obtain ⟨-, rfl⟩ := HTN.out rfl
      have hB2 : Below w.heap.size w w := Below.refl _ _
      have HE : Hid (Elems .u64 w none 0 []) := HZ
      go_wp2_with fail
      refine (cloneD_any da 0 dc A L C Z _ (by omega) HSUM.out (HD.out.below hB2) (fun h => ⟨(by first | rfl | exact (HDN.out h).1), (HDN.out h).2⟩)).mono ?_
      rintro e w3 ⟨a', c', rfl, hcopy, hb3⟩
      obtain ⟨A', C', hdc, hsame⟩ := hcopy
      have HDC := hide hdc
      have HSAME := hide hsame
      have hB3 : Below w.heap.size w w3 := hB2.trans (hb3.mono hB2.size)
      have HE3 := hide (HE.out.below hb3)
      clear hdc hsame hb3 HE hB2
      go_wp2_with fail
      refine (mk_datas bi bt none 0 0 a' c' [] A' L C' Z _ (by omega) hbi (by omega) HSUM.out HE3.out HDC.out).mono ?_
      rintro e w5 ⟨L', rfl, ⟨E, hlog⟩, hb5⟩
      have HL := hide hlog
      have HE5 := hide (HE3.out.below hb5)
      have HC5 := hide (HDC.out.below hb5)
      have hB5 : Below w.heap.size w w5 := hB3.trans (hb5.mono hB3.size)
      have HD5 := hide (HD.out.below hB5)
      clear hlog hb5 hB3 HE3 HDC
      have hnp : ¬ lo ≤ bi := by omega
      go_wp2_with fail
      refine wp_loop_rounds 1 ?_
      rw [rounds_succ]
      go_wp2_with fail
      refine (from13_nil L' E 0 bi bt lo mx [] _ _ HL.out hbi (by omega) (by omega)).mono ?_
      rintro e w6 ⟨rfl, q1, rfl⟩
      go_wp2_with fail
      go_ret
      exact ⟨rfl, below_drewN hB5 _⟩
    | some x =>
      go_wp2_with (at_make; refine wpList_make_full _ rfl _ _ 23 rfl w.heap.size 22 i0 (.int .u64 0) 1 Try.underlying23 hi hz0 hz1 _ _ _ _ 0 rfl rfl rfl rfl (by omega) (by unfold maxLen; omega) (Nat.le_refl _) ?_)
      intro w2 hown hgrow
      have hB2 : Below w.heap.size w w2 := (Below.refl _ _).grown hgrow (Nat.le_refl _) (fun k hk => by cases hk)
      have HE : Hid (Elems .u64 w2 (some ⟨w.heap.size, 0, none⟩) 0 []) := hide ⟨rfl, fun h => absurd h (by omega)⟩
      clear hown hgrow
      go_wp2_with (refine wpList_copy_nothing rfl _ _ 23 23 rfl 22 Try.underlying23 size22 _ _ _ _ _ _ rfl rfl rfl ?_)
      try go_wp2_with fail
      refine (cloneD_any da 0 dc A L C Z _ (by omega) HSUM.out (HD.out.below hB2) (fun h => ⟨(by first | rfl | exact (HDN.out h).1), (HDN.out h).2⟩)).mono ?_
      rintro e w3 ⟨a', c', rfl, hcopy, hb3⟩
      obtain ⟨A', C', hdc, hsame⟩ := hcopy
      have HDC := hide hdc
      have HSAME := hide hsame
      have hB3 : Below w.heap.size w w3 := hB2.trans (hb3.mono hB2.size)
      have HE3 := hide (HE.out.below hb3)
      clear hdc hsame hb3 HE hB2
      go_wp2_with fail
      refine (mk_datas bi bt (some ⟨w.heap.size, 0, none⟩) 0 0 a' c' [] A' L C' Z _ (by omega) hbi (by omega) HSUM.out HE3.out HDC.out).mono ?_
      rintro e w5 ⟨L', rfl, ⟨E, hlog⟩, hb5⟩
      have HL := hide hlog
      have HE5 := hide (HE3.out.below hb5)
      have HC5 := hide (HDC.out.below hb5)
      have hB5 : Below w.heap.size w w5 := hB3.trans (hb5.mono hB3.size)
      have HD5 := hide (HD.out.below hB5)
      clear hlog hb5 hB3 HE3 HDC
      have hnp : ¬ lo ≤ bi := by omega
      go_wp2_with fail
      refine wp_loop_rounds 1 ?_
      rw [rounds_succ]
      go_wp2_with fail
      refine (from13_nil L' E 0 bi bt lo mx [] _ _ HL.out hbi (by omega) (by omega)).mono ?_
      rintro e w6 ⟨rfl, q1, rfl⟩
      go_wp2_with fail
      go_ret
      exact ⟨rfl, below_drewN hB5 _⟩
end Go.Proofs.Qxb6603126a
