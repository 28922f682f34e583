import Derived.Test.Qxb6603126aCopy
import Derived.Test.Qxb6603126aBytes
import Derived.Test.Qxb6603126aFrom
import Derived.Test.Qxb6603126aCloneE
import Derived.Test.Qxb6603126aSame
namespace Go.Proofs.Qxb6603126a
open Go.RowKit

theorem nil30 : ∀ (w : World) (a : Option Addr) (n c n' c' : Nat), (binOp .eql 30 (.slice a n c) (.slice none n' c')).run Try.prog w = .ok (.bool a.isNone) w :=
  fun w a n c n' c' => Lib.run_eql_slice_nil w _ _ a n c n' c' Try.underlying30


theorem wrap_i64 (n : Int) (h1 : 0 ≤ n) (h2 : n < 9223372036854775808) : IntKind.i64.wrap n = n := by
  simp [IntKind.wrap, IntKind.bits, IntKind.signed]
  omega

set_option maxRecDepth 100000 in
set_option maxHeartbeats 2000000 in
theorem from_exact (bi bt lo mx : Int) (ta : Option Addr) (n tc : Nat) (da : Option Addr) (m dc : Nat) (ts : List Int) (A : Nat → Option Addr) (L C : Nat → Nat) (Z : Nat → List Int) (w : World) (hbi : 0 ≤ bi) (hbm : bi ≤ 18446744073709551615) (hn : n ≤ maxLen) (hm : m ≤ maxLen)
    (hz : Elems .u64 w ta n ts) (htn : ta = none → n = 0 ∧ tc = 0) (hd : DatasAt w da m A L C Z) (hdn : da = none → m = 0 ∧ dc = 0) :
    Calls Try.prog 3 #[.int .u64 bi, .int .u64 bt, .slice ta n tc, .slice da m dc, .int .u64 lo, .int .i64 mx] w fun e w' => e = .returned (.bool true) ∧ Below w.heap.size w w' := by
  obtain ⟨i0, hi, hz0, hz1, hz2⟩ := info_parts Try.info22
  have q23 := nilN23
  have q30 := nil30
  have HD := hide hd
  have HZ := hide hz
  have HDN := hide hdn
  have HTN := hide htn
  clear hd hz hdn htn
  go_enter Try.func3, Try.ntmps3
  go_wp2_with fail
  refine (bytes9_any bi bt lo mx ta n tc da m dc A L C Z _ hn hm HD.out).mono ?_
  rintro e w1 (⟨rfl, hw1⟩ | ⟨rfl, hw1, hbd⟩)
  · have hw2 := hw1.symm
    subst hw2
    go_wp2_with fail
    go_ret
    exact ⟨rfl, Below.refl _ _⟩
  have hw2 := hw1.symm
  subst hw2
  have HBD := hide hbd
  clear hbd
  go_wp2_with fail
  refine (logBytes_any ta n tc da m dc A L C Z _ HBD.out HD.out).mono ?_
  rintro e w1 ⟨r, rfl, hw1, hsm⟩
  have hw2 := hw1.symm
  subst hw2
  have HSM := hide hsm
  clear hsm
  by_cases hr : r < 0
  · go_wp2_with fail
    go_ret
    exact ⟨rfl, Below.refl _ _⟩
  have hs3 := HSM.out (by omega)
  have hn1 : n ≤ 131072 := hs3.1
  have HSUM := hide hs3.2.2
  clear hs3 HSM HBD
  by_cases hmn : ¬ m = n
  · have hmb : ((m : Int) != (n : Int)) = true := by simp; omega
    go_wp2_with fail
    go_ret
    exact ⟨rfl, Below.refl _ _⟩
  obtain rfl : m = n := by omega
  clear hmn
  by_cases hbase : 18446744073709551615 - (m : Int) ≤ bi
  · go_wp2_with fail
    go_ret
    exact ⟨rfl, Below.refl _ _⟩
  by_cases hlo : lo ≤ bi
  · go_wp2_with fail
    go_ret
    exact ⟨rfl, Below.refl _ _⟩
  have hbm1 : bi + m < 18446744073709551615 := by omega
  by_cases hm0 : 0 < m
  · obtain ⟨b, off, rfl, hc⟩ := HZ.out.2 hm0
    have hl := HZ.out.1
    have hb : b < w.heap.size := World.block_lt_of_cell? w _ (hc 0 hm0)
    have HCC := hide hc
    clear hc
    go_wp2_with (at_make; refine wpList_make_full _ rfl _ _ 23 rfl w.heap.size 22 i0 (.int .u64 0) 1 Try.underlying23 hi hz0 hz1 _ _ _ _ m rfl rfl rfl rfl (by rw [hz2]; omega) (by unfold maxLen; omega) (Nat.le_refl _) ?_)
    intro w1 hown hgrow
    have hB1 : Below w.heap.size w w1 := (Below.refl _ _).grown hgrow (Nat.le_refl _) (fun k hk => by cases hk)
    obtain ⟨cur, hcur, hcl⟩ := made_row hown
    have HC := hide hcur
    have HS := hide (src_cells hl (fun i hi => (hB1.cell (by exact hb)).trans (HCC.out i hi)))
    clear hown hgrow hcur
    go_wp2_with (refine wpList_copy_splice rfl _ _ 23 23 rfl 22 Try.underlying23 size22 _ _ _ _ _ _ rfl rfl w.heap.size 0 cur 22 HC.out (ts.map (Value.int .u64)) (by simp [hl]) (fun _ => ⟨rfl, _, rfl, HS.out⟩) (by simp; omega) (ints_oneCell _ _) w.heap.size w hB1 (Nat.le_refl _) ?_)
    intro w2 HG2 hB2
    have HE : Hid (Elems .u64 w2 (some ⟨w.heap.size, 0, none⟩) m ts) := hide ⟨hl, fun _ => ⟨w.heap.size, 0, rfl, row_cells hl hcl HG2.out⟩⟩
    clear HC HS hB1 HG2
    go_wp2_with fail
    refine (cloneD_any da m dc A L C Z _ (by omega) HSUM.out (HD.out.below hB2) (fun h => ⟨(by first | rfl | exact (HDN.out h).1), (HDN.out h).2⟩)).mono ?_
    rintro e w3 ⟨a', c', rfl, hcopy, hb3⟩
    obtain ⟨A', C', hdc, hsame⟩ := hcopy
    have HDC := hide hdc
    have HSAME := hide hsame
    have hB3 : Below w.heap.size w w3 := hB2.trans (hb3.mono hB2.size)
    have HE3 := hide (HE.out.below hb3)
    clear hdc hsame hb3 HE hB2
    go_wp2_with fail
    refine (mk_datas bi bt (some ⟨w.heap.size, 0, none⟩) m m a' c' ts A' L C' Z _ (by omega) hbi (by omega) HSUM.out HE3.out HDC.out).mono ?_
    rintro e w5 ⟨L', rfl, ⟨E, hlog⟩, hb5⟩
    have HL := hide hlog
    have HE5 := hide (HE3.out.below hb5)
    have HC5 := hide (HDC.out.below hb5)
    have hB5 : Below w.heap.size w w5 := hB3.trans (hb5.mono hB3.size)
    have HD5 := hide (HD.out.below hB5)
    clear hlog hb5 hB3 HE3 HDC
    by_cases hpast : bi + m < lo
    · go_wp2_with fail
      refine (from13_nil L' E m bi bt lo mx ts _ _ HL.out hbi (by omega) (by omega)).mono ?_
      rintro e w6 ⟨rfl, q1, rfl⟩
      go_wp2_with fail
      go_ret
      exact ⟨rfl, below_drewN hB5 _⟩
    obtain ⟨f, hf⟩ := Int.eq_ofNat_of_zero_le (show 0 ≤ lo - bi - 1 by omega)
    have hfn : f < m := by omega
    have HF := hide hf
    clear hf
    obtain ⟨bd, od, rfl, hcd⟩ := HD5.out.row hm0
    have HCD := hide hcd
    have HT : Hid (∀ i, i < m → w5.cell? ⟨w.heap.size, i, none⟩ = some (.int .u64 (ts.getD i 0))) := by
      obtain ⟨b5, o5, e5, h5⟩ := HE5.out.2 hm0
      simp only [Option.some.injEq, Addr.mk.injEq, and_true] at e5
      obtain ⟨rfl, rfl⟩ := e5
      exact hide (fun i hi => by have := h5 i hi; rwa [Nat.zero_add] at this)
    clear hcd
    go_wp2_with fail
    refine (from13_some L' E m f bi bt lo mx ts A' L C' _ HL.out hbi hbm1 HSUM.out HF.out hfn).mono ?_
    rintro e w6 ⟨K, rfl, hcut, q1, rfl⟩
    have hK1 := hcut.one
    have hK2 := hcut.fit
    have HCUT := hide hcut
    have hnp : ¬ bi + (m : Int) < lo := by have := HF.out; omega
    clear hcut
    have hff := HF.out
    have hfm : (f : Int) < (m : Int) := by omega
    go_wp2_with fail
    go_loop [20, 21] (fun vt vx => ∃ x S : Nat, f ≤ x ∧ x ≤ m ∧ vx = .int .i64 x ∧ vt = .int .i64 S ∧ Hid (S = seg L f (x - f))) (fun _ vx => m - (intOf vx).toNat)
    case atStart => exact ⟨f, 0, Nat.le_refl _, by omega, rfl, rfl, hide (by rw [Nat.sub_self]; rfl)⟩
    case round =>
      obtain ⟨x, S, hfx, hxm, rfl, rfl, hS⟩ := hrel
      have hSb : S ≤ 1048576 := by have h1 := seg_le L f (x - f) m (by omega); have h2 := hS.out; have h3 := HSUM.out; omega
      by_cases hx : x < m
      · have hx' : (x : Int) < (m : Int) := by omega
        obtain ⟨l, hl'⟩ : ∃ l, l = L x := ⟨_, rfl⟩
        have cD : w5.cell? ⟨bd, od + x, none⟩ = some (.slice (A x) l (C x)) := by rw [HCD.out x hx, hl']
        have hlb : l ≤ 1048576 := by have h1 := le_sumTo L x m hx; have h3 := HSUM.out; omega
        have HL1 := hide hl'
        clear hl'
        go_wp2_with fail
        go_round
        case rel => exact ⟨x + 1, S + l, by omega, by omega, by go_num, by go_num, hide (by rw [show x + 1 - f = (x - f) + 1 by omega, seg_succ, show f + (x - f) = x by omega, ← HL1.out, hS.out])⟩
        case measure => simp [intOf]; omega
      · obtain rfl : x = m := by omega
        have hnx : ¬ (x : Int) < (x : Int) := by omega
        go_wp2_with fail
        go_loop [19, 20] (fun vk vt => ∃ kk S' : Nat, K ≤ kk + 1 ∧ f + kk + 1 ≤ x ∧ vk = .int .i64 ((kk : Int) + 1) ∧ vt = .int .i64 S' ∧ Hid (S' = seg L f (kk + 1))) (fun vk _ => (intOf vk).toNat)
        case atStart => exact ⟨x - f - 1, S, by omega, by omega, congrArg (Value.int .i64) (by omega), rfl, hide (by rw [hS.out, show x - f - 1 + 1 = x - f by omega])⟩
        case round =>
          obtain ⟨kk, S', hKk, hkm, rfl, rfl, hS'⟩ := hrel
          have hSb' : S' ≤ 1048576 := by have h1 := seg_le L f (kk + 1) x (by omega); have h2 := hS'.out; have h3 := HSUM.out; omega
          by_cases hgo : 1 ≤ kk ∧ mx < (S' : Int)
          · obtain ⟨hk1, hmx⟩ := hgo
            have kk1 : decide ((1 : Int) < (kk : Int) + 1) = true := by simp; omega
            have kk2 : decide (mx < (S' : Int)) = true := by simp; omega
            have hK' : K ≤ kk := by
              by_cases h : K = kk + 1
              · have h2 := HCUT.out.low (kk + 1) (by omega) (by omega)
                rw [← hS'.out] at h2
                omega
              · omega
            obtain ⟨l, hl'⟩ : ∃ l, l = L (f + kk) := ⟨_, rfl⟩
            have cD : w5.cell? ⟨bd, od + (f + kk), none⟩ = some (.slice (A (f + kk)) l (C (f + kk))) := by rw [HCD.out (f + kk) (by omega), hl']
            have hsum : S' = seg L f kk + l := by rw [hS'.out, seg_succ, hl']
            have hfk : (f : Int) + (kk : Int) < (x : Int) := by omega
            have HSM := hide hsum
            have hlS : l ≤ S' := by omega
            clear hl' hsum
            go_wp2_with fail
            go_round
            case rel => exact ⟨kk - 1, seg L f kk, by omega, by omega, congrArg (Value.int .i64) (by omega), congrArg (Value.int .i64) (by have := HSM.out; omega), hide (by rw [show kk - 1 + 1 = kk by omega])⟩
            case measure => simp [intOf]
          · have hKeq : K = kk + 1 := by
              by_cases h : K < kk + 1
              · have h2 := HCUT.out.high (by omega)
                have h3 := seg_mono L f (K + 1) (kk + 1) (by omega)
                rw [← hS'.out] at h3
                omega
              · omega
            have e1 : ((K : Int) != (kk : Int) + 1) = false := by simp; omega
            have hout : decide ((1 : Int) < (kk : Int) + 1) = false ∨ (decide ((1 : Int) < (kk : Int) + 1) = true ∧ decide (mx < (S' : Int)) = false) := by
              by_cases h : kk = 0
              · exact .inl (by simp; omega)
              · exact .inr ⟨by simp; omega, by simp; omega⟩
            have HOUT := hide hout
            have HKE := hide hKeq
            have hKk2 : (K : Int) = (kk : Int) + 1 := by omega
            have HK2 := hide hKk2
            clear hout hgo hKeq hKk2
            rcases HOUT.out with h1 | ⟨h1, h2⟩
            all_goals
              go_wp2_with fail
              go_loopw [22] (fun vx wr => ∃ y q : Nat, y ≤ K ∧ vx = .int .i64 y ∧ wr = w5.drewN q) (fun vx _ => K - (intOf vx).toNat)
              case atStart => exact ⟨0, _, Nat.zero_le _, rfl, rfl⟩
              case round =>
                obtain ⟨y, q, hyK, rfl, rfl⟩ := hrel
                by_cases hy : y < K
                · have hfy : f + y < x := by omega
                  have hy1 : (y : Int) < (kk : Int) + 1 := by have := HK2.out; omega
                  have hy2 : (y : Int) < (K : Int) := by omega
                  have hfy' : (f : Int) + (y : Int) < (x : Int) := by omega
                  have hloy : lo + (y : Int) ≤ 18446744073709551615 := by omega
                  have ci : w5.cell? ⟨E, f * 4 + y * 4, none⟩ = some (.int .u64 (lo + (y : Int))) := by
                    rw [show f * 4 + y * 4 = (f + y) * 4 by omega, HL.out.idx (f + y) hfy]
                    exact congrArg (fun t => some (Value.int .u64 t)) (by omega)
                  obtain ⟨z, hz'⟩ : ∃ z, z = ts.getD (f + y) 0 := ⟨_, rfl⟩
                  have ct : w5.cell? ⟨E, f * 4 + y * 4 + 1, none⟩ = some (.int .u64 z) := by
                    rw [show f * 4 + y * 4 + 1 = (f + y) * 4 + 1 by omega, HL.out.term (f + y) hfy, hz']
                  have cT : w5.cell? ⟨w.heap.size, f + y, none⟩ = some (.int .u64 z) := by rw [HT.out (f + y) hfy, hz']
                  obtain ⟨l, hl'⟩ : ∃ l, l = L (f + y) := ⟨_, rfl⟩
                  have cd : w5.cell? ⟨E, f * 4 + y * 4 + 2, none⟩ = some (.slice (A' (f + y)) l (C' (f + y))) := by
                    rw [show f * 4 + y * 4 + 2 = (f + y) * 4 + 2 by omega, HL.out.data (f + y) hfy, hl']
                    rfl
                  have cm : w5.cell? ⟨E, f * 4 + y * 4 + 3, none⟩ = some (.pointer none) := by
                    rw [show f * 4 + y * 4 + 3 = (f + y) * 4 + 3 by omega, HL.out.mem (f + y) hfy]
                  have cD : w5.cell? ⟨bd, od + (f + y), none⟩ = some (.slice (A (f + y)) l (C (f + y))) := by rw [HCD.out (f + y) hfy, hl']
                  have hlb : l ≤ 1048576 := by have h1 := le_sumTo L (f + y) x hfy; have h3 := HSUM.out; omega
                  have hsame : ∀ W : World, Elems .u8 W (A' (f + y)) l (Z (f + y)) → Elems .u8 W (A (f + y)) l (Z (f + y)) → Calls Try.prog 14 #[.slice (A' (f + y)) l (C' (f + y)), .slice (A (f + y)) l (C (f + y))] W fun e w' => e = .returned (.bool true) ∧ ∃ q', w' = W.drewN q' :=
                    fun W h1 h2 => same_any _ _ _ _ _ (Z (f + y)) W hlb h1 h2 (HSAME.out (f + y) hfy)
                  have hel1 : Elems .u8 w5 (A' (f + y)) l (Z (f + y)) := by rw [hl']; exact HC5.out.bytes (f + y) hfy
                  have hel2 : Elems .u8 w5 (A (f + y)) l (Z (f + y)) := by rw [hl']; exact HD5.out.bytes (f + y) hfy
                  have HE1 := hide hel1
                  have HE2 := hide hel2
                  clear hel1 hel2
                  have HSA := hide hsame
                  clear hz' hl' hsame
                  go_wp2_with fail
                  go_quiet (fail)
                  go_wp2_with fail
                  obtain ⟨rr, hrr⟩ : ∃ rr, rr = f + y := ⟨_, rfl⟩
                  have hwr : IntKind.i64.wrap ((f : Int) + (y : Int)) = (rr : Int) := by rw [wrap_i64 _ (by omega) (by omega)]; omega
                  have hrx : (rr : Int) < (x : Int) := by omega
                  have cR : w5.cell? ⟨bd, od + rr, none⟩ = some (.slice (A (f + y)) l (C (f + y))) := by rw [hrr]; exact cD
                  clear hrr
                  have hcall : ∀ n0, Calls Try.prog 14 #[.slice (A' (f + y)) l (C' (f + y)), .slice (A (f + y)) l (C (f + y))] (w5.drewN (q + nq + n0)) fun e w' => e = .returned (.bool true) ∧ ∃ q', w' = w5.drewN (q + nq + q') :=
                    fun n0 => (HSA.out (w5.drewN (q + nq + n0)) HE1.out HE2.out).mono fun e w' ⟨he, q', hq'⟩ => ⟨he, n0 + q', by rw [hq', World.drewN_drewN, Nat.add_assoc]⟩
                  have HCA := hide hcall
                  clear hcall
                  go_quiet ((go_at_call 14; exact HCA.out _))
                  go_wp2_with fail
                  go_roundw
                  case rel => exact ⟨y + 1, _, by omega, by go_num, rfl⟩
                  case measure => simp [intOf]; omega
                · have hny : ¬ (y : Int) < (kk : Int) + 1 := by have := HK2.out; omega
                  go_wp2_with fail
                  go_ret
                  exact ⟨rfl, below_drewN hB5 _⟩
  · obtain rfl : m = 0 := by omega
    obtain rfl : ts = [] := List.eq_nil_of_length_eq_zero HZ.out.1
    have hpast : bi < lo := by omega
    cases ta with
    | none =>
      obtain ⟨-, rfl⟩ := HTN.out rfl
      have hB2 : Below w.heap.size w w := Below.refl _ _
      have HE : Hid (Elems .u64 w none 0 []) := HZ
      go_wp2_with fail
      refine (cloneD_any da 0 dc A L C Z _ (by omega) HSUM.out (HD.out.below hB2) (fun h => ⟨(by first | rfl | exact (HDN.out h).1), (HDN.out h).2⟩)).mono ?_
      rintro e w3 ⟨a', c', rfl, hcopy, hb3⟩
      obtain ⟨A', C', hdc, hsame⟩ := hcopy
      have HDC := hide hdc
      have HSAME := hide hsame
      have hB3 : Below w.heap.size w w3 := hB2.trans (hb3.mono hB2.size)
      have HE3 := hide (HE.out.below hb3)
      clear hdc hsame hb3 HE hB2
      go_wp2_with fail
      refine (mk_datas bi bt none 0 0 a' c' [] A' L C' Z _ (by omega) hbi (by omega) HSUM.out HE3.out HDC.out).mono ?_
      rintro e w5 ⟨L', rfl, ⟨E, hlog⟩, hb5⟩
      have HL := hide hlog
      have HE5 := hide (HE3.out.below hb5)
      have HC5 := hide (HDC.out.below hb5)
      have hB5 : Below w.heap.size w w5 := hB3.trans (hb5.mono hB3.size)
      have HD5 := hide (HD.out.below hB5)
      clear hlog hb5 hB3 HE3 HDC
      go_wp2_with fail
      refine (from13_nil L' E 0 bi bt lo mx [] _ _ HL.out hbi (by omega) (by omega)).mono ?_
      rintro e w6 ⟨rfl, q1, rfl⟩
      go_wp2_with fail
      go_ret
      exact ⟨rfl, below_drewN hB5 _⟩
    | some x =>
      go_wp2_with (at_make; refine wpList_make_full _ rfl _ _ 23 rfl w.heap.size 22 i0 (.int .u64 0) 1 Try.underlying23 hi hz0 hz1 _ _ _ _ 0 rfl rfl rfl rfl (by omega) (by unfold maxLen; omega) (Nat.le_refl _) ?_)
      intro w2 hown hgrow
      have hB2 : Below w.heap.size w w2 := (Below.refl _ _).grown hgrow (Nat.le_refl _) (fun k hk => by cases hk)
      have HE : Hid (Elems .u64 w2 (some ⟨w.heap.size, 0, none⟩) 0 []) := hide ⟨rfl, fun h => absurd h (by omega)⟩
      clear hown hgrow
      go_wp2_with (refine wpList_copy_nothing rfl _ _ 23 23 rfl 22 Try.underlying23 size22 _ _ _ _ _ _ rfl rfl rfl ?_)
      try go_wp2_with fail
      refine (cloneD_any da 0 dc A L C Z _ (by omega) HSUM.out (HD.out.below hB2) (fun h => ⟨(by first | rfl | exact (HDN.out h).1), (HDN.out h).2⟩)).mono ?_
      rintro e w3 ⟨a', c', rfl, hcopy, hb3⟩
      obtain ⟨A', C', hdc, hsame⟩ := hcopy
      have HDC := hide hdc
      have HSAME := hide hsame
      have hB3 : Below w.heap.size w w3 := hB2.trans (hb3.mono hB2.size)
      have HE3 := hide (HE.out.below hb3)
      clear hdc hsame hb3 HE hB2
      go_wp2_with fail
      refine (mk_datas bi bt (some ⟨w.heap.size, 0, none⟩) 0 0 a' c' [] A' L C' Z _ (by omega) hbi (by omega) HSUM.out HE3.out HDC.out).mono ?_
      rintro e w5 ⟨L', rfl, ⟨E, hlog⟩, hb5⟩
      have HL := hide hlog
      have HE5 := hide (HE3.out.below hb5)
      have HC5 := hide (HDC.out.below hb5)
      have hB5 : Below w.heap.size w w5 := hB3.trans (hb5.mono hB3.size)
      have HD5 := hide (HD.out.below hB5)
      clear hlog hb5 hB3 HE3 HDC
      go_wp2_with fail
      refine (from13_nil L' E 0 bi bt lo mx [] _ _ HL.out hbi (by omega) (by omega)).mono ?_
      rintro e w6 ⟨rfl, q1, rfl⟩
      go_wp2_with fail
      go_ret
      exact ⟨rfl, below_drewN hB5 _⟩
end Go.Proofs.Qxb6603126a
