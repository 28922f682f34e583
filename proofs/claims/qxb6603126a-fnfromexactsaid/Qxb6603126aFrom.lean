import Derived.Test.Qxb6603126aTerm
import Derived.Test.Qxb6603126aMkAll
namespace Go.Proofs.Qxb6603126a
open Go.RowKit

set_option maxRecDepth 100000 in
set_option maxHeartbeats 400000 in
theorem between_any (L E n f e : Nat) (bi bt lo hi : Int) (ts : List Int) (dv : Nat → Value) (w : World) (hl : LogAt w L E bi bt n ts dv) (hbi : 0 ≤ bi) (hbn : bi + n ≤ 18446744073709551615)
    (hlo : lo - bi - 1 = (f : Int)) (hhi : hi - bi = (e : Int)) (hfe : f < e) (hen : e ≤ n) :
    Calls Try.prog 29 #[.pointer (some ⟨L, 0, none⟩), .int .u64 lo, .int .u64 hi] w fun r w' => r = .returned (.slice (some ⟨E, f * 4, none⟩) (e - f) (e - f)) ∧ ∃ q, w' = w.drewN q := by
  have c0 := hl.c0
  have c2 := hl.c2
  have g1 : ¬ hi < lo := by omega
  have g2 : bi < lo := by omega
  have g3 : bi < hi := by omega
  have g4 : ¬ n = f := by omega
  have g5 : (f : Int) ≤ (e : Int) := by omega
  have g6 : (e : Int) ≤ (n : Int) := by omega
  have g7 : hi ≤ bi + n := by omega
  clear hl
  go_enter Try.func29, Try.ntmps29
  go_wp2_with fail
  go_quiet (fail)
  go_wp2_with fail
  go_ret
  exact ⟨rfl, _, rfl⟩

/-- The bytes of j entries from entry f on. -/
def seg (L : Nat → Nat) (f j : Nat) : Nat := sumTo (fun x => L (f + x)) j

theorem seg_succ (L : Nat → Nat) (f j : Nat) : seg L f (j + 1) = seg L f j + L (f + j) := rfl
theorem seg_mono (L : Nat → Nat) (f a b : Nat) (h : a ≤ b) : seg L f a ≤ seg L f b := sumTo_mono _ a b h

theorem seg_add (L : Nat → Nat) (f j : Nat) : sumTo L (f + j) = sumTo L f + seg L f j := by
  induction j with
  | zero => rfl
  | succ k ih =>
    have h1 : sumTo L (f + (k + 1)) = sumTo L (f + k) + L (f + k) := rfl
    rw [h1, ih, seg_succ]
    omega

theorem seg_le (L : Nat → Nat) (f j n : Nat) (h : f + j ≤ n) : seg L f j ≤ sumTo L n := by
  have h1 := seg_add L f j
  have h2 := sumTo_mono L (f + j) n h
  omega

/-- K entries from f on is what 'from' hands out under a budget of mx bytes. -/
structure Cut (L : Nat → Nat) (f n : Nat) (mx : Int) (K : Nat) : Prop where
  one : 1 ≤ K
  fit : f + K ≤ n
  low : ∀ j, 1 < j → j ≤ K → (seg L f j : Int) ≤ mx
  high : f + K < n → mx < (seg L f (K + 1) : Int)

set_option maxRecDepth 100000 in
set_option maxHeartbeats 400000 in
theorem from_nil (L' E n : Nat) (bi bt lo mx : Int) (ts : List Int) (dv : Nat → Value) (w : World) (hl : LogAt w L' E bi bt n ts dv) (hbi : 0 ≤ bi) (hbn : bi + n ≤ 18446744073709551615) (hlo : bi + n < lo) :
    Calls Try.prog 26 #[.pointer (some ⟨L', 0, none⟩), .int .u64 lo, .int .i64 mx] w fun r w' => r = .returned (.slice none 0 0) ∧ ∃ q, w' = w.drewN q := by
  have HL := hide hl
  clear hl
  go_enter Try.func26, Try.ntmps26
  go_wp2_with fail
  refine (last_any L' E n bi bt ts dv _ HL.out hbi hbn).mono ?_
  rintro e w1 ⟨rfl, q, rfl⟩
  go_wp2_with fail
  go_ret
  exact ⟨rfl, _, rfl⟩

set_option maxRecDepth 100000 in
set_option maxHeartbeats 1000000 in
theorem from_some (L' E n f : Nat) (bi bt lo mx : Int) (ts : List Int) (A : Nat → Option Addr) (L C : Nat → Nat) (w : World) (hl : LogAt w L' E bi bt n ts (dval A L C)) (hbi : 0 ≤ bi) (hbn : bi + n < 18446744073709551615) (hL : sumTo L n ≤ 1048576)
    (hlo : lo - bi - 1 = (f : Int)) (hfn : f < n) :
    Calls Try.prog 26 #[.pointer (some ⟨L', 0, none⟩), .int .u64 lo, .int .i64 mx] w fun r w' => ∃ K, r = .returned (.slice (some ⟨E, f * 4, none⟩) K K) ∧ Cut L f n mx K ∧ ∃ q, w' = w.drewN q := by
  have HL := hide hl
  have c0 := hl.c0
  have c2 := hl.c2
  have HLO := hide hlo
  have g1 : ¬ bi + n < lo := by omega
  have g2 : bi < lo := by omega
  clear hl hlo
  go_enter Try.func26, Try.ntmps26
  go_wp2_with fail
  refine (last_any L' E n bi bt ts _ _ HL.out hbi (by omega)).mono ?_
  rintro e w1 ⟨rfl, q1, rfl⟩
  go_wp2_with fail
  refine (last_any L' E n bi bt ts _ _ (HL.out.drewN _) hbi (by omega)).mono ?_
  rintro e w1 ⟨rfl, q2, rfl⟩
  go_wp2_with fail
  go_loopw [7, 8, 9] (fun vh vs vi wr => ∃ x j S : Nat, ∃ ii : Int, ∃ q : Nat, vh = .int .u64 (bi + n) ∧ f + j = x ∧ x ≤ n ∧ vi = .int .u64 ii ∧ ii - bi - 1 = (x : Int) ∧ vs = .int .i64 (S : Int) ∧ Hid (S = seg L f j) ∧ Hid (∀ t, 1 < t → t ≤ j → (seg L f t : Int) ≤ mx) ∧ wr = w.drewN q) (fun _ _ vi _ => (bi + n + 1 - intOf vi).toNat)
  case atStart => exact ⟨f, 0, 0, lo, _, rfl, rfl, by omega, rfl, HLO.out, rfl, hide rfl, hide (fun t h1 h2 => by omega), rfl⟩
  case round =>
    obtain ⟨x, j, S, ii, q, rfl, hxj, hxn, rfl, hix, rfl, hS, hall, rfl⟩ := hrel
    have hSb := seg_le L f j n (by omega)
    have hS1 : S ≤ 1048576 := by have := hS.out; omega
    clear hSb
    by_cases hlt : x < n
    · have cd := HL.out.data x hlt
      unfold dval at cd
      have hle : ii ≤ bi + n := by omega
      have hlt' : (x : Int) < (n : Int) := by omega
      have hbii : bi < ii := by omega
      have hLx : L x ≤ 1048576 := Nat.le_trans (le_sumTo L x n hlt) hL
      have hseg : seg L f (j + 1) = S + L x := by rw [seg_succ, hS.out, hxj]
      have HSEG := hide hseg
      have HXJ := hide hxj
      clear hseg hxj
      by_cases hj0 : j = 0
      · have hng : ¬ lo < ii := by have := HXJ.out; have := HLO.out; omega
        have hcd : decide (lo < ii) = false := by simp; omega
        go_wp2_with fail
        refine (last_any L' E n bi bt ts _ _ (HL.out.drewN _) hbi (by omega)).mono ?_
        rintro e w1 ⟨rfl, q3, rfl⟩
        go_wp2_with fail
        go_quiet (fail)
        go_wp2_with fail
        go_roundw
        case rel => exact ⟨x + 1, j + 1, S + L x, ii + 1, _, rfl, by have := HXJ.out; omega, by omega, rfl, by omega, by go_num, hide HSEG.out.symm, hide (fun t h1 h2 => by omega), rfl⟩
        case measure => simp [intOf]; omega
      · have hg : lo < ii := by have := HXJ.out; have := HLO.out; omega
        have hcd : decide (lo < ii) = true := by simp; omega
        by_cases hbig : mx < (S : Int) + (L x : Int)
        · go_wp2_with fail
          refine (last_any L' E n bi bt ts _ _ (HL.out.drewN _) hbi (by omega)).mono ?_
          rintro e w1 ⟨rfl, q3, rfl⟩
          go_wp2_with fail
          go_quiet (fail)
          go_wp2_with fail
          refine (between_any L' E n f x bi bt lo (ii - 1) ts _ _ (HL.out.drewN _) hbi (by omega) HLO.out (by omega) (by have := HXJ.out; omega) hxn).mono ?_
          rintro e w1 ⟨rfl, q4, rfl⟩
          go_wp2_with fail
          go_ret
          refine ⟨x - f, rfl, ?_, _, rfl⟩
          have hj : x - f = j := by have := HXJ.out; omega
          have hx := HXJ.out
          rw [hj]
          exact ⟨by omega, by omega, hall.out, fun _ => by rw [HSEG.out]; omega⟩
        · go_wp2_with fail
          refine (last_any L' E n bi bt ts _ _ (HL.out.drewN _) hbi (by omega)).mono ?_
          rintro e w1 ⟨rfl, q3, rfl⟩
          go_wp2_with fail
          go_quiet (fail)
          go_wp2_with fail
          go_roundw
          case rel =>
            refine ⟨x + 1, j + 1, S + L x, ii + 1, _, rfl, by have := HXJ.out; omega, by omega, rfl, by omega, by go_num, hide HSEG.out.symm, hide (fun t h1 h2 => ?_), rfl⟩
            by_cases et : t = j + 1
            · rw [et, HSEG.out]; omega
            · exact hall.out t h1 (by omega)
          case measure => simp [intOf]; omega
    · have hnle : ¬ ii ≤ bi + n := by omega
      go_wp2_with fail
      refine (last_any L' E n bi bt ts _ _ (HL.out.drewN _) hbi (by omega)).mono ?_
      rintro e w1 ⟨rfl, q3, rfl⟩
      go_wp2_with fail
      refine (between_any L' E n f n bi bt lo (bi + n) ts _ _ (HL.out.drewN _) hbi (by omega) HLO.out (by omega) hfn (Nat.le_refl _)).mono ?_
      rintro e w1 ⟨rfl, q4, rfl⟩
      go_wp2_with fail
      go_ret
      refine ⟨n - f, rfl, ?_, _, rfl⟩
      have hj : n - f = j := by omega
      rw [hj]
      exact ⟨by omega, by omega, hall.out, fun _ => by omega⟩

set_option maxRecDepth 100000 in
set_option maxHeartbeats 400000 in
theorem from13_nil (L' E n : Nat) (bi bt lo mx : Int) (ts : List Int) (dv : Nat → Value) (w : World) (hl : LogAt w L' E bi bt n ts dv) (hbi : 0 ≤ bi) (hbn : bi + n ≤ 18446744073709551615) (hlo : bi + n < lo) :
    Calls Try.prog 13 #[.pointer (some ⟨L', 0, none⟩), .int .u64 lo, .int .i64 mx] w fun r w' => r = .returned (.slice none 0 0) ∧ ∃ q, w' = w.drewN q := by
  go_enter Try.func13, Try.ntmps13
  go_wp2_with fail
  refine (from_nil L' E n bi bt lo mx ts dv w hl hbi hbn hlo).mono ?_
  rintro e w1 ⟨rfl, q, rfl⟩
  go_wp2_with fail
  go_ret
  exact ⟨rfl, q, rfl⟩

set_option maxRecDepth 100000 in
set_option maxHeartbeats 400000 in
theorem from13_some (L' E n f : Nat) (bi bt lo mx : Int) (ts : List Int) (A : Nat → Option Addr) (L C : Nat → Nat) (w : World) (hl : LogAt w L' E bi bt n ts (dval A L C)) (hbi : 0 ≤ bi) (hbn : bi + n < 18446744073709551615) (hL : sumTo L n ≤ 1048576)
    (hlo : lo - bi - 1 = (f : Int)) (hfn : f < n) :
    Calls Try.prog 13 #[.pointer (some ⟨L', 0, none⟩), .int .u64 lo, .int .i64 mx] w fun r w' => ∃ K, r = .returned (.slice (some ⟨E, f * 4, none⟩) K K) ∧ Cut L f n mx K ∧ ∃ q, w' = w.drewN q := by
  have HLO := hide hlo
  clear hlo
  go_enter Try.func13, Try.ntmps13
  go_wp2_with fail
  refine (from_some L' E n f bi bt lo mx ts A L C w hl hbi hbn hL HLO.out hfn).mono ?_
  rintro e w1 ⟨K, rfl, hcut, q, rfl⟩
  go_wp2_with fail
  go_ret
  exact ⟨K, rfl, hcut, q, rfl⟩
end Go.Proofs.Qxb6603126a
