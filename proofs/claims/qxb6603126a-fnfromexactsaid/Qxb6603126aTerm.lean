import Derived.Test.Qxb6603126aBase
namespace Go.Proofs.Qxb6603126a
open Go.RowKit

set_option maxRecDepth 100000 in
set_option maxHeartbeats 400000 in
theorem last_any (L E n : Nat) (bi bt : Int) (ts : List Int) (dv : Nat → Value) (w : World) (hl : LogAt w L E bi bt n ts dv) (hbi : 0 ≤ bi) (hbn : bi + n ≤ 18446744073709551615) :
    Calls Try.prog 28 #[.pointer (some ⟨L, 0, none⟩)] w fun e w' => e = .returned (.int .u64 (bi + n)) ∧ ∃ q, w' = w.drewN q := by
  have c0 := hl.c0
  have c2 := hl.c2
  have HL := hide hl
  clear hl
  go_enter Try.func28, Try.ntmps28
  go_wp2_with fail
  go_quiet (fail)
  go_wp2_with fail
  go_ret
  exact ⟨rfl, _, rfl⟩

set_option maxRecDepth 100000 in
set_option maxHeartbeats 400000 in
theorem term_base (L E n : Nat) (bi bt : Int) (ts : List Int) (dv : Nat → Value) (w : World) (hl : LogAt w L E bi bt n ts dv) :
    Calls Try.prog 30 #[.pointer (some ⟨L, 0, none⟩), .int .u64 bi] w fun e w' => e = .returned (.tuple #[.int .u64 bt, .bool true]) ∧ ∃ q, w' = w.drewN q := by
  have c0 := hl.c0
  have c1 := hl.c1
  have HL := hide hl
  clear hl
  go_enter Try.func30, Try.ntmps30
  go_wp2_with fail
  go_ret2
  exact ⟨rfl, 0, rfl⟩

set_option maxRecDepth 100000 in
set_option maxHeartbeats 400000 in
theorem term_low (L E n : Nat) (bi bt i : Int) (ts : List Int) (dv : Nat → Value) (w : World) (hl : LogAt w L E bi bt n ts dv) (hi : i < bi) :
    Calls Try.prog 30 #[.pointer (some ⟨L, 0, none⟩), .int .u64 i] w fun e w' => e = .returned (.tuple #[.int .u64 0, .bool false]) ∧ ∃ q, w' = w.drewN q := by
  have c0 := hl.c0
  have HL := hide hl
  have hne : (i == bi) = false := by simp; omega
  clear hl
  go_enter Try.func30, Try.ntmps30
  go_wp2_with fail
  go_ret2
  exact ⟨rfl, 0, rfl⟩

set_option maxRecDepth 100000 in
set_option maxHeartbeats 400000 in
theorem term_high (L E n : Nat) (bi bt i : Int) (ts : List Int) (dv : Nat → Value) (w : World) (hl : LogAt w L E bi bt n ts dv) (hbi : 0 ≤ bi) (hbn : bi + n ≤ 18446744073709551615) (hi : bi + n < i) :
    Calls Try.prog 30 #[.pointer (some ⟨L, 0, none⟩), .int .u64 i] w fun e w' => e = .returned (.tuple #[.int .u64 0, .bool false]) ∧ ∃ q, w' = w.drewN q := by
  have c0 := hl.c0
  have HL := hide hl
  have hne : (i == bi) = false := by simp; omega
  have hnl : ¬ i < bi := by omega
  have hge : bi ≤ i := by omega
  clear hl
  go_enter Try.func30, Try.ntmps30
  go_wp2_with fail
  refine (last_any L E n bi bt ts dv _ HL.out hbi hbn).mono ?_
  rintro e w1 ⟨rfl, q, rfl⟩
  go_wp2_with fail
  go_ret2
  exact ⟨rfl, q, rfl⟩

set_option maxRecDepth 100000 in
set_option maxHeartbeats 400000 in
theorem term_in (L E n x : Nat) (bi bt i : Int) (ts : List Int) (dv : Nat → Value) (w : World) (hl : LogAt w L E bi bt n ts dv) (hbi : 0 ≤ bi) (hbn : bi + n ≤ 18446744073709551615) (hx : i - bi - 1 = (x : Int)) (hxn : x < n) :
    Calls Try.prog 30 #[.pointer (some ⟨L, 0, none⟩), .int .u64 i] w fun e w' => e = .returned (.tuple #[.int .u64 (ts.getD x 0), .bool true]) ∧ ∃ q, w' = w.drewN q := by
  have c0 := hl.c0
  have c2 := hl.c2
  have ct := hl.term x hxn
  obtain ⟨z, hz⟩ : ∃ z, ts.getD x 0 = z := ⟨_, rfl⟩
  rw [hz] at ct ⊢
  have HL := hide hl
  have hne : (i == bi) = false := by simp; omega
  have hnl : ¬ i < bi := by omega
  have hge : bi < i := by omega
  have hle : i ≤ bi + n := by omega
  have hxn' : (x : Int) < (n : Int) := by omega
  clear hl hz
  go_enter Try.func30, Try.ntmps30
  go_wp2_with fail
  refine (last_any L E n bi bt ts dv _ HL.out hbi hbn).mono ?_
  rintro e w1 ⟨rfl, q, rfl⟩
  go_wp2_with fail
  go_quiet (fail)
  go_wp2_with fail
  go_ret2
  exact ⟨rfl, _, World.drewN_drewN _ _ _⟩

/-- The term at distance j past the base; nothing past the last entry. -/
def tf (ts : List Int) (n j : Nat) : Int := if 1 ≤ j ∧ j ≤ n then ts.getD (j - 1) 0 else 0

/-- 'term' past the base. -/
theorem term_past (L E n j : Nat) (bi bt i : Int) (ts : List Int) (dv : Nat → Value) (w : World) (hl : LogAt w L E bi bt n ts dv) (hbi : 0 ≤ bi) (hbn : bi + n ≤ 18446744073709551615) (hij : i = bi + j) (hj : 1 ≤ j) :
    Calls Try.prog 30 #[.pointer (some ⟨L, 0, none⟩), .int .u64 i] w fun e w' => ∃ b, e = .returned (.tuple #[.int .u64 (tf ts n j), .bool b]) ∧ ∃ q, w' = w.drewN q := by
  by_cases hjn : j ≤ n
  · refine (term_in L E n (j - 1) bi bt i ts dv w hl hbi hbn (by omega) (by omega)).mono ?_
    rintro e w' ⟨rfl, q⟩
    exact ⟨true, by unfold tf; rw [if_pos ⟨hj, hjn⟩], q⟩
  · refine (term_high L E n bi bt i ts dv w hl hbi hbn (by omega)).mono ?_
    rintro e w' ⟨rfl, q⟩
    exact ⟨false, by unfold tf; rw [if_neg (by omega)], q⟩

/-- Back over equal terms. -/
def back (f : Nat → Int) (t : Int) : Nat → Nat
  | 0 => 0
  | 1 => 1
  | j + 2 => if f (j + 1) = t then back f t (j + 1) else j + 2

theorem back_one (f : Nat → Int) (t : Int) (m : Nat) (h : m ≤ 1) : back f t m = m := by
  match m, h with
  | 0, _ => rfl
  | 1, _ => rfl

theorem back_yes (f : Nat → Int) (t : Int) (m : Nat) (h : 1 < m) (he : f (m - 1) = t) : back f t m = back f t (m - 1) := by
  obtain ⟨k, rfl⟩ : ∃ k, m = k + 2 := ⟨m - 2, by omega⟩
  show (if f (k + 1) = t then back f t (k + 1) else k + 2) = back f t (k + 1)
  exact if_pos he

theorem back_no (f : Nat → Int) (t : Int) (m : Nat) (h : 1 < m) (he : f (m - 1) ≠ t) : back f t m = m := by
  obtain ⟨k, rfl⟩ : ∃ k, m = k + 2 := ⟨m - 2, by omega⟩
  show (if f (k + 1) = t then back f t (k + 1) else k + 2) = k + 2
  exact if_neg he

set_option maxRecDepth 100000 in
set_option maxHeartbeats 400000 in
/-- 'firstOfTerm' past the base. -/
theorem fot_past (L E n j : Nat) (bi bt i : Int) (ts : List Int) (dv : Nat → Value) (w : World) (hl : LogAt w L E bi bt n ts dv) (hbi : 0 ≤ bi) (hbn : bi + n ≤ 18446744073709551615) (hij : i = bi + j) (hj : 1 ≤ j) (hmax : i ≤ 18446744073709551615) :
    Calls Try.prog 27 #[.pointer (some ⟨L, 0, none⟩), .int .u64 i] w fun e w' => e = .returned (.int .u64 (bi + (back (tf ts n) (tf ts n j) j : Nat))) ∧ ∃ q, w' = w.drewN q := by
  have c0 := hl.c0
  have HL := hide hl
  have HJ := hide hij
  have hgt : bi < i := by omega
  have hbm : bi + 1 ≤ 18446744073709551615 := by omega
  clear hl hij
  go_enter Try.func27, Try.ntmps27
  go_wp2_with fail
  refine (term_past L E n j bi bt i ts dv _ HL.out hbi hbn HJ.out hj).mono ?_
  rintro e w1 ⟨b0, rfl, q0, rfl⟩
  obtain ⟨t, ht⟩ : ∃ t, t = tf ts n j := ⟨_, rfl⟩
  rw [← ht]
  have HT := hide ht
  clear ht
  go_wp2_with fail
  go_loopw [1, 7, 8] (fun v _ _ wr => ∃ m : Nat, ∃ q : Nat, 1 ≤ m ∧ m ≤ j ∧ v = .int .u64 (bi + m) ∧ wr = w.drewN q ∧ Hid (back (tf ts n) t j = back (tf ts n) t m)) (fun v _ _ _ => (intOf v - bi).toNat)
  case atStart => exact ⟨j, q0, hj, Nat.le_refl _, by rw [HJ.out], rfl, rfl⟩
  case round =>
    obtain ⟨m, q, hm1, hmj, rfl, rfl, hbk⟩ := hrel
    have hmm : bi + m ≤ 18446744073709551615 := by have := HJ.out; omega
    by_cases hlt : 1 < m
    · have hlt' : bi + 1 < bi + m := by omega
      go_wp2_with fail
      refine (term_past L E n (m - 1) bi bt _ ts dv _ (HL.out.drewN q) hbi hbn (by omega) (by omega)).mono ?_
      rintro e w1 ⟨b1, rfl, q1, rfl⟩
      by_cases he : tf ts n (m - 1) = t
      · have hbe : (tf ts n (m - 1) != t) = false := by simp [he]
        go_wp2_with fail
        go_roundw
        case rel => exact ⟨m - 1, q + q1, by omega, by omega, congrArg (Value.int .u64) (by omega), rfl, hbk.out.trans (back_yes _ _ m hlt he)⟩
        case measure => simp [intOf]; omega
      · have hbe : (tf ts n (m - 1) != t) = true := by simp [he]
        go_wp2_with fail
        go_ret
        have hfin : back (tf ts n) (tf ts n j) j = m := by rw [← HT.out, hbk.out]; exact back_no _ _ m hlt he
        rw [hfin]
        exact ⟨rfl, _, rfl⟩
    · go_wp2_with fail
      go_ret
      have hfin : back (tf ts n) (tf ts n j) j = m := by rw [← HT.out, hbk.out]; exact back_one _ _ m (by omega)
      rw [hfin]
      exact ⟨rfl, _, rfl⟩
end Go.Proofs.Qxb6603126a
