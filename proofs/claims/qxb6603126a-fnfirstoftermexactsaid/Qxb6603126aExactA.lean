import Derived.Test.Qxb6603126aCopy
namespace Go.Proofs.Qxb6603126a
open Go.RowKit

/-- 'ZZMakeLog' without data, whatever the number of terms. -/
theorem mk_any (bi bt : Int) (a : Option Addr) (n c : Nat) (ts : List Int) (w : World) (hm : n ≤ 131072) (hbi : 0 ≤ bi) (hbn : bi + n ≤ 18446744073709551615) (hz : Elems .u64 w a n ts) :
    Calls Try.prog 12 #[.int .u64 bi, .int .u64 bt, .slice a n c, .slice none 0 0] w fun e w' => ∃ L, e = .returned (.pointer (some ⟨L, 0, none⟩)) ∧
      (∃ E, LogAt w' L E bi bt n ts (fun _ => .slice none 0 0)) ∧ Below w.heap.size w w' := by
  by_cases hn : 0 < n
  · obtain ⟨b, off, rfl, hc⟩ := hz.2 hn
    exact mk_nil bi bt b off n c ts w hn hz.1 hm hbi hbn hc
  · obtain rfl : n = 0 := by omega
    obtain rfl : ts = [] := List.eq_nil_of_length_eq_zero hz.1
    exact mk_none bi bt a c none 0 w

set_option maxRecDepth 100000 in
set_option maxHeartbeats 400000 in
/-- 'firstOfTerm' at the base or before it. -/
theorem fot_low (L E n : Nat) (bi bt i : Int) (ts : List Int) (dv : Nat → Value) (w : World) (hl : LogAt w L E bi bt n ts dv) (hbi : 0 ≤ bi) (hbm : bi + 1 ≤ 18446744073709551615) (hi : i ≤ bi) :
    Calls Try.prog 27 #[.pointer (some ⟨L, 0, none⟩), .int .u64 i] w fun e w' => e = .returned (.int .u64 i) ∧ ∃ q, w' = w.drewN q := by
  have c0 := hl.c0
  have ht : ∃ v b, Calls Try.prog 30 #[.pointer (some ⟨L, 0, none⟩), .int .u64 i] w fun e w' => e = .returned (.tuple #[.int .u64 v, .bool b]) ∧ ∃ q, w' = w.drewN q := by
    by_cases h : i = bi
    · subst h
      exact ⟨_, _, term_base L E n i bt ts dv w hl⟩
    · exact ⟨_, _, term_low L E n bi bt i ts dv w hl (by omega)⟩
  obtain ⟨v, b, ht⟩ := ht
  have HT := hide ht
  have hng : ¬ bi + 1 < i := by omega
  clear ht hl
  go_enter Try.func27, Try.ntmps27
  go_wp2_with fail
  refine (unhide HT).mono ?_
  rintro e w1 ⟨rfl, q0, rfl⟩
  clear HT
  go_wp2_with fail
  refine wp_loop_rounds 1 ?_
  rw [rounds_succ]
  go_wp2_with fail
  go_ret
  exact ⟨rfl, _, rfl⟩

set_option maxRecDepth 100000 in
set_option maxHeartbeats 400000 in
/-- 'ZZLogFirstOfTerm' up to the first entry: the index itself. -/
theorem fot17_small (L E n : Nat) (bi bt i : Int) (ts : List Int) (dv : Nat → Value) (w : World) (hl : LogAt w L E bi bt n ts dv) (hbi : 0 ≤ bi) (hbn : bi + n ≤ 18446744073709551615) (hbm : bi + 1 ≤ 18446744073709551615) (hi : i ≤ bi + 1) :
    Calls Try.prog 17 #[.pointer (some ⟨L, 0, none⟩), .int .u64 i] w fun e w' => e = .returned (.int .u64 i) ∧ ∃ q, w' = w.drewN q := by
  by_cases h : i = bi + 1
  · have h17 := fot17 L E n 1 bi bt i ts dv w hl hbi hbn (by omega) (by omega) (by omega)
    refine h17.mono ?_
    rintro e w1 ⟨he, q, rfl⟩
    have hb := runStart_bounds (tf ts n) 1 (Nat.le_refl _)
    rw [show runStart (tf ts n) 1 = 1 by omega] at he
    rw [he, h]
    exact ⟨rfl, q, rfl⟩
  · have hle : i ≤ bi := by omega
    go_enter Try.func17, Try.ntmps17
    go_wp2_with fail
    refine (fot_low L E n bi bt i ts dv w hl hbi hbm hle).mono ?_
    rintro e w1 ⟨rfl, q, rfl⟩
    go_wp2_with fail
    go_ret
    exact ⟨rfl, q, rfl⟩

set_option maxRecDepth 100000 in
set_option maxHeartbeats 400000 in
theorem at_out (bi k : Int) (a : Option Addr) (n c d : Nat) (w : World) (hk : k - bi = (d : Int)) (hbi : 0 ≤ bi) (hkm : k ≤ 18446744073709551615) (hd : 1 ≤ d) (hdn : n < d) (hm : n ≤ 131072) :
    Calls Try.prog 18 #[.int .u64 bi, .slice a n c, .int .u64 k] w fun e w' => e = .returned (.int .u64 0) ∧ w' = w := by
  have hlt : bi < k := by omega
  have hnl : ¬ (d : Int) ≤ (n : Int) := by omega
  go_enter Try.func18, Try.ntmps18
  go_wp2_with fail
  go_ret
  exact ⟨rfl, rfl⟩

set_option maxRecDepth 100000 in
set_option maxHeartbeats 400000 in
theorem at_in (bi k : Int) (b off n c x : Nat) (ts : List Int) (w : World) (hk : k - bi = (x : Int) + 1) (hbi : 0 ≤ bi) (hkm : k ≤ 18446744073709551615) (hxn : x < n) (hm : n ≤ 131072)
    (hc : ∀ i, i < n → w.cell? ⟨b, off + i, none⟩ = some (.int .u64 (ts.getD i 0))) :
    Calls Try.prog 18 #[.int .u64 bi, .slice (some ⟨b, off, none⟩) n c, .int .u64 k] w fun e w' => e = .returned (.int .u64 (ts.getD x 0)) ∧ w' = w := by
  have hlt : bi < k := by omega
  have hle : (x : Int) + 1 ≤ (n : Int) := by omega
  have hxn' : (x : Int) < (n : Int) := by omega
  have hcx := hc x hxn
  obtain ⟨z, hz⟩ : ∃ z, ts.getD x 0 = z := ⟨_, rfl⟩
  rw [hz] at hcx ⊢
  clear hc hz
  go_enter Try.func18, Try.ntmps18
  go_wp2_with fail
  go_ret
  exact ⟨rfl, rfl⟩

/-- 'zzTermAt' past the base. -/
theorem at_any (bi k : Int) (a : Option Addr) (n c d : Nat) (ts : List Int) (w : World) (hz : Elems .u64 w a n ts) (hk : k = bi + (d : Int)) (hbi : 0 ≤ bi) (hkm : k ≤ 18446744073709551615) (hd : 1 ≤ d) (hm : n ≤ 131072) :
    Calls Try.prog 18 #[.int .u64 bi, .slice a n c, .int .u64 k] w fun e w' => e = .returned (.int .u64 (tf ts n d)) ∧ w' = w := by
  by_cases hdn : d ≤ n
  · obtain ⟨b, off, rfl, hc⟩ := hz.2 (by omega)
    unfold tf
    rw [if_pos ⟨hd, hdn⟩]
    exact at_in bi k b off n c (d - 1) ts w (by omega) hbi hkm (by omega) hm hc
  · unfold tf
    rw [if_neg (by omega)]
    exact at_out bi k a n c d w (by omega) hbi hkm hd (by omega) hm

theorem runStart_succ_same (f : Nat → Int) (d : Nat) (h : 1 ≤ d) (he : f (d + 1) = f d) : runStart f (d + 1) = runStart f d := by
  have hb := runStart_bounds f d h
  refine runStart_is f (d + 1) _ hb.1 (by omega) (fun m a b => ?_) (fun a => ?_)
  · by_cases e : m = d + 1
    · rw [e]
    · rw [he]; exact runStart_run f d m h a (by omega)
  · rw [he]; exact runStart_stop f d h a

theorem runStart_succ_new (f : Nat → Int) (d : Nat) (he : f (d + 1) ≠ f d) : runStart f (d + 1) = d + 1 := by
  refine runStart_is f (d + 1) _ (by omega) (by omega) (fun m a b => ?_) (fun a => ?_)
  · rw [show m = d + 1 by omega]
  · intro e; exact he (by simpa using e.symm)
end Go.Proofs.Qxb6603126a
