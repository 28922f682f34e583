import Derived.Test.Qxb6602542aEqual
import Derived.Test.Qxb6602542aBits
namespace Go.Proofs.Qxb6602542a
open Go.RowKit

set_option maxHeartbeats 400000 in
theorem stack_neg (d o : Int) (v : Value) (w : World) (hd : d < 0) :
    Calls Try.prog 16 #[.int .i64 d, .int .u64 o, v] w fun e w' => e = .returned (.tuple #[.slice none 0 0, .bool false]) ∧ w' = w := by
  go_enter Try.func16, Try.ntmps16
  go_wp2
  go_ret2
  exact ⟨rfl, rfl⟩

/-- how many brackets past the sixty-fourth -/
def want (d : Nat) : Nat := d - 64

set_option maxHeartbeats 400000 in
theorem stack_bad (d n c : Nat) (o : Int) (a : Option Addr) (w : World) (hd : d ≤ 65600) (hne : n ≠ want d) :
    Calls Try.prog 16 #[.int .i64 d, .int .u64 o, .slice a n c] w fun e w' => e = .returned (.tuple #[.slice none 0 0, .bool false]) ∧ w' = w := by
  unfold want at hne
  by_cases h64 : 64 < d
  · have hb : ((n : Int) != (d : Int) - 64) = true := by simp; omega
    go_enter Try.func16, Try.ntmps16
    go_wp2
    go_ret2
    exact ⟨rfl, rfl⟩
  · have hb : ((n : Int) != 0) = true := by simp; omega
    go_enter Try.func16, Try.ntmps16
    go_wp2
    go_ret2
    exact ⟨rfl, rfl⟩

set_option maxHeartbeats 800000 in
theorem stack_deep (d n c b off : Nat) (o : Int) (zs : List Int) (w : World) (hd : d ≤ 65600) (hn : n + 64 = d) (hn0 : 0 < n) (hl : zs.length = n)
    (hz : ∀ i, i < n → w.cell? ⟨b, off + i, none⟩ = some (.int .u8 (zs.getD i 0))) :
    Calls Try.prog 16 #[.int .i64 d, .int .u64 o, .slice (some ⟨b, off, none⟩) n c] w fun e w' => ∃ a', e = .returned (.tuple #[.slice a' d d, .bool true]) ∧
      w'.ownsRow w.heap.size 5 1 (.slice a' d d) d ((brs o 64 ++ zs).map (Value.int .u8)) ∧ Below w.heap.size w w' := by
  obtain ⟨i0, hi, hz0, hz1, hz2⟩ := info_parts Try.info5
  have hb0 : b < w.heap.size := World.block_lt_of_cell? w _ (hz 0 hn0)
  have hb : ((n : Int) != (d : Int) - 64) = false := by simp; omega
  have h64 : (64 : Int) < (d : Int) := by omega
  have hmm : ¬ (d : Int) < 0 := by omega
  have HN : Hid (n + 64 = d) := hn
  have hn2 : n ≤ 65600 := by omega
  have hn3 : n ≤ d := by omega
  clear hn
  go_enter Try.func16, Try.ntmps16
  go_wp2_with (at_make; refine wpList_make_own _ rfl _ _ 22 rfl w.heap.size 5 i0 (.int .u8 0) 1 Try.underlying22 hi hz0 hz1 _ _ _ d rfl rfl rfl (by rw [hz2]; omega) (by unfold maxLen; omega) (Nat.le_refl _) ?_)
  intro w1 hown hgrow
  go_wp2_with fail
  have hB1 : Below w.heap.size w w1 := (Below.refl _ _).grown hgrow (Nat.le_refl _) (fun k hk => by cases hk)
  clear hgrow
  go_loopw [9, 10] (fun v i wr => ∃ k : Nat, k ≤ 64 ∧ i = .int .i64 k ∧ v = .slice (some ⟨w.heap.size, 0, none⟩) k d ∧ wr.ownsRow w.heap.size 5 1 (.slice (some ⟨w.heap.size, 0, none⟩) k d) k ((brs o k).map (Value.int .u8)) ∧ Below w.heap.size w wr) (fun _ i _ => 64 - (intOf i).toNat)
  case atStart => exact ⟨0, by omega, rfl, rfl, hown, hB1⟩
  case round =>
    obtain ⟨m, hk2, rfl, rfl, hr, hbr⟩ := hrel
    clear hown hB1
    have hsr : w.heap.size < wr.heap.size := (hr.lt w.heap.size rfl).2
    by_cases hlt : m < 64
    · have hlt2 : (m : Int) < (d : Int) := by omega
      have hlt3 : (m : Int) < 64 := by omega
      cases htb : tb o m
      · have R := brs_no o m htb
        unfold tb at htb
        go_wp2_with (at_builtin; refine wpList_append_fits _ rfl _ _ 22 rfl w.heap.size 5 i0 1 Try.underlying22 hi hz1 w.heap.size m d _ rfl (hr.alloc _) ⟨wr.heap.size, 0, none⟩ 1 1 [.int .u8 91] rfl rfl (cell_one_new _ _ _) (by simp [Value.oneCell']) (by omega) ?_)
        intro w2 hown2 hgrow2
        have hB2 : Below w.heap.size w w2 := (hbr.alloc hbr.size _).grown hgrow2 (by simp; omega) (fun k hk => by cases hk; exact Nat.le_refl _)
        have e : (brs o m).map (Value.int .u8) ++ [.int .u8 91] = (brs o (m + 1)).map (Value.int .u8) := by rw [R]; simp
        rw [e] at hown2
        clear e R hgrow2 hr hbr
        go_wp2_with fail
        go_roundw
        case rel => exact ⟨m + 1, by omega, by go_num, rfl, hown2, hB2⟩
        case measure => simp [intOf]; omega
      · have R := brs_yes o m htb
        unfold tb at htb
        go_wp2_with (at_builtin; refine wpList_append_fits _ rfl _ _ 22 rfl w.heap.size 5 i0 1 Try.underlying22 hi hz1 w.heap.size m d _ rfl (hr.alloc _) ⟨wr.heap.size, 0, none⟩ 1 1 [.int .u8 123] rfl rfl (cell_one_new _ _ _) (by simp [Value.oneCell']) (by omega) ?_)
        intro w2 hown2 hgrow2
        have hB2 : Below w.heap.size w w2 := (hbr.alloc hbr.size _).grown hgrow2 (by simp; omega) (fun k hk => by cases hk; exact Nat.le_refl _)
        have e : (brs o m).map (Value.int .u8) ++ [.int .u8 123] = (brs o (m + 1)).map (Value.int .u8) := by rw [R]; simp
        rw [e] at hown2
        clear e R hgrow2 hr hbr
        go_wp2_with fail
        go_roundw
        case rel => exact ⟨m + 1, by omega, by go_num, rfl, hown2, hB2⟩
        case measure => simp [intOf]; omega
    · have HM : Hid (m = 64) := (by omega : m = 64)
      have hlt2 : (m : Int) < (d : Int) := by omega
      have hlt3 : ¬ (m : Int) < 64 := by omega
      clear hlt
      go_wp2_with fail
      go_loopw [9, 11] (fun v i wr => ∃ k : Nat, k ≤ n ∧ i = .int .i64 k ∧ v = .slice (some ⟨w.heap.size, 0, none⟩) (m + k) d ∧ wr.ownsRow w.heap.size 5 1 (.slice (some ⟨w.heap.size, 0, none⟩) (m + k) d) (m + k) ((brs o m ++ zs.take k).map (Value.int .u8)) ∧ Below w.heap.size w wr) (fun _ i _ => n - (intOf i).toNat)
      case atStart => exact ⟨0, by omega, rfl, rfl, by simpa using hr, hbr⟩
      case round =>
        clear hr hbr hsr
        obtain ⟨k, hk, rfl, rfl, hr, hbr⟩ := hrel
        have hsr : w.heap.size < wr.heap.size := (hr.lt w.heap.size rfl).2
        by_cases hlk : k < n
        · have hcx : wr.cell? ⟨b, off + k, none⟩ = some (.int .u8 (zs.getD k 0)) := (hbr.cell (by exact hb0)).trans (hz k hlk)
          have hlk' : (k : Int) < (n : Int) := by omega
          obtain ⟨z, hzk⟩ : ∃ z, zs.getD k 0 = z := ⟨_, rfl⟩
          rw [hzk] at hcx
          have R : zs.take (k + 1) = zs.take k ++ [z] := by
            rw [List.take_succ_eq_append_getElem (by omega), ← hzk]
            simp [List.getD, show k < zs.length by omega]
          have HR : Hid (zs.take (k + 1) = zs.take k ++ [z]) := R
          have hfit : m + k + 1 ≤ d := by have := HN.out; have := HM.out; omega
          clear hzk R
          obtain ⟨X, hX⟩ : ∃ X, X = zs.take k := ⟨_, rfl⟩
          rw [← hX] at hr
          have HX : Hid (X = zs.take k) := hX
          clear hX
          go_wp2_with (at_builtin; refine wpList_append_fits _ rfl _ _ 22 rfl w.heap.size 5 i0 1 Try.underlying22 hi hz1 w.heap.size (m + k) d _ rfl (hr.alloc _) ⟨wr.heap.size, 0, none⟩ 1 1 [.int .u8 z] rfl rfl (cell_one_new _ _ _) (by simp [Value.oneCell']) (by omega) ?_)
          intro w2 hown2 hgrow2
          have hB2 : Below w.heap.size w w2 := (hbr.alloc hbr.size _).grown hgrow2 (by simp; omega) (fun k hk => by cases hk; exact Nat.le_refl _)
          have e : (brs o m).map (Value.int .u8) ++ (X.map (Value.int .u8) ++ [.int .u8 z]) = (brs o m ++ zs.take (k + 1)).map (Value.int .u8) := by rw [HR.out, HX.out]; simp
          rw [e] at hown2
          clear e hgrow2 hr hbr HX HR
          go_wp2_with fail
          go_roundw
          case rel => exact ⟨k + 1, by omega, by go_num, rfl, hown2, hB2⟩
          case measure => simp [intOf]; omega
        · obtain rfl : k = n := by omega
          go_wp2_with fail
          go_ret2
          have hd' : m + k = d := by have := HN.out; have := HM.out; omega
          rw [hd'] at hr ⊢
          rw [List.take_of_length_le (by omega)] at hr
          rw [HM.out] at hr
          exact ⟨_, rfl, hr, hbr⟩

set_option maxHeartbeats 800000 in
theorem stack_flat (d c : Nat) (o : Int) (a : Option Addr) (w : World) (hd : d ≤ 64) :
    Calls Try.prog 16 #[.int .i64 d, .int .u64 o, .slice a 0 c] w fun e w' => ∃ a', e = .returned (.tuple #[.slice a' d d, .bool true]) ∧
      w'.ownsRow w.heap.size 5 1 (.slice a' d d) d ((brs o d).map (Value.int .u8)) ∧ Below w.heap.size w w' := by
  obtain ⟨i0, hi, hz0, hz1, hz2⟩ := info_parts Try.info5
  have h64 : ¬ (64 : Int) < (d : Int) := by omega
  have hmm : ¬ (d : Int) < 0 := by omega
  go_enter Try.func16, Try.ntmps16
  go_wp2_with (at_make; refine wpList_make_own _ rfl _ _ 22 rfl w.heap.size 5 i0 (.int .u8 0) 1 Try.underlying22 hi hz0 hz1 _ _ _ d rfl rfl rfl (by rw [hz2]; omega) (by unfold maxLen; omega) (Nat.le_refl _) ?_)
  intro w1 hown hgrow
  go_wp2_with fail
  have hB1 : Below w.heap.size w w1 := (Below.refl _ _).grown hgrow (Nat.le_refl _) (fun k hk => by cases hk)
  clear hgrow
  go_loopw [9, 10] (fun v i wr => ∃ k : Nat, k ≤ d ∧ i = .int .i64 k ∧ v = .slice (some ⟨w.heap.size, 0, none⟩) k d ∧ wr.ownsRow w.heap.size 5 1 (.slice (some ⟨w.heap.size, 0, none⟩) k d) k ((brs o k).map (Value.int .u8)) ∧ Below w.heap.size w wr) (fun _ i _ => d - (intOf i).toNat)
  case atStart => exact ⟨0, by omega, rfl, rfl, hown, hB1⟩
  case round =>
    obtain ⟨k, hk2, rfl, rfl, hr, hbr⟩ := hrel
    clear hown hB1
    have hsr : w.heap.size < wr.heap.size := (hr.lt w.heap.size rfl).2
    by_cases hlt : k < d
    · have hlt2 : (k : Int) < (d : Int) := by omega
      have hlt3 : (k : Int) < 64 := by omega
      cases htb : tb o k
      · have R := brs_no o k htb
        unfold tb at htb
        go_wp2_with (at_builtin; refine wpList_append_fits _ rfl _ _ 22 rfl w.heap.size 5 i0 1 Try.underlying22 hi hz1 w.heap.size k d _ rfl (hr.alloc _) ⟨wr.heap.size, 0, none⟩ 1 1 [.int .u8 91] rfl rfl (cell_one_new _ _ _) (by simp [Value.oneCell']) (by omega) ?_)
        intro w2 hown2 hgrow2
        have hB2 : Below w.heap.size w w2 := (hbr.alloc hbr.size _).grown hgrow2 (by simp; omega) (fun k hk => by cases hk; exact Nat.le_refl _)
        have e : (brs o k).map (Value.int .u8) ++ [.int .u8 91] = (brs o (k + 1)).map (Value.int .u8) := by rw [R]; simp
        rw [e] at hown2
        clear e R hgrow2 hr hbr
        go_wp2_with fail
        go_roundw
        case rel => exact ⟨k + 1, by omega, by go_num, rfl, hown2, hB2⟩
        case measure => simp [intOf]; omega
      · have R := brs_yes o k htb
        unfold tb at htb
        go_wp2_with (at_builtin; refine wpList_append_fits _ rfl _ _ 22 rfl w.heap.size 5 i0 1 Try.underlying22 hi hz1 w.heap.size k d _ rfl (hr.alloc _) ⟨wr.heap.size, 0, none⟩ 1 1 [.int .u8 123] rfl rfl (cell_one_new _ _ _) (by simp [Value.oneCell']) (by omega) ?_)
        intro w2 hown2 hgrow2
        have hB2 : Below w.heap.size w w2 := (hbr.alloc hbr.size _).grown hgrow2 (by simp; omega) (fun k hk => by cases hk; exact Nat.le_refl _)
        have e : (brs o k).map (Value.int .u8) ++ [.int .u8 123] = (brs o (k + 1)).map (Value.int .u8) := by rw [R]; simp
        rw [e] at hown2
        clear e R hgrow2 hr hbr
        go_wp2_with fail
        go_roundw
        case rel => exact ⟨k + 1, by omega, by go_num, rfl, hown2, hB2⟩
        case measure => simp [intOf]; omega
    · obtain rfl : k = d := by omega
      have hge : ¬ (k : Int) < (k : Int) := by omega
      go_wp2_with fail
      refine wp_loop_rounds 1 ?_
      rw [rounds_succ]
      go_wp2_with fail
      go_ret2
      exact ⟨_, rfl, hr, hbr⟩

/-- The brackets that depth, objects and deep stand for. -/
def stackOf (d : Nat) (o : Int) (zs : List Int) : List Int := brs o (min d 64) ++ zs

/-- 'zzBracketStack' where the three fit together: the row's capacity is its length. -/
theorem stack_ok2 (d n c : Nat) (o : Int) (a : Option Addr) (zs : List Int) (w : World) (hd : d ≤ 65600) (hn : n = want d) (hz : Elems .u8 w a n zs) :
    Calls Try.prog 16 #[.int .i64 d, .int .u64 o, .slice a n c] w fun e w' => ∃ a', e = .returned (.tuple #[.slice a' d d, .bool true]) ∧
      w'.ownsRow w.heap.size 5 1 (.slice a' d d) d ((stackOf d o zs).map (Value.int .u8)) ∧ Below w.heap.size w w' := by
  unfold want at hn
  unfold stackOf
  by_cases h : 64 < d
  · obtain ⟨b, off, rfl, hc⟩ := hz.2 (by omega)
    rw [Nat.min_eq_right (by omega)]
    exact stack_deep d n c b off o zs w hd (by omega) (by omega) hz.1 hc
  · obtain rfl : n = 0 := by omega
    obtain rfl : zs = [] := List.eq_nil_of_length_eq_zero hz.1
    rw [Nat.min_eq_left (by omega), List.append_nil]
    exact stack_flat d c o a w (by omega)

/-- 'zzBracketStack' where the three fit together. -/
theorem stack_ok (d n c : Nat) (o : Int) (a : Option Addr) (zs : List Int) (w : World) (hd : d ≤ 65600) (hn : n = want d) (hz : Elems .u8 w a n zs) :
    Calls Try.prog 16 #[.int .i64 d, .int .u64 o, .slice a n c] w fun e w' => ∃ a' c', e = .returned (.tuple #[.slice a' d c', .bool true]) ∧
      w'.ownsRow w.heap.size 5 1 (.slice a' d c') d ((stackOf d o zs).map (Value.int .u8)) ∧ Below w.heap.size w w' := by
  refine (stack_ok2 d n c o a zs w hd hn hz).mono ?_
  rintro e w' ⟨a', rfl, h1, h2⟩
  exact ⟨a', d, rfl, h1, h2⟩
end Go.Proofs.Qxb6602542a
