import Derived.Test.Qxb6603145aProg
import Derived.WalkKit
import Derived.WalkSpells
import Derived.WalkLawsBesides
import Derived.Deep.QuietTactic
import Derived.BigQuiet
namespace Go.Proofs.Qxb6603145a
open Go.RowKit

theorem hide {p : Prop} (h : p) : Hid p := h
theorem unhide {p : Prop} (h : Hid p) : p := h

/-- The elements of a slice value of integers: the numbers 'zs' lie from its address on (asked only where there is one). -/
def Elems (k : IntKind) (w : World) (a : Option Addr) (n : Nat) (zs : List Int) : Prop :=
  zs.length = n ∧ (0 < n → ∃ b off, a = some ⟨b, off, none⟩ ∧ ∀ i, i < n → w.cell? ⟨b, off + i, none⟩ = some (.int k (zs.getD i 0)))

theorem Try.info5 : (Try.prog.info? 5).map (fun i => (i.zero, i.size, i.bytes)) = some (some (.int .u8 0), 1, 1) := by kernel_rfl

theorem bNil : ∀ (w : World) (a : Option Addr) (n c n' c' : Nat), (binOp .eql 25 (.slice a n c) (.slice none n' c')).run Try.prog w = .ok (.bool a.isNone) w :=
  fun w a n c n' c' => Lib.run_eql_slice_nil w _ _ a n c n' c' Try.underlying25

/-- What a copying loop has laid after k rounds. -/
def bMixed (k n : Nat) (zs : List Int) : List Value := (zs.take k).map (Value.int .u8) ++ List.replicate (n - k) (.int .u8 0)

theorem bMixed_set (k n : Nat) (zs : List Int) (hk : k < n) (hz : zs.length = n) :
    (bMixed k n zs).set k (.int .u8 (zs.getD k 0)) = bMixed (k + 1) n zs := by
  unfold bMixed
  have h1 : ((zs.take k).map (Value.int .u8)).length = k := by simp; omega
  rw [List.set_append, if_neg (by omega), h1, Nat.sub_self]
  obtain ⟨m, hm⟩ : ∃ m, n - k = m + 1 := ⟨n - k - 1, by omega⟩
  rw [hm, List.replicate_succ, List.set_cons_zero, List.take_succ_eq_append_getElem (by omega), List.map_append, show n - (k + 1) = m by omega]
  simp [List.getD, show k < zs.length by omega]

set_option maxHeartbeats 400000 in
theorem bClone_pos (b off n c : Nat) (zs : List Int) (w : World) (hn : 0 < n) (hz : zs.length = n) (hm : n ≤ 1048576)
    (hc : ∀ i, i < n → w.cell? ⟨b, off + i, none⟩ = some (.int .u8 (zs.getD i 0))) :
    Calls Try.prog 7 #[.slice (some ⟨b, off, none⟩) n c] w fun e w' => ∃ a' c', e = .returned (.slice a' n c') ∧
      w'.ownsRow w.heap.size 5 1 (.slice a' n c') n (zs.map (Value.int .u8)) ∧ Below w.heap.size w w' := by
  obtain ⟨i0, hi, hz0, hz1, hz2⟩ := info_parts Try.info5
  have qN := bNil
  have hb : b < w.heap.size := World.block_lt_of_cell? w _ (hc 0 hn)
  go_enter Try.func7, Try.ntmps7
  go_wp2_with (at_make; refine wpList_make_full _ rfl _ _ 25 rfl w.heap.size 5 i0 (.int .u8 0) 1 Try.underlying25 hi hz0 hz1 _ _ _ _ n rfl rfl rfl rfl (by rw [hz2]; omega) (by unfold maxLen; omega) (Nat.le_refl _) ?_)
  intro w1 hown hgrow
  go_wp2_with fail
  have hs1 : w.heap.size < w1.heap.size := (hown.lt w.heap.size rfl).2
  have hB1 : Below w.heap.size w w1 := (Below.refl _ _).grown hgrow (Nat.le_refl _) (fun k hk => by cases hk)
  have hm0 : (madeCells #[Value.int .u8 0] n).toList = bMixed 0 n zs := by rw [toList_madeCells_one]; simp [bMixed]
  rw [hm0] at hown
  clear hm0 hgrow qN
  go_loopw [4] (fun i wr => ∃ k : Nat, k ≤ n ∧ i = .int .i64 k ∧ wr.ownsRow w.heap.size 5 1 (.slice (some ⟨w.heap.size, 0, none⟩) n n) n (bMixed k n zs) ∧ Below w.heap.size w wr) (fun i _ => n - (intOf i).toNat)
  case atStart => exact ⟨0, Nat.zero_le _, rfl, hown, hB1⟩
  case round =>
    obtain ⟨k, hk, rfl, hr, hbr⟩ := hrel
    clear hown hB1
    have hsr : w.heap.size < wr.heap.size := (hr.lt w.heap.size rfl).2
    by_cases hlt : k < n
    · have hcx : wr.cell? ⟨b, off + k, none⟩ = some (.int .u8 (zs.getD k 0)) := (hbr.cell (by exact hb)).trans (hc k hlt)
      have hcy : wr.cell? ⟨w.heap.size, k, none⟩ = (bMixed k n zs)[k]? := hr.cellAt k (by omega)
      have hfy : wr.frozen? ⟨w.heap.size, k, none⟩ = false := hr.frozenAt k
      obtain ⟨u, hu⟩ : ∃ u, (bMixed k n zs)[k]? = some u := by
        have : k < (bMixed k n zs).length := by simp [bMixed]; omega
        exact ⟨_, List.getElem?_eq_getElem this⟩
      rw [hu] at hcy
      have hst := (hr.stored k (.int .u8 (zs.getD k 0))).1
      rw [bMixed_set k n zs hlt hz] at hst
      have hbs : Below w.heap.size w (wr.setCell ⟨w.heap.size, k, none⟩ (.int .u8 (zs.getD k 0))) := hbr.setCell (Nat.le_refl _) _
      obtain ⟨z, hzk⟩ : ∃ z, zs.getD k 0 = z := ⟨_, rfl⟩
      rw [hzk] at hcx hst hbs
      clear hr hu hzk
      go_wp2_with fail
      go_roundw
      case rel => exact ⟨k + 1, by omega, by go_num, hst, hbs⟩
      case measure => simp [intOf]; omega
    · obtain rfl : k = n := by omega
      go_wp2_with fail
      go_ret
      refine ⟨_, _, rfl, ?_, hbr⟩
      have e : bMixed k k zs = zs.map (Value.int .u8) := by unfold bMixed; rw [List.take_of_length_le (by omega)]; simp
      rw [e] at hr
      exact hr

set_option maxHeartbeats 400000 in
theorem bClone_nil (w : World) :
    Calls Try.prog 7 #[.slice none 0 0] w fun e w' => ∃ a' c', e = .returned (.slice a' 0 c') ∧
      w'.ownsRow w.heap.size 5 1 (.slice a' 0 c') 0 [] ∧ Below w.heap.size w w' := by
  have qN := bNil
  go_enter Try.func7, Try.ntmps7
  go_wp2
  go_ret
  exact ⟨none, 0, rfl, World.ownsRow_nil _ _ _ _, Below.refl _ _⟩

set_option maxHeartbeats 400000 in
theorem bClone_zero (x : Addr) (c : Nat) (w : World) :
    Calls Try.prog 7 #[.slice (some x) 0 c] w fun e w' => ∃ a' c', e = .returned (.slice a' 0 c') ∧
      w'.ownsRow w.heap.size 5 1 (.slice a' 0 c') 0 [] ∧ Below w.heap.size w w' := by
  obtain ⟨i0, hi, hz0, hz1, hz2⟩ := info_parts Try.info5
  have qN := bNil
  go_enter Try.func7, Try.ntmps7
  go_wp2_with (at_make; refine wpList_make_full _ rfl _ _ 25 rfl w.heap.size 5 i0 (.int .u8 0) 1 Try.underlying25 hi hz0 hz1 _ _ _ _ 0 rfl rfl rfl rfl (by omega) (by unfold maxLen; omega) (Nat.le_refl _) ?_)
  intro w1 hown hgrow
  have hB1 : Below w.heap.size w w1 := (Below.refl _ _).grown hgrow (Nat.le_refl _) (fun k hk => by cases hk)
  have hm0 : (madeCells #[Value.int .u8 0] 0).toList = [] := by rw [toList_madeCells_one]; rfl
  try rw [hm0] at hown
  clear hm0 hgrow qN
  go_wp2_with fail
  refine wp_loop_rounds 1 ?_
  rw [rounds_succ]
  go_wp2_with fail
  go_ret
  exact ⟨_, _, rfl, hown, hB1⟩

/-- 'zzCopy': a row of the call's own with the same elements. -/
theorem bClone_any (a : Option Addr) (n c : Nat) (zs : List Int) (w : World) (hm : n ≤ 1048576) (hz : Elems .u8 w a n zs) (ha : a = none → n = 0 ∧ c = 0) :
    Calls Try.prog 7 #[.slice a n c] w fun e w' => ∃ a' c', e = .returned (.slice a' n c') ∧
      w'.ownsRow w.heap.size 5 1 (.slice a' n c') n (zs.map (Value.int .u8)) ∧ Below w.heap.size w w' := by
  obtain ⟨h1, h2⟩ := hz
  by_cases hn : 0 < n
  · obtain ⟨b, off, rfl, hc⟩ := h2 hn
    exact bClone_pos b off n c zs w hn h1 hm hc
  · obtain rfl : n = 0 := by omega
    obtain rfl : zs = [] := List.eq_nil_of_length_eq_zero h1
    cases a with
    | none =>
      obtain ⟨-, rfl⟩ := ha rfl
      exact bClone_nil w
    | some x => exact bClone_zero x c w

theorem Try.info3 : (Try.prog.info? 3).map (fun i => (i.zero, i.size, i.bytes)) = some (some (.int .i64 0), 1, 8) := by kernel_rfl

theorem iNil : ∀ (w : World) (a : Option Addr) (n c n' c' : Nat), (binOp .eql 26 (.slice a n c) (.slice none n' c')).run Try.prog w = .ok (.bool a.isNone) w :=
  fun w a n c n' c' => Lib.run_eql_slice_nil w _ _ a n c n' c' Try.underlying26

/-- What a copying loop has laid after k rounds. -/
def iMixed (k n : Nat) (zs : List Int) : List Value := (zs.take k).map (Value.int .i64) ++ List.replicate (n - k) (.int .i64 0)

theorem iMixed_set (k n : Nat) (zs : List Int) (hk : k < n) (hz : zs.length = n) :
    (iMixed k n zs).set k (.int .i64 (zs.getD k 0)) = iMixed (k + 1) n zs := by
  unfold iMixed
  have h1 : ((zs.take k).map (Value.int .i64)).length = k := by simp; omega
  rw [List.set_append, if_neg (by omega), h1, Nat.sub_self]
  obtain ⟨m, hm⟩ : ∃ m, n - k = m + 1 := ⟨n - k - 1, by omega⟩
  rw [hm, List.replicate_succ, List.set_cons_zero, List.take_succ_eq_append_getElem (by omega), List.map_append, show n - (k + 1) = m by omega]
  simp [List.getD, show k < zs.length by omega]

set_option maxHeartbeats 400000 in
theorem iClone_pos (b off n c : Nat) (zs : List Int) (w : World) (hn : 0 < n) (hz : zs.length = n) (hm : n ≤ 1048576)
    (hc : ∀ i, i < n → w.cell? ⟨b, off + i, none⟩ = some (.int .i64 (zs.getD i 0))) :
    Calls Try.prog 8 #[.slice (some ⟨b, off, none⟩) n c] w fun e w' => ∃ a' c', e = .returned (.slice a' n c') ∧
      w'.ownsRow w.heap.size 3 1 (.slice a' n c') n (zs.map (Value.int .i64)) ∧ Below w.heap.size w w' := by
  obtain ⟨i0, hi, hz0, hz1, hz2⟩ := info_parts Try.info3
  have qN := iNil
  have hb : b < w.heap.size := World.block_lt_of_cell? w _ (hc 0 hn)
  go_enter Try.func8, Try.ntmps8
  go_wp2_with (at_make; refine wpList_make_full _ rfl _ _ 26 rfl w.heap.size 3 i0 (.int .i64 0) 1 Try.underlying26 hi hz0 hz1 _ _ _ _ n rfl rfl rfl rfl (by rw [hz2]; omega) (by unfold maxLen; omega) (Nat.le_refl _) ?_)
  intro w1 hown hgrow
  go_wp2_with fail
  have hs1 : w.heap.size < w1.heap.size := (hown.lt w.heap.size rfl).2
  have hB1 : Below w.heap.size w w1 := (Below.refl _ _).grown hgrow (Nat.le_refl _) (fun k hk => by cases hk)
  have hm0 : (madeCells #[Value.int .i64 0] n).toList = iMixed 0 n zs := by rw [toList_madeCells_one]; simp [iMixed]
  rw [hm0] at hown
  clear hm0 hgrow qN
  go_loopw [4] (fun i wr => ∃ k : Nat, k ≤ n ∧ i = .int .i64 k ∧ wr.ownsRow w.heap.size 3 1 (.slice (some ⟨w.heap.size, 0, none⟩) n n) n (iMixed k n zs) ∧ Below w.heap.size w wr) (fun i _ => n - (intOf i).toNat)
  case atStart => exact ⟨0, Nat.zero_le _, rfl, hown, hB1⟩
  case round =>
    obtain ⟨k, hk, rfl, hr, hbr⟩ := hrel
    clear hown hB1
    have hsr : w.heap.size < wr.heap.size := (hr.lt w.heap.size rfl).2
    by_cases hlt : k < n
    · have hcx : wr.cell? ⟨b, off + k, none⟩ = some (.int .i64 (zs.getD k 0)) := (hbr.cell (by exact hb)).trans (hc k hlt)
      have hcy : wr.cell? ⟨w.heap.size, k, none⟩ = (iMixed k n zs)[k]? := hr.cellAt k (by omega)
      have hfy : wr.frozen? ⟨w.heap.size, k, none⟩ = false := hr.frozenAt k
      obtain ⟨u, hu⟩ : ∃ u, (iMixed k n zs)[k]? = some u := by
        have : k < (iMixed k n zs).length := by simp [iMixed]; omega
        exact ⟨_, List.getElem?_eq_getElem this⟩
      rw [hu] at hcy
      have hst := (hr.stored k (.int .i64 (zs.getD k 0))).1
      rw [iMixed_set k n zs hlt hz] at hst
      have hbs : Below w.heap.size w (wr.setCell ⟨w.heap.size, k, none⟩ (.int .i64 (zs.getD k 0))) := hbr.setCell (Nat.le_refl _) _
      obtain ⟨z, hzk⟩ : ∃ z, zs.getD k 0 = z := ⟨_, rfl⟩
      rw [hzk] at hcx hst hbs
      clear hr hu hzk
      go_wp2_with fail
      go_roundw
      case rel => exact ⟨k + 1, by omega, by go_num, hst, hbs⟩
      case measure => simp [intOf]; omega
    · obtain rfl : k = n := by omega
      go_wp2_with fail
      go_ret
      refine ⟨_, _, rfl, ?_, hbr⟩
      have e : iMixed k k zs = zs.map (Value.int .i64) := by unfold iMixed; rw [List.take_of_length_le (by omega)]; simp
      rw [e] at hr
      exact hr

set_option maxHeartbeats 400000 in
theorem iClone_nil (w : World) :
    Calls Try.prog 8 #[.slice none 0 0] w fun e w' => ∃ a' c', e = .returned (.slice a' 0 c') ∧
      w'.ownsRow w.heap.size 3 1 (.slice a' 0 c') 0 [] ∧ Below w.heap.size w w' := by
  have qN := iNil
  go_enter Try.func8, Try.ntmps8
  go_wp2
  go_ret
  exact ⟨none, 0, rfl, World.ownsRow_nil _ _ _ _, Below.refl _ _⟩

set_option maxHeartbeats 400000 in
theorem iClone_zero (x : Addr) (c : Nat) (w : World) :
    Calls Try.prog 8 #[.slice (some x) 0 c] w fun e w' => ∃ a' c', e = .returned (.slice a' 0 c') ∧
      w'.ownsRow w.heap.size 3 1 (.slice a' 0 c') 0 [] ∧ Below w.heap.size w w' := by
  obtain ⟨i0, hi, hz0, hz1, hz2⟩ := info_parts Try.info3
  have qN := iNil
  go_enter Try.func8, Try.ntmps8
  go_wp2_with (at_make; refine wpList_make_full _ rfl _ _ 26 rfl w.heap.size 3 i0 (.int .i64 0) 1 Try.underlying26 hi hz0 hz1 _ _ _ _ 0 rfl rfl rfl rfl (by omega) (by unfold maxLen; omega) (Nat.le_refl _) ?_)
  intro w1 hown hgrow
  have hB1 : Below w.heap.size w w1 := (Below.refl _ _).grown hgrow (Nat.le_refl _) (fun k hk => by cases hk)
  have hm0 : (madeCells #[Value.int .i64 0] 0).toList = [] := by rw [toList_madeCells_one]; rfl
  try rw [hm0] at hown
  clear hm0 hgrow qN
  go_wp2_with fail
  refine wp_loop_rounds 1 ?_
  rw [rounds_succ]
  go_wp2_with fail
  go_ret
  exact ⟨_, _, rfl, hown, hB1⟩

/-- 'zzCopy': a row of the call's own with the same elements. -/
theorem iClone_any (a : Option Addr) (n c : Nat) (zs : List Int) (w : World) (hm : n ≤ 1048576) (hz : Elems .i64 w a n zs) (ha : a = none → n = 0 ∧ c = 0) :
    Calls Try.prog 8 #[.slice a n c] w fun e w' => ∃ a' c', e = .returned (.slice a' n c') ∧
      w'.ownsRow w.heap.size 3 1 (.slice a' n c') n (zs.map (Value.int .i64)) ∧ Below w.heap.size w w' := by
  obtain ⟨h1, h2⟩ := hz
  by_cases hn : 0 < n
  · obtain ⟨b, off, rfl, hc⟩ := h2 hn
    exact iClone_pos b off n c zs w hn h1 hm hc
  · obtain rfl : n = 0 := by omega
    obtain rfl : zs = [] := List.eq_nil_of_length_eq_zero h1
    cases a with
    | none =>
      obtain ⟨-, rfl⟩ := ha rfl
      exact iClone_nil w
    | some x => exact iClone_zero x c w

/-- What is owned is there to be read. -/
theorem ownsRow_elems {w : World} {base e n c : Nat} {a : Option Addr} {k : IntKind} {zs : List Int} (h : w.ownsRow base e 1 (.slice a n c) n (zs.map (Value.int k))) : Elems k w a n zs := by
  refine ⟨by have := h.1; simpa using this, fun hn => ?_⟩
  rcases h.2 with ⟨h', h0⟩ | ⟨g, cap, cur, h', _⟩
  · omega
  · simp only [Value.slice.injEq] at h'
    obtain ⟨rfl, -, rfl⟩ := h'
    refine ⟨g, 0, rfl, fun i hi => ?_⟩
    have := h.cellAt i (by omega)
    rw [Nat.zero_add, this]
    have hl : zs.length = n := by have := h.1; simpa using this
    simp [List.getD, show i < zs.length by omega]

theorem Elems.below {k : IntKind} {w w' : World} {a : Option Addr} {n : Nat} {zs : List Int} (h : Elems k w a n zs) (hb : Below w.heap.size w w') : Elems k w' a n zs := by
  refine ⟨h.1, fun hn => ?_⟩
  obtain ⟨b, off, rfl, hc⟩ := h.2 hn
  refine ⟨b, off, rfl, fun i hi => ?_⟩
  have hlt : b < w.heap.size := World.block_lt_of_cell? w _ (hc i hi)
  rw [hb.cell (by exact hlt)]
  exact hc i hi
end Go.Proofs.Qxb6603145a
