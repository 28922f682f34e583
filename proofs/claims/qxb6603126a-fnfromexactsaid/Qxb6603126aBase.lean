import Derived.Test.Qxb6603126aProg
import Derived.WalkKit
import Derived.WalkSpells
import Derived.WalkLawsBesides
import Derived.Deep.QuietTactic
import Derived.BigQuiet
namespace Go.Proofs.Qxb6603126a
open Go.RowKit

/-- The elements of a slice value of integers: the numbers 'zs' lie from its address on (asked only where there is one). -/
def Elems (k : IntKind) (w : World) (a : Option Addr) (n : Nat) (zs : List Int) : Prop :=
  zs.length = n ∧ (0 < n → ∃ b off, a = some ⟨b, off, none⟩ ∧ ∀ i, i < n → w.cell? ⟨b, off + i, none⟩ = some (.int k (zs.getD i 0)))

theorem hide {p : Prop} (h : p) : Hid p := h
theorem unhide {p : Prop} (h : Hid p) : p := h

theorem Elems.below {k : IntKind} {w w' : World} {a : Option Addr} {n : Nat} {zs : List Int} (h : Elems k w a n zs) (hb : Below w.heap.size w w') : Elems k w' a n zs := by
  refine ⟨h.1, fun hn => ?_⟩
  obtain ⟨b, off, rfl, hc⟩ := h.2 hn
  refine ⟨b, off, rfl, fun i hi => ?_⟩
  have hlt : b < w.heap.size := World.block_lt_of_cell? w _ (hc i hi)
  rw [hb.cell (by exact hlt)]
  exact hc i hi

theorem Try.info22 : (Try.prog.info? 22).map (fun i => (i.zero, i.size, i.bytes)) = some (some (.int .u64 0), 1, 8) := by kernel_rfl
theorem Try.info35 : (Try.prog.info? 35).map (fun i => (i.zero, i.size, i.bytes)) = some (some (.agg #[.int .u64 0, .int .u64 0, .slice none 0 0, .pointer none]), 4, 48) := by kernel_rfl

/-- Entry i of a row of entries, four cells each. -/
def EntAt (ys : List Value) (i : Nat) (v0 v1 v2 v3 : Value) : Prop :=
  ys[i * 4]? = some v0 ∧ ys[i * 4 + 1]? = some v1 ∧ ys[i * 4 + 2]? = some v2 ∧ ys[i * 4 + 3]? = some v3

theorem entAt_new (ys : List Value) (k : Nat) (v0 v1 v2 v3 : Value) (h : k * 4 + 3 < ys.length) :
    EntAt ((((ys.set (k * 4) v0).set (k * 4 + 1) v1).set (k * 4 + 2) v2).set (k * 4 + 3) v3) k v0 v1 v2 v3 := by
  refine ⟨?_, ?_, ?_, ?_⟩
  · rw [List.getElem?_set_ne (by omega), List.getElem?_set_ne (by omega), List.getElem?_set_ne (by omega), List.getElem?_set_self (by omega)]
  · rw [List.getElem?_set_ne (by omega), List.getElem?_set_ne (by omega), List.getElem?_set_self (by simp; omega)]
  · rw [List.getElem?_set_ne (by omega), List.getElem?_set_self (by simp; omega)]
  · rw [List.getElem?_set_self (by simp; omega)]

theorem entAt_old (ys : List Value) (k i : Nat) (v0 v1 v2 v3 u0 u1 u2 u3 : Value) (hi : i ≠ k) (h : EntAt ys i u0 u1 u2 u3) :
    EntAt ((((ys.set (k * 4) v0).set (k * 4 + 1) v1).set (k * 4 + 2) v2).set (k * 4 + 3) v3) i u0 u1 u2 u3 := by
  refine ⟨?_, ?_, ?_, ?_⟩
  · rw [List.getElem?_set_ne (by omega), List.getElem?_set_ne (by omega), List.getElem?_set_ne (by omega), List.getElem?_set_ne (by omega)]; exact h.1
  · rw [List.getElem?_set_ne (by omega), List.getElem?_set_ne (by omega), List.getElem?_set_ne (by omega), List.getElem?_set_ne (by omega)]; exact h.2.1
  · rw [List.getElem?_set_ne (by omega), List.getElem?_set_ne (by omega), List.getElem?_set_ne (by omega), List.getElem?_set_ne (by omega)]; exact h.2.2.1
  · rw [List.getElem?_set_ne (by omega), List.getElem?_set_ne (by omega), List.getElem?_set_ne (by omega), List.getElem?_set_ne (by omega)]; exact h.2.2.2

/-- A log in memory: its block L, its entries' block E. 'dv i': entry i's Data, as a value. -/
structure LogAt (w : World) (L E : Nat) (bi bt : Int) (n : Nat) (ts : List Int) (dv : Nat → Value) : Prop where
  c0 : w.cell? ⟨L, 0, none⟩ = some (.int .u64 bi)
  c1 : w.cell? ⟨L, 1, none⟩ = some (.int .u64 bt)
  c2 : w.cell? ⟨L, 2, none⟩ = some (.slice (some ⟨E, 0, none⟩) n n)
  idx : ∀ i, i < n → w.cell? ⟨E, i * 4, none⟩ = some (.int .u64 (bi + 1 + i))
  term : ∀ i, i < n → w.cell? ⟨E, i * 4 + 1, none⟩ = some (.int .u64 (ts.getD i 0))
  data : ∀ i, i < n → w.cell? ⟨E, i * 4 + 2, none⟩ = some (dv i)
  mem : ∀ i, i < n → w.cell? ⟨E, i * 4 + 3, none⟩ = some (.pointer none)

theorem LogAt.drewN {w : World} {L E : Nat} {bi bt : Int} {n : Nat} {ts : List Int} {dv : Nat → Value} (h : LogAt w L E bi bt n ts dv) (q : Nat) : LogAt (w.drewN q) L E bi bt n ts dv :=
  ⟨h.c0, h.c1, h.c2, h.idx, h.term, h.data, h.mem⟩

theorem logAt_of (wr : World) (base E n : Nat) (bi bt b3 : Int) (sz : Value) (ts : List Int) (dv : Nat → Value) (ys : List Value) (hE : E < wr.heap.size) (hr : wr.ownsRow base 35 4 (.slice (some ⟨E, 0, none⟩) n n) n ys)
    (hent : ∀ i, i < n → EntAt ys i (.int .u64 (bi + 1 + i)) (.int .u64 (ts.getD i 0)) (dv i) (.pointer none)) :
    LogAt (wr.alloc (.cells #[.int .u64 bi, .int .u64 bt, .slice (some ⟨E, 0, none⟩) n n, .int .u64 b3, sz] 54)) wr.heap.size E bi bt n ts dv := by
  have hnew := heap_alloc_new wr (.cells #[.int .u64 bi, .int .u64 bt, .slice (some ⟨E, 0, none⟩) n n, .int .u64 b3, sz] 54)
  have hold : ∀ j, (wr.alloc (.cells #[.int .u64 bi, .int .u64 bt, .slice (some ⟨E, 0, none⟩) n n, .int .u64 b3, sz] 54)).cell? ⟨E, j, none⟩ = wr.cell? ⟨E, j, none⟩ :=
    fun j => ((Below.refl wr.heap.size wr).alloc (Nat.le_refl _) _).cell (by exact hE)
  refine ⟨?_, ?_, ?_, fun i hi => ?_, fun i hi => ?_, fun i hi => ?_, fun i hi => ?_⟩
  · rw [cell_of_row _ _ 0 _ _ _ hnew]; rfl
  · rw [cell_of_row _ _ 1 _ _ _ hnew]; rfl
  · rw [cell_of_row _ _ 2 _ _ _ hnew]; rfl
  · rw [hold, hr.cellAt _ (by omega)]; exact (hent i hi).1
  · rw [hold, hr.cellAt _ (by omega)]; exact (hent i hi).2.1
  · rw [hold, hr.cellAt _ (by omega)]; exact (hent i hi).2.2.1
  · rw [hold, hr.cellAt _ (by omega)]; exact (hent i hi).2.2.2

set_option maxRecDepth 100000 in
set_option maxHeartbeats 400000 in
theorem mk_nil (bi bt : Int) (b off n c : Nat) (ts : List Int) (w : World) (hn : 0 < n) (hl : ts.length = n) (hm : n ≤ 131072) (hbi : 0 ≤ bi) (hbn : bi + n ≤ 18446744073709551615)
    (hc : ∀ i, i < n → w.cell? ⟨b, off + i, none⟩ = some (.int .u64 (ts.getD i 0))) :
    Calls Try.prog 12 #[.int .u64 bi, .int .u64 bt, .slice (some ⟨b, off, none⟩) n c, .slice none 0 0] w fun e w' => ∃ L, e = .returned (.pointer (some ⟨L, 0, none⟩)) ∧
      (∃ E, LogAt w' L E bi bt n ts (fun _ => .slice none 0 0)) ∧ Below w.heap.size w w' := by
  obtain ⟨i0, hi, hz0, hz1, hz2⟩ := info_parts Try.info35
  have hb : b < w.heap.size := World.block_lt_of_cell? w _ (hc 0 hn)
  go_enter Try.func12, Try.ntmps12
  go_wp2_with (at_make; refine wpList_make_full _ rfl _ _ 30 rfl w.heap.size 35 i0 (.agg #[.int .u64 0, .int .u64 0, .slice none 0 0, .pointer none]) 4 Try.underlying30 hi hz0 hz1 _ _ _ _ n rfl rfl rfl rfl (by rw [hz2]; omega) (by unfold maxLen; omega) (Nat.le_refl _) ?_)
  intro w1 hown hgrow
  have hB1 : Below w.heap.size w w1 := (Below.refl _ _).grown hgrow (Nat.le_refl _) (fun k hk => by cases hk)
  clear hgrow
  go_wp2_with fail
  go_loopw [10, 11, 12] (fun sz i d wr => ∃ k : Nat, ∃ ys, k ≤ n ∧ i = .int .i64 k ∧ sz = .int .i64 0 ∧ wr.ownsRow w.heap.size 35 4 (.slice (some ⟨w.heap.size, 0, none⟩) n n) n ys ∧ (∀ j, j < k → EntAt ys j (.int .u64 (bi + 1 + j)) (.int .u64 (ts.getD j 0)) (.slice none 0 0) (.pointer none)) ∧ Below w.heap.size w wr) (fun _ i _ _ => n - (intOf i).toNat)
  case atStart => exact ⟨0, _, Nat.zero_le _, rfl, rfl, hown, fun j hj => by omega, hB1⟩
  case round =>
    obtain ⟨k, ys, hk, rfl, rfl, hr, hent, hbr⟩ := hrel
    clear hown hB1
    have hsr : w.heap.size < wr.heap.size := (hr.lt w.heap.size rfl).2
    by_cases hlt : k < n
    · have hcx : wr.cell? ⟨b, off + k, none⟩ = some (.int .u64 (ts.getD k 0)) := (hbr.cell (by exact hb)).trans (hc k hlt)
      have hlt' : (k : Int) < (n : Int) := by omega
      have hlen : ys.length = n * 4 := hr.1
      have e0 : wr.cell? ⟨w.heap.size, k * 4, none⟩ = some ys[k * 4] := by rw [hr.cellAt _ (by omega)]; exact List.getElem?_eq_getElem _
      have e1 : wr.cell? ⟨w.heap.size, k * 4 + 1, none⟩ = some ys[k * 4 + 1] := by rw [hr.cellAt _ (by omega)]; exact List.getElem?_eq_getElem _
      have e2 : wr.cell? ⟨w.heap.size, k * 4 + 2, none⟩ = some ys[k * 4 + 2] := by rw [hr.cellAt _ (by omega)]; exact List.getElem?_eq_getElem _
      have e3 : wr.cell? ⟨w.heap.size, k * 4 + 3, none⟩ = some ys[k * 4 + 3] := by rw [hr.cellAt _ (by omega)]; exact List.getElem?_eq_getElem _
      have f0 := hr.frozenAt (k * 4)
      have f1 := hr.frozenAt (k * 4 + 1)
      have f2 := hr.frozenAt (k * 4 + 2)
      have f3 := hr.frozenAt (k * 4 + 3)
      generalize ys[k * 4] = y0 at e0
      generalize ys[k * 4 + 1] = y1 at e1
      generalize ys[k * 4 + 2] = y2 at e2
      generalize ys[k * 4 + 3] = y3 at e3
      obtain ⟨z, hzk⟩ : ∃ z, ts.getD k 0 = z := ⟨_, rfl⟩
      rw [hzk] at hcx
      have HZ := hide hzk
      have HE := hide hent
      clear hzk hent
      have hst := ((((hr.stored (k * 4) (.int .u64 (bi + 1 + k))).1.stored (k * 4 + 1) (.int .u64 z)).1.stored (k * 4 + 2) (.slice none 0 0)).1.stored (k * 4 + 3) (.pointer none)).1
      have hbs := (((hbr.setCell (p := ⟨w.heap.size, k * 4, none⟩) (Nat.le_refl _) (.int .u64 (bi + 1 + k))).setCell (p := ⟨w.heap.size, k * 4 + 1, none⟩) (Nat.le_refl _) (.int .u64 z)).setCell (p := ⟨w.heap.size, k * 4 + 2, none⟩) (Nat.le_refl _) (.slice none 0 0)).setCell (p := ⟨w.heap.size, k * 4 + 3, none⟩) (Nat.le_refl _) (.pointer none)
      have HS := hide hst
      have HBS := hide hbs
      clear hst hbs
      go_wp2_with fail
      go_roundw
      case rel =>
        refine ⟨k + 1, _, by omega, by go_num, rfl, HS.out, fun j hj => ?_, HBS.out⟩
        by_cases hjk : j = k
        · subst hjk
          rw [HZ.out]
          exact entAt_new ys j _ _ _ _ (by omega)
        · exact entAt_old ys k j _ _ _ _ _ _ _ _ hjk (HE.out j (by omega))
      case measure => simp [intOf]; omega
    · obtain rfl : k = n := by omega
      have hge : ¬ (k : Int) < (k : Int) := by omega
      have HR := hide hr
      have HE := hide hent
      clear hr hent
      go_wp2_with fail
      go_ret
      refine ⟨wr.heap.size, rfl, ⟨w.heap.size, ?_⟩, hbr.alloc hbr.size _⟩
      exact logAt_of wr w.heap.size w.heap.size k bi bt bi (.int .i64 0) ts _ ys hsr HR.out (fun i hi => HE.out i hi)

set_option maxRecDepth 100000 in
set_option maxHeartbeats 400000 in
theorem mk_none (bi bt : Int) (a : Option Addr) (c : Nat) (da : Option Addr) (dc : Nat) (w : World) :
    Calls Try.prog 12 #[.int .u64 bi, .int .u64 bt, .slice a 0 c, .slice da 0 dc] w fun e w' => ∃ L, e = .returned (.pointer (some ⟨L, 0, none⟩)) ∧
      (∃ E, LogAt w' L E bi bt 0 [] (fun _ => .slice none 0 0)) ∧ Below w.heap.size w w' := by
  obtain ⟨i0, hi, hz0, hz1, hz2⟩ := info_parts Try.info35
  go_enter Try.func12, Try.ntmps12
  go_wp2_with (at_make; refine wpList_make_full _ rfl _ _ 30 rfl w.heap.size 35 i0 (.agg #[.int .u64 0, .int .u64 0, .slice none 0 0, .pointer none]) 4 Try.underlying30 hi hz0 hz1 _ _ _ _ 0 rfl rfl rfl rfl (by omega) (by unfold maxLen; omega) (Nat.le_refl _) ?_)
  intro w1 hown hgrow
  have hB1 : Below w.heap.size w w1 := (Below.refl _ _).grown hgrow (Nat.le_refl _) (fun k hk => by cases hk)
  have hsr : w.heap.size < w1.heap.size := (hown.lt w.heap.size rfl).2
  clear hgrow
  go_wp2_with fail
  refine wp_loop_rounds 1 ?_
  rw [rounds_succ]
  have HO := hide hown
  clear hown
  go_wp2_with fail
  go_ret
  refine ⟨w1.heap.size, rfl, ⟨w.heap.size, ?_⟩, hB1.alloc hB1.size _⟩
  exact logAt_of w1 w.heap.size w.heap.size 0 bi bt bi (.int .i64 0) [] _ _ hsr HO.out (fun i hi => by omega)
end Go.Proofs.Qxb6603126a
