import Derived.Test.Qxb6603126aData
namespace Go.Proofs.Qxb6603126a
open Go.RowKit

/-- Entry i's Data, as a value. -/
def dval (A : Nat → Option Addr) (L C : Nat → Nat) (i : Nat) : Value := .slice (A i) (L i) (C i)

set_option maxRecDepth 100000 in
set_option maxHeartbeats 400000 in
theorem mk_all (bi bt : Int) (b off n c bd od dc : Nat) (ts : List Int) (A : Nat → Option Addr) (L C : Nat → Nat) (w : World) (hn : 0 < n) (hl : ts.length = n) (hm : n ≤ 131072) (hbi : 0 ≤ bi) (hbn : bi + n ≤ 18446744073709551615) (hL : sumTo L n ≤ 1048576)
    (hc : ∀ i, i < n → w.cell? ⟨b, off + i, none⟩ = some (.int .u64 (ts.getD i 0))) (hd : ∀ i, i < n → w.cell? ⟨bd, od + i, none⟩ = some (.slice (A i) (L i) (C i))) :
    Calls Try.prog 12 #[.int .u64 bi, .int .u64 bt, .slice (some ⟨b, off, none⟩) n c, .slice (some ⟨bd, od, none⟩) n dc] w fun e w' => ∃ L', e = .returned (.pointer (some ⟨L', 0, none⟩)) ∧
      (∃ E, LogAt w' L' E bi bt n ts (dval A L C)) ∧ Below w.heap.size w w' := by
  obtain ⟨i0, hi, hz0, hz1, hz2⟩ := info_parts Try.info35
  have hb : b < w.heap.size := World.block_lt_of_cell? w _ (hc 0 hn)
  have hbd : bd < w.heap.size := World.block_lt_of_cell? w _ (hd 0 hn)
  go_enter Try.func12, Try.ntmps12
  go_wp2_with (at_make; refine wpList_make_full _ rfl _ _ 30 rfl w.heap.size 35 i0 (.agg #[.int .u64 0, .int .u64 0, .slice none 0 0, .pointer none]) 4 Try.underlying30 hi hz0 hz1 _ _ _ _ n rfl rfl rfl rfl (by rw [hz2]; omega) (by unfold maxLen; omega) (Nat.le_refl _) ?_)
  intro w1 hown hgrow
  have hB1 : Below w.heap.size w w1 := (Below.refl _ _).grown hgrow (Nat.le_refl _) (fun k hk => by cases hk)
  clear hgrow
  go_wp2_with fail
  go_loopw [10, 11, 12] (fun sz i d wr => ∃ k : Nat, ∃ ys, ∃ S : Nat, k ≤ n ∧ i = .int .i64 k ∧ sz = .int .i64 S ∧ Hid (S = sumTo L k) ∧ wr.ownsRow w.heap.size 35 4 (.slice (some ⟨w.heap.size, 0, none⟩) n n) n ys ∧ Hid (∀ j, j < k → EntAt ys j (.int .u64 (bi + 1 + j)) (.int .u64 (ts.getD j 0)) (dval A L C j) (.pointer none)) ∧ Below w.heap.size w wr) (fun _ i _ _ => n - (intOf i).toNat)
  case atStart => exact ⟨0, _, 0, Nat.zero_le _, rfl, rfl, hide rfl, hown, hide (fun j hj => by omega), hB1⟩
  case round =>
    obtain ⟨k, ys, S, hk, rfl, rfl, hS, hr, hent, hbr⟩ := hrel
    clear hown hB1
    have hsr : w.heap.size < wr.heap.size := (hr.lt w.heap.size rfl).2
    by_cases hlt : k < n
    · have hcx : wr.cell? ⟨b, off + k, none⟩ = some (.int .u64 (ts.getD k 0)) := (hbr.cell (by exact hb)).trans (hc k hlt)
      have hdx : wr.cell? ⟨bd, od + k, none⟩ = some (.slice (A k) (L k) (C k)) := (hbr.cell (by exact hbd)).trans (hd k hlt)
      have hlt' : (k : Int) < (n : Int) := by omega
      have hSb : S + L k ≤ 1048576 := by
        have h1 := sumTo_mono L (k + 1) n (by omega)
        have h2 : sumTo L (k + 1) = sumTo L k + L k := rfl
        have := hS.out
        omega
      have hlen : ys.length = n * 4 := hr.1
      have e0 : wr.cell? ⟨w.heap.size, k * 4, none⟩ = some ys[k * 4] := by rw [hr.cellAt _ (by omega)]; exact List.getElem?_eq_getElem _
      have e1 : wr.cell? ⟨w.heap.size, k * 4 + 1, none⟩ = some ys[k * 4 + 1] := by rw [hr.cellAt _ (by omega)]; exact List.getElem?_eq_getElem _
      have e2 : wr.cell? ⟨w.heap.size, k * 4 + 2, none⟩ = some ys[k * 4 + 2] := by rw [hr.cellAt _ (by omega)]; exact List.getElem?_eq_getElem _
      have e3 : wr.cell? ⟨w.heap.size, k * 4 + 3, none⟩ = some ys[k * 4 + 3] := by rw [hr.cellAt _ (by omega)]; exact List.getElem?_eq_getElem _
      have f0 := hr.frozenAt (k * 4)
      have f1 := hr.frozenAt (k * 4 + 1)
      have f2 := hr.frozenAt (k * 4 + 2)
      have f3 := hr.frozenAt (k * 4 + 3)
      generalize ys[k * 4] = y0 at e0
      generalize ys[k * 4 + 1] = y1 at e1
      generalize ys[k * 4 + 2] = y2 at e2
      generalize ys[k * 4 + 3] = y3 at e3
      obtain ⟨z, hzk⟩ : ∃ z, ts.getD k 0 = z := ⟨_, rfl⟩
      rw [hzk] at hcx
      have HZ := hide hzk
      clear hzk
      have hst := ((((hr.stored (k * 4) (.int .u64 (bi + 1 + k))).1.stored (k * 4 + 1) (.int .u64 z)).1.stored (k * 4 + 2) (.slice (A k) (L k) (C k))).1.stored (k * 4 + 3) (.pointer none)).1
      have hbs := (((hbr.setCell (p := ⟨w.heap.size, k * 4, none⟩) (Nat.le_refl _) (.int .u64 (bi + 1 + k))).setCell (p := ⟨w.heap.size, k * 4 + 1, none⟩) (Nat.le_refl _) (.int .u64 z)).setCell (p := ⟨w.heap.size, k * 4 + 2, none⟩) (Nat.le_refl _) (.slice (A k) (L k) (C k))).setCell (p := ⟨w.heap.size, k * 4 + 3, none⟩) (Nat.le_refl _) (.pointer none)
      have HS := hide hst
      have HBS := hide hbs
      clear hst hbs
      go_wp2_with fail
      go_roundw
      case rel =>
        refine ⟨k + 1, _, S + L k, by omega, by go_num, by go_num, hide (by rw [hS.out]; rfl), HS.out, hide (fun j hj => ?_), HBS.out⟩
        by_cases hjk : j = k
        · subst hjk
          rw [HZ.out]
          exact entAt_new ys j _ _ _ _ (by omega)
        · exact entAt_old ys k j _ _ _ _ _ _ _ _ hjk (hent.out j (by omega))
      case measure => simp [intOf]; omega
    · obtain rfl : k = n := by omega
      have hge : ¬ (k : Int) < (k : Int) := by omega
      have HR := hide hr
      clear hr
      go_wp2_with fail
      go_ret
      refine ⟨wr.heap.size, rfl, ⟨w.heap.size, ?_⟩, hbr.alloc hbr.size _⟩
      exact logAt_of wr w.heap.size w.heap.size k bi bt bi (.int .i64 S) ts _ ys hsr HR.out (fun i hi => hent.out i hi)

/-- 'ZZMakeLog' with as many data as terms. -/
theorem mk_datas (bi bt : Int) (a : Option Addr) (n c : Nat) (da : Option Addr) (dc : Nat) (ts : List Int) (A : Nat → Option Addr) (L C : Nat → Nat) (Z : Nat → List Int) (w : World) (hm : n ≤ 131072) (hbi : 0 ≤ bi) (hbn : bi + n ≤ 18446744073709551615) (hL : sumTo L n ≤ 1048576)
    (hz : Elems .u64 w a n ts) (hd : DatasAt w da n A L C Z) :
    Calls Try.prog 12 #[.int .u64 bi, .int .u64 bt, .slice a n c, .slice da n dc] w fun e w' => ∃ L', e = .returned (.pointer (some ⟨L', 0, none⟩)) ∧
      (∃ E, LogAt w' L' E bi bt n ts (dval A L C)) ∧ Below w.heap.size w w' := by
  by_cases hn : 0 < n
  · obtain ⟨b, off, rfl, hc⟩ := hz.2 hn
    obtain ⟨bd, od, rfl, hcd⟩ := hd.row hn
    exact mk_all bi bt b off n c bd od dc ts A L C w hn hz.1 hm hbi hbn hL hc hcd
  · obtain rfl : n = 0 := by omega
    obtain rfl : ts = [] := List.eq_nil_of_length_eq_zero hz.1
    refine (mk_none bi bt a c da dc w).mono ?_
    rintro e w' ⟨L', rfl, ⟨E, h⟩, hb⟩
    exact ⟨L', rfl, ⟨E, h.c0, h.c1, h.c2, fun i hi => by omega, fun i hi => by omega, fun i hi => by omega, fun i hi => by omega⟩, hb⟩
end Go.Proofs.Qxb6603126a
