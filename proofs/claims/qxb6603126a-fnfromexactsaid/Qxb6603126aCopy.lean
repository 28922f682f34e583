import Derived.Test.Qxb6603126aBack
import Derived.Laws.CopyOwn
namespace Go.Proofs.Qxb6603126a
open Go.RowKit

theorem nilN23 : ∀ (w : World) (a : Option Addr) (n c n' c' : Nat), (binOp .neq 23 (.slice a n c) (.slice none n' c')).run Try.prog w = .ok (.bool (!a.isNone)) w :=
  fun w a n c n' c' => run_neq_slice_nil_any w _ _ a n c n' c' Try.underlying23

theorem size22 : (Try.prog.info? 22).map (·.size) = some 1 := by kernel_rfl

theorem fot_run (L E n j : Nat) (bi bt i : Int) (ts : List Int) (dv : Nat → Value) (w : World) (hl : LogAt w L E bi bt n ts dv) (hbi : 0 ≤ bi) (hbn : bi + n ≤ 18446744073709551615) (hij : i = bi + j) (hj : 1 ≤ j) (hmax : i ≤ 18446744073709551615) :
    Calls Try.prog 27 #[.pointer (some ⟨L, 0, none⟩), .int .u64 i] w fun e w' => e = .returned (.int .u64 (bi + (runStart (tf ts n) j : Nat))) ∧ ∃ q, w' = w.drewN q := by
  unfold runStart
  exact fot_past L E n j bi bt i ts dv w hl hbi hbn hij hj hmax

set_option maxRecDepth 100000 in
set_option maxHeartbeats 400000 in
theorem fot17 (L E n j : Nat) (bi bt i : Int) (ts : List Int) (dv : Nat → Value) (w : World) (hl : LogAt w L E bi bt n ts dv) (hbi : 0 ≤ bi) (hbn : bi + n ≤ 18446744073709551615) (hij : i = bi + j) (hj : 1 ≤ j) (hmax : i ≤ 18446744073709551615) :
    Calls Try.prog 17 #[.pointer (some ⟨L, 0, none⟩), .int .u64 i] w fun e w' => e = .returned (.int .u64 (bi + (runStart (tf ts n) j : Nat))) ∧ ∃ q, w' = w.drewN q := by
  have HJ := hide hij
  clear hij
  go_enter Try.func17, Try.ntmps17
  go_wp2_with fail
  refine (fot_run L E n j bi bt i ts dv w hl hbi hbn HJ.out hj hmax).mono ?_
  rintro e w1 ⟨rfl, q, rfl⟩
  go_wp2_with fail
  go_ret
  exact ⟨rfl, q, rfl⟩

theorem row_cells {w : World} {T n : Nat} {cur : List Value} {ts : List Int} (hl : ts.length = n) (hcl : cur.length = n) (h : w.heap[T]? = some (.cells (splice cur 0 (ts.map (Value.int .u64))).toArray 22 (0, 0))) :
    ∀ i, i < n → w.cell? ⟨T, 0 + i, none⟩ = some (.int .u64 (ts.getD i 0)) := by
  intro i hi
  have e : splice cur 0 (ts.map (Value.int .u64)) = ts.map (Value.int .u64) := by
    unfold splice
    rw [List.drop_eq_nil_of_le (by simp; omega)]
    simp
  rw [e] at h
  rw [Nat.zero_add, cell_of_row w T i _ _ _ h]
  simp [List.getD, show i < ts.length by omega]


/-- A made row of n integers: its block. -/
theorem made_row {w1 : World} {base B n : Nat} {xs : List Value} (hown : w1.ownsRow base 22 1 (.slice (some ⟨B, 0, none⟩) n n) n xs) :
    ∃ cur : List Value, w1.heap[B]? = some (.cells cur.toArray 22 (0, 0)) ∧ cur.length = n := by
  rcases hown.2 with ⟨h, _⟩ | ⟨g, cap, cur, h, _, hh, _, _, hcs, _⟩
  · simp at h
  · simp only [Value.slice.injEq, Option.some.injEq, Addr.mk.injEq, and_true, true_and] at h
    obtain ⟨rfl, rfl⟩ := h
    exact ⟨cur.toList, by simpa using hh, by simpa using hcs⟩

/-- The source of a copy. -/
theorem src_cells {w1 : World} {b off n : Nat} {ts : List Int} (hl : ts.length = n) (hc : ∀ i, i < n → w1.cell? ⟨b, off + i, none⟩ = some (.int .u64 (ts.getD i 0))) :
    ∀ j v, (ts.map (Value.int .u64))[j]? = some v → w1.cell? ((⟨b, off, none⟩ : Addr).add j) = some v := by
  intro j v hv
  rw [List.getElem?_map] at hv
  have hj : j < ts.length := by
    by_cases h : j < ts.length
    · exact h
    · rw [List.getElem?_eq_none (by omega)] at hv; simp at hv
  rw [List.getElem?_eq_getElem hj] at hv
  rw [Addr.add_lit, hc j (by omega)]
  simp only [List.getD, List.getElem?_eq_getElem hj]
  simpa using hv
end Go.Proofs.Qxb6603126a
