import Derived.Test.Qxb6602542aNumA
namespace Go.Proofs.Qxb6602542a
open Go.RowKit

theorem hide {p : Prop} (h : p) : Hid p := h
theorem unhide {p : Prop} (h : Hid p) : p := h

theorem Elems.below {k : IntKind} {w w' : World} {a : Option Addr} {n : Nat} {zs : List Int} (h : Elems k w a n zs) (hb : Below w.heap.size w w') : Elems k w' a n zs := by
  refine ⟨h.1, fun hn => ?_⟩
  obtain ⟨b, off, rfl, hc⟩ := h.2 hn
  refine ⟨b, off, rfl, fun i hi => ?_⟩
  have hlt : b < w.heap.size := World.block_lt_of_cell? w _ (hc i hi)
  rw [hb.cell (by exact hlt)]
  exact hc i hi

theorem ownsRow_nilcap {w : World} {base e n c : Nat} {a : Option Addr} {xs : List Value} (h : w.ownsRow base e 1 (.slice a n c) n xs) : a = none → n = 0 ∧ c = 0 := by
  intro ha
  rcases h.2 with ⟨h', h0⟩ | ⟨g, cap, cur, h', _⟩
  · simp only [Value.slice.injEq] at h'
    exact ⟨h0, h'.2.2⟩
  · rw [ha] at h'
    simp at h'

set_option maxRecDepth 100000 in
set_option maxHeartbeats 1000000 in
theorem num_main (s lim dep ob : Int) (a : Option Addr) (n c : Nat) (zs : List Int) (key : Bool) (left : ByteArray) (hex vals oab ch i : Int) (w : World)
    (hz : Elems .u8 w a n zs) (ha : a = none → n = 0 ∧ c = 0) (h3 : (n : Int) + left.size ≤ 1048576) (hF : Fits s ch) :
    Calls Try.prog 6 #[.int .u8 s, .int .i64 lim, .int .i64 dep, .int .u64 ob, .slice a n c, .bool key, .string left, .int .i64 hex, .int .i64 vals, .int .i64 oab, .int .u8 ch, .int .i64 i] w fun e w' => e = .returned (.bool true) ∧ Below w.heap.size w w' := by
  obtain ⟨W, b1, b1', b2', b2, S, back, hW0, hW3, hwit, hnum, hpre, hprw, hT, hF1, hF2⟩ := hF
  have h1 : (n : Int) ≤ 1048576 := by omega
  have h2 : (left.size : Int) ≤ 1048576 := by omega
  have k1 : decide ((1048576 : Int) < n) = false := by simp; omega
  have k2 : decide ((1048576 : Int) < left.size) = false := by simp; omega
  have k3 : decide ((1048576 : Int) < (n : Int) + left.size) = false := by simp; omega
  have hz1 := hz.below ((Below.refl _ w).alloc (Nat.le_refl _) (.cells (W.map (Value.int .u8)).toArray 5))
  have HT : Hid _ := hT
  have HF1 : Hid _ := hF1
  have HF2 : Hid _ := hF2
  clear hT hF1 hF2
  obtain ⟨i0, hi, hz0, hz1', hz2⟩ := info_parts Try.info5
  go_enter Try.func6, Try.ntmps6
  go_wp2_with (go_at_call 28; go_in)
  refine (hwit _).mono ?_
  rintro e w0 ⟨rfl, hw0⟩
  have hb0 : Below w.heap.size w w0 := by rw [hw0]; exact (Below.refl _ w).alloc (Nat.le_refl _) _
  have hcw : ∀ j, j < W.length → w0.cell? ⟨w.heap.size, j, none⟩ = some (.int .u8 (W.getD j 0)) := by
    intro j hj
    rw [hw0, cell_of_row _ w.heap.size j _ _ _ (heap_alloc_new w _)]
    simp [List.getD, hj]
  have hs0 : w.heap.size < w0.heap.size := by rw [hw0]; simp
  rw [← hw0] at hz1
  clear hw0
  go_wp2_with fail
  refine (clone_any _ _ _ zs _ (by omega) hz1 ha).mono ?_
  rintro e w1 ⟨a1, c1, rfl, hown1, hb1⟩
  have hn1 := ownsRow_nilcap hown1
  have HN1 : Hid _ := hn1
  clear hn1
  go_wp2_with fail
  refine (clone_any _ _ _ zs _ (by omega) (ownsRow_elems hown1) HN1.out).mono ?_
  rintro e w2 ⟨a2, c2, rfl, hown2, hb2⟩
  go_wp2_with (first | (go_at_call 10; go_in) | (go_at_call 30; go_in))
  refine (hnum w2.heap.size i _ _ _ _ _ _ _ _ _ _ (heap_alloc_new w2 _)).mono ?_
  rintro e w3 ⟨hret, hB3, hg3⟩
  obtain ⟨I, hI⟩ : ∃ I, I = if back = true then wrap64 (i - 1) else i := ⟨_, rfl⟩
  rw [← hI] at hret
  subst hret
  have HI : Hid _ := hI
  clear hI
  have hb3 : Below w2.heap.size w2 w3 := ((Below.refl _ w2).alloc (Nat.le_refl _) _).grown hg3 (by simp) (fun k hk => by cases hk; exact Nat.le_refl _)
  have hs3 : w2.heap.size < w3.heap.size := by have := hg3.size; simp at this; omega
  have hs1 := hb1.size
  have hs2 := hb2.size
  have he1 := ((ownsRow_elems hown1).below hb2).below hb3
  have he2 := (ownsRow_elems hown2).below hb3
  have hcw3 : ∀ j, j < W.length → w3.cell? ⟨w.heap.size, j, none⟩ = some (.int .u8 (W.getD j 0)) := fun j hj => by
    rw [hb3.cell (by show w.heap.size < _; omega), hb2.cell (by show w.heap.size < _; omega), hb1.cell (by exact hs0)]; exact hcw j hj
  have hbw3 : Below w.heap.size w w3 := ((hb0.trans (hb1.mono (by omega))).trans (hb2.mono (by omega))).trans (hb3.mono (by omega))
  have HB3 : Hid _ := hB3
  clear hB3 hg3 hb3 hb2 hb1 hb0 hcw hown1 hown2 hz1 hnum
  go_wp2_with (at_make; refine wpList_make_own _ rfl _ _ 22 rfl w3.heap.size 5 i0 (.int .u8 0) 1 Try.underlying22 hi hz0 hz1' _ _ _ (W.length + 1) rfl rfl (by omega) (by rw [hz2]; omega) (by unfold maxLen; omega) (Nat.le_refl _) ?_)
  intro w4 hown4 hgrow4
  have hb4 : Below w3.heap.size w3 w4 := (Below.refl _ _).grown hgrow4 (Nat.le_refl _) (fun k hk => by cases hk)
  clear hgrow4
  go_wp2_with fail
  go_loopw [30, 31] (fun v j wr => ∃ k : Nat, k ≤ W.length ∧ j = .int .i64 k ∧ v = .slice (some ⟨w3.heap.size, 0, none⟩) k (W.length + 1) ∧ wr.ownsRow w3.heap.size 5 1 (.slice (some ⟨w3.heap.size, 0, none⟩) k (W.length + 1)) k ((W.take k).map (Value.int .u8)) ∧ Below w3.heap.size w3 wr) (fun _ j _ => W.length - (intOf j).toNat)
  case atStart => exact ⟨0, Nat.zero_le _, rfl, rfl, hown4, hb4⟩
  case round =>
    clear hown4 hb4
    obtain ⟨k, hk, rfl, rfl, hr, hbr⟩ := hrel
    have hsr : w3.heap.size < wr.heap.size := (hr.lt w3.heap.size rfl).2
    by_cases hlk : k < W.length
    · have hcx : wr.cell? ⟨w.heap.size, k, none⟩ = some (.int .u8 (W.getD k 0)) := (hbr.cell (by show w.heap.size < _; omega)).trans (hcw3 k hlk)
      have hlk' : (k : Int) < (W.length : Int) := by omega
      obtain ⟨z, hzk⟩ : ∃ z, W.getD k 0 = z := ⟨_, rfl⟩
      rw [hzk] at hcx
      have R : W.take (k + 1) = W.take k ++ [z] := by
        rw [List.take_succ_eq_append_getElem hlk, ← hzk]
        simp [List.getD, hlk]
      have HR : Hid (W.take (k + 1) = W.take k ++ [z]) := R
      clear hzk R
      obtain ⟨X, hX⟩ : ∃ X, X = W.take k := ⟨_, rfl⟩
      rw [← hX] at hr
      have HX : Hid (X = W.take k) := hX
      clear hX
      go_wp2_with (at_builtin; refine wpList_append_fits _ rfl _ _ 22 rfl w3.heap.size 5 i0 1 Try.underlying22 hi hz1' w3.heap.size k (W.length + 1) _ rfl (hr.alloc _) ⟨wr.heap.size, 0, none⟩ 1 1 [.int .u8 z] rfl rfl (cell_one_new _ _ _) (by simp [Value.oneCell']) (by omega) ?_)
      intro w5 hown5 hgrow5
      have hB5 : Below w3.heap.size w3 w5 := (hbr.alloc hbr.size _).grown hgrow5 (by simp; omega) (fun k hk => by cases hk; exact Nat.le_refl _)
      have e : X.map (Value.int .u8) ++ [.int .u8 z] = (W.take (k + 1)).map (Value.int .u8) := by rw [HR.out, HX.out]; simp
      rw [e] at hown5
      clear e hgrow5 hr hbr HX HR
      go_wp2_with fail
      go_roundw
      case rel => exact ⟨k + 1, by omega, by go_num, rfl, hown5, hB5⟩
      case measure => simp [intOf]; omega
    · obtain rfl : k = W.length := by omega
      have hlk' : ¬ (W.length : Int) < (W.length : Int) := by omega
      rw [List.take_of_length_le (Nat.le_refl _)] at hr
      go_wp2_with (at_builtin; refine wpList_append_fits _ rfl _ _ 22 rfl w3.heap.size 5 i0 1 Try.underlying22 hi hz1' w3.heap.size W.length (W.length + 1) _ rfl (hr.alloc _) ⟨wr.heap.size, 0, none⟩ 1 1 [.int .u8 ch] rfl rfl (cell_one_new _ _ _) (by simp [Value.oneCell']) (by omega) ?_)
      intro w5 hown5 hgrow5
      have hb5 : Below w3.heap.size w3 w5 := (hbr.alloc hbr.size _).grown hgrow5 (by simp; omega) (fun k hk => by cases hk; exact Nat.le_refl _)
      have w50 : w5.cell? ⟨w2.heap.size, 0, none⟩ = some (.int .u8 S) := by rw [hb5.cell (by exact hs3), cell_of_row w3 _ 0 _ _ _ HB3.out]; rfl
      have w51 : w5.cell? ⟨w2.heap.size, 1, none⟩ = some (.int .i64 lim) := by rw [hb5.cell (by exact hs3), cell_of_row w3 _ 1 _ _ _ HB3.out]; rfl
      have w52 : w5.cell? ⟨w2.heap.size, 2, none⟩ = some (.int .i64 dep) := by rw [hb5.cell (by exact hs3), cell_of_row w3 _ 2 _ _ _ HB3.out]; rfl
      have w53 : w5.cell? ⟨w2.heap.size, 3, none⟩ = some (.int .u64 ob) := by rw [hb5.cell (by exact hs3), cell_of_row w3 _ 3 _ _ _ HB3.out]; rfl
      have w54 : w5.cell? ⟨w2.heap.size, 4, none⟩ = some (.slice a1 n c1) := by rw [hb5.cell (by exact hs3), cell_of_row w3 _ 4 _ _ _ HB3.out]; rfl
      have w55 : w5.cell? ⟨w2.heap.size, 5, none⟩ = some (.bool key) := by rw [hb5.cell (by exact hs3), cell_of_row w3 _ 5 _ _ _ HB3.out]; rfl
      have w56 : w5.cell? ⟨w2.heap.size, 6, none⟩ = some (.string left) := by rw [hb5.cell (by exact hs3), cell_of_row w3 _ 6 _ _ _ HB3.out]; rfl
      have w57 : w5.cell? ⟨w2.heap.size, 7, none⟩ = some (.int .i64 hex) := by rw [hb5.cell (by exact hs3), cell_of_row w3 _ 7 _ _ _ HB3.out]; rfl
      have w58 : w5.cell? ⟨w2.heap.size, 8, none⟩ = some (.int .i64 vals) := by rw [hb5.cell (by exact hs3), cell_of_row w3 _ 8 _ _ _ HB3.out]; rfl
      have w59 : w5.cell? ⟨w2.heap.size, 9, none⟩ = some (.int .i64 oab) := by rw [hb5.cell (by exact hs3), cell_of_row w3 _ 9 _ _ _ HB3.out]; rfl
      have hbw5 : Below w.heap.size w w5 := hbw3.trans (hb5.mono hbw3.size)
      have he15 := he1.below hb5
      have he25 := he2.below hb5
      have hct : ∀ j, j < (W ++ [ch]).length → w5.cell? ⟨w3.heap.size, j, none⟩ = some (.int .u8 ((W ++ [ch]).getD j 0)) := by
        intro j hj
        have hj' : j < W.length + 1 := by simpa using hj
        rw [hown5.cellAt j (by omega), show W.map (Value.int .u8) ++ [.int .u8 ch] = (W ++ [ch]).map (Value.int .u8) by simp]
        rw [List.getElem?_map, List.getElem?_eq_getElem hj]
        simp only [List.getD, List.getElem?_eq_getElem hj]
        rfl
      have hcw5 : ∀ j, j < W.length → w5.cell? ⟨w.heap.size, j, none⟩ = some (.int .u8 (W.getD j 0)) := fun j hj => by
        rw [hb5.cell (by show w.heap.size < _; omega)]; exact hcw3 j hj
      have hp1 := hide (hpre w3.heap.size (W.length + 1) w5 hct)
      have hp2 := hide (hprw w.heap.size W.length w5 hcw5)
      have HCT : Hid _ := hct
      have eL : (W ++ [ch]).length = W.length + 1 := by simp
      rw [eL] at hp1
      have HL : Hid _ := eL
      clear hct hcw5 hcw3 hown5 hgrow5 hr hbr hb5 he1 he2 hpre hprw eL
      go_wp2_with fail
      refine (unhide hp1).mono ?_
      rintro e w6 ⟨rfl, rfl⟩
      go_wp2_with fail
      refine (unhide hp2).mono ?_
      rintro e w6 ⟨rfl, rfl⟩
      clear hp1 hp2
      cases b1
      · cases b2
        · obtain ⟨rfl, rfl⟩ := HF2.out rfl rfl
          have hI : I = i := HI.out
          subst hI
          clear HF1 HF2 HT HI
          go_wp2_with (first | (go_at_call 12; go_in) | (go_at_call 25; go_in) | (go_at_call 26; go_in) | (go_at_call 27; go_in) | (go_at_call 13; go_in) | (go_at_call 14; go_in) | (go_at_call 15; go_in) | (go_at_call 17; go_in) | (go_at_call 18; go_in) | (go_at_call 19; go_in))
          refine (equal_same _ _ _ _ _ _ _ (by omega) he15 he25).mono ?_
          rintro e w6 ⟨rfl, q, rfl⟩
          go_wp2_with (first | (go_at_call 12; go_in) | (go_at_call 25; go_in) | (go_at_call 26; go_in) | (go_at_call 27; go_in) | (go_at_call 13; go_in) | (go_at_call 14; go_in) | (go_at_call 15; go_in) | (go_at_call 17; go_in) | (go_at_call 18; go_in) | (go_at_call 19; go_in))
          go_ret
          exact ⟨rfl, below_drewN hbw5 _⟩
        · obtain ⟨rfl, rfl⟩ := HF1.out rfl rfl
          have hI : I = wrap64 (i - 1) := HI.out
          subst hI
          clear HF1 HF2 HT HI
          go_wp2_with (first | (go_at_call 12; go_in) | (go_at_call 25; go_in) | (go_at_call 26; go_in) | (go_at_call 27; go_in) | (go_at_call 13; go_in) | (go_at_call 14; go_in) | (go_at_call 15; go_in) | (go_at_call 17; go_in) | (go_at_call 18; go_in) | (go_at_call 19; go_in))
          refine (equal_same _ _ _ _ _ _ _ (by omega) he15 he25).mono ?_
          rintro e w6 ⟨rfl, q, rfl⟩
          go_wp2_with (first | (go_at_call 12; go_in) | (go_at_call 25; go_in) | (go_at_call 26; go_in) | (go_at_call 27; go_in) | (go_at_call 13; go_in) | (go_at_call 14; go_in) | (go_at_call 15; go_in) | (go_at_call 17; go_in) | (go_at_call 18; go_in) | (go_at_call 19; go_in))
          go_ret
          exact ⟨rfl, below_drewN hbw5 _⟩
      · obtain ⟨hcl, rfl⟩ := HT.out rfl
        have hI : I = i := HI.out
        subst hI
        have hp3 := hide (hcl w3.heap.size (W.length + 1) _ HCT.out)
        rw [HL.out] at hp3
        clear HF1 HF2 HT HI hcl
        go_wp2_with fail
        refine (unhide hp3).mono ?_
        rintro e w6 ⟨rfl, rfl⟩
        clear hp3
        go_wp2_with (first | (go_at_call 12; go_in) | (go_at_call 25; go_in) | (go_at_call 26; go_in) | (go_at_call 27; go_in) | (go_at_call 13; go_in) | (go_at_call 14; go_in) | (go_at_call 15; go_in) | (go_at_call 17; go_in) | (go_at_call 18; go_in) | (go_at_call 19; go_in))
        refine (equal_same _ _ _ _ _ _ _ (by omega) he15 he25).mono ?_
        rintro e w6 ⟨rfl, q, rfl⟩
        go_wp2_with (first | (go_at_call 12; go_in) | (go_at_call 25; go_in) | (go_at_call 26; go_in) | (go_at_call 27; go_in) | (go_at_call 13; go_in) | (go_at_call 14; go_in) | (go_at_call 15; go_in) | (go_at_call 17; go_in) | (go_at_call 18; go_in) | (go_at_call 19; go_in))
        go_ret
        exact ⟨rfl, below_drewN hbw5 _⟩
end Go.Proofs.Qxb6602542a
