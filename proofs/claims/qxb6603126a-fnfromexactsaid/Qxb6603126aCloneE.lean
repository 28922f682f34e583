import Derived.Test.Qxb6603126aCloneD
namespace Go.Proofs.Qxb6603126a
open Go.RowKit

set_option maxRecDepth 100000 in
set_option maxHeartbeats 1000000 in
theorem cloneD_pos (bd od m dc : Nat) (A : Nat → Option Addr) (L C : Nat → Nat) (Z : Nat → List Int) (w : World) (hm0 : 0 < m) (hm : m ≤ 131072) (hL : sumTo L m ≤ 1048576)
    (hd : DatasAt w (some ⟨bd, od, none⟩) m A L C Z) :
    Calls Try.prog 11 #[.slice (some ⟨bd, od, none⟩) m dc] w fun e w' => e = .returned (.slice (some ⟨w.heap.size, 0, none⟩) m m) ∧ (∃ ys, w'.ownsRow w.heap.size 32 1 (.slice (some ⟨w.heap.size, 0, none⟩) m m) m ys ∧ Sofar w' w.heap.size m m A L Z ys) ∧ Below w.heap.size w w' := by
  obtain ⟨i0, hi, hz0, hz1, hz2⟩ := info_parts Try.info32
  obtain ⟨j0, hj, hy0, hy1, hy2⟩ := info_parts Try.info5
  have q24 := nil24
  have q32 := nilN32
  obtain ⟨b', off', he, hc⟩ := hd.row hm0
  simp only [Option.some.injEq, Addr.mk.injEq, and_true] at he
  obtain ⟨rfl, rfl⟩ := he
  have hb : bd < w.heap.size := World.block_lt_of_cell? w _ (hc 0 hm0)
  have HD := hide hd
  have HCC := hide hc
  clear hd hc
  go_enter Try.func11, Try.ntmps11
  go_wp2_with (at_make; refine wpList_make_full _ rfl _ _ 24 rfl w.heap.size 32 i0 (.slice none 0 0) 1 Try.underlying24 hi hz0 hz1 _ _ _ _ m rfl rfl rfl rfl (by rw [hz2]; omega) (by unfold maxLen; omega) (Nat.le_refl _) ?_)
  intro w1 hown hgrow
  have hB1 : Below w.heap.size w w1 := (Below.refl _ _).grown hgrow (Nat.le_refl _) (fun k hk => by cases hk)
  have hm0' : (madeCells #[Value.slice none 0 0] m).toList = List.replicate m (.slice none 0 0) := toList_madeCells_one _ _
  rw [hm0'] at hown
  clear hm0' hgrow
  go_wp2_with fail
  go_loopw [4, 5, 6] (fun vi _ _ wr => ∃ k : Nat, ∃ ys, k ≤ m ∧ vi = .int .i64 k ∧ wr.ownsRow w.heap.size 32 1 (.slice (some ⟨w.heap.size, 0, none⟩) m m) m ys ∧ Sofar wr w.heap.size m k A L Z ys ∧ Below w.heap.size w wr) (fun vi _ _ _ => m - (intOf vi).toNat)
  case atStart => exact ⟨0, _, Nat.zero_le _, rfl, hown, ⟨fun r hr => by omega, fun r _ hr => by simp [hr]⟩, hB1⟩
  case round =>
    obtain ⟨k, ys, hk, rfl, hr, hsf, hbr⟩ := hrel
    clear hown hB1
    obtain ⟨wo, hwo⟩ : ∃ wo, wo = wr := ⟨_, rfl⟩
    subst hwo
    have hsr : w.heap.size < wo.heap.size := (hr.lt w.heap.size rfl).2
    by_cases hlt : k < m
    · have hlt' : (k : Int) < (m : Int) := by omega
      have hcx : wo.cell? ⟨bd, od + k, none⟩ = some (.slice (A k) (L k) (C k)) := (hbr.cell (by exact hb)).trans (HCC.out k hlt)
      have hLk : L k ≤ 1048576 := Nat.le_trans (le_sumTo L k m hlt) hL
      have hel := HD.out.bytes k hlt
      have hni := HD.out.isnil k hlt
      cases hA : A k with
      | none =>
        have hn := hni hA
        rw [hA] at hcx
        have hnext := hsf.skip hlt hA hn.1 hel.1
        have HN := hide hnext
        clear hnext hsf hel hni hA hn
        go_wp2_with fail
        go_roundw
        case rel => exact ⟨k + 1, ys, by omega, by go_num, hr, HN.out, hbr⟩
        case measure => simp [intOf]; omega
      | some x =>
        rw [hA] at hcx hel
        have HA := hide hA
        have HSF := hide hsf
        clear hni hA hsf
        by_cases hL0 : 0 < L k
        · obtain ⟨ba, oa, hx, hcb⟩ := hel.2 hL0
          simp only [Option.some.injEq] at hx
          subst hx
          have hba : ba < w.heap.size := World.block_lt_of_cell? w _ (hcb 0 hL0)
          obtain ⟨l, hl⟩ : ∃ l, l = L k := ⟨_, rfl⟩
          obtain ⟨zs, hzs⟩ : ∃ zs, zs = Z k := ⟨_, rfl⟩
          rw [← hl] at hcx hLk hL0 hcb hel
          rw [← hzs] at hcb hel
          have HLK := hide hl
          have HZK := hide hzs
          have hzl := hel.1
          have HCB := hide hcb
          clear hl hzs hel hcb
          go_wp2_with (at_make; refine wpList_make_full _ rfl _ _ 32 rfl wo.heap.size 5 j0 (.int .u8 0) 1 Try.underlying32 hj hy0 hy1 _ _ _ _ l rfl rfl rfl rfl (by rw [hy2]; omega) (by unfold maxLen; omega) (Nat.le_refl _) ?_)
          intro w2 hown2 hgrow2
          have hB2 : Below wo.heap.size wo w2 := (Below.refl _ _).grown hgrow2 (Nat.le_refl _) (fun k hk => by cases hk)
          have hm0' : (madeCells #[Value.int .u8 0] l).toList = mixed 0 l zs := by rw [toList_madeCells_one]; simp [mixed]
          rw [hm0'] at hown2
          clear hm0' hgrow2
          go_wp2_with fail
          go_loopw [6] (fun vj wi => ∃ j : Nat, j ≤ l ∧ vj = .int .i64 j ∧ wi.ownsRow wo.heap.size 5 1 (.slice (some ⟨wo.heap.size, 0, none⟩) l l) l (mixed j l zs) ∧ Below wo.heap.size wo wi) (fun vj _ => l - (intOf vj).toNat)
          case atStart => exact ⟨0, Nat.zero_le _, rfl, hown2, hB2⟩
          case round =>
            obtain ⟨j, hjl, rfl, hri, hbi⟩ := hrel
            clear hown2 hB2
            have hsi : wo.heap.size < wr.heap.size := (hri.lt wo.heap.size rfl).2
            have hcx' : wr.cell? ⟨bd, od + k, none⟩ = some (.slice (some ⟨ba, oa, none⟩) l (C k)) := (hbi.cell (by show bd < _; omega)).trans hcx
            by_cases hjlt : j < l
            · have hcz : wr.cell? ⟨ba, oa + j, none⟩ = some (.int .u8 (zs.getD j 0)) := (hbi.cell (by show ba < _; omega)).trans ((hbr.cell (by exact hba)).trans (HCB.out j hjlt))
              have hjlt' : (j : Int) < (l : Int) := by omega
              have hcy : wr.cell? ⟨wo.heap.size, j, none⟩ = (mixed j l zs)[j]? := hri.cellAt j (by omega)
              have hfy : wr.frozen? ⟨wo.heap.size, j, none⟩ = false := hri.frozenAt j
              obtain ⟨u, hu⟩ : ∃ u, (mixed j l zs)[j]? = some u := by
                have : j < (mixed j l zs).length := by simp [mixed]; omega
                exact ⟨_, List.getElem?_eq_getElem this⟩
              rw [hu] at hcy
              have hst := (hri.stored j (.int .u8 (zs.getD j 0))).1
              rw [mixed_set j l zs hjlt hzl] at hst
              have hbs : Below wo.heap.size wo (wr.setCell ⟨wo.heap.size, j, none⟩ (.int .u8 (zs.getD j 0))) := hbi.setCell (Nat.le_refl _) _
              obtain ⟨z, hzk⟩ : ∃ z, zs.getD j 0 = z := ⟨_, rfl⟩
              rw [hzk] at hcz hst hbs
              clear hri hu hzk
              go_wp2_with fail
              go_roundw
              case rel => exact ⟨j + 1, by omega, by go_num, hst, hbs⟩
              case measure => simp [intOf]; omega
            · obtain rfl : j = l := by omega
              rw [mixed_full j zs hzl] at hri
              have hrO := ownsRow_same hr (fun g hg => hbi.block g (hr.lt g hg).2)
              have hylen : ys.length = m := by have := hrO.1; simpa using this
              have hcO : wr.cell? ⟨w.heap.size, k, none⟩ = some ys[k] := by rw [hrO.cellAt k (by omega)]; exact List.getElem?_eq_getElem _
              have hfO := hrO.frozenAt k
              generalize ys[k] = yk at hcO
              have hstO := hrO.stored k (.slice (some ⟨wo.heap.size, 0, none⟩) j j)
              have hs1 : Sofar wr w.heap.size m k A L Z ys := HSF.out.keep hbi.size (fun g hg _ => hbi.block g hg)
              have hgood : Good wr w.heap.size (A k) (L k) (Z k) (some ⟨wo.heap.size, 0, none⟩) j := by
                rw [← HLK.out, ← HZK.out]
                exact ⟨ownsRow_elems hri, fun h => (by simp at h), by simp [HA.out], fun y hy => (by cases hy; exact ⟨hsr, hsi⟩)⟩
              have hs2 := hs1.put (by omega) _ _ hgood
              rw [← HLK.out] at hs2
              have hs3 : Sofar (wr.setCell ⟨w.heap.size, k, none⟩ (.slice (some ⟨wo.heap.size, 0, none⟩) j j)) w.heap.size m (k + 1) A L Z (ys.set k (.slice (some ⟨wo.heap.size, 0, none⟩) j j)) :=
                hs2.keep hstO.2.size (fun g hg hne => hstO.2.block g hg (fun e => hne (by simpa using e)))
              have hbO : Below w.heap.size w (wr.setCell ⟨w.heap.size, k, none⟩ (.slice (some ⟨wo.heap.size, 0, none⟩) j j)) := (hbr.trans (hbi.mono (by omega))).setCell (Nat.le_refl _) _
              have HSO := hide hstO.1
              have HS3 := hide hs3
              have HBO := hide hbO
              clear hstO hs1 hgood hs2 hs3 hbO hri hrO
              go_wp2_with fail
              go_roundw
              case rel => exact ⟨k + 1, _, by omega, by go_num, HSO.out, HS3.out, HBO.out⟩
              case measure => simp [intOf]; omega
        · have hl0 : L k = 0 := by omega
          rw [hl0] at hcx
          have HL0 := hide hl0
          have hzl := hel.1
          clear hl0 hel
          go_wp2_with (at_make; refine wpList_make_full _ rfl _ _ 32 rfl wo.heap.size 5 j0 (.int .u8 0) 1 Try.underlying32 hj hy0 hy1 _ _ _ _ 0 rfl rfl rfl rfl (by omega) (by unfold maxLen; omega) (Nat.le_refl _) ?_)
          intro w2 hown2 hgrow2
          have hbi : Below wo.heap.size wo w2 := (Below.refl _ _).grown hgrow2 (Nat.le_refl _) (fun k hk => by cases hk)
          have hsi : wo.heap.size < w2.heap.size := (hown2.lt wo.heap.size rfl).2
          have hcx' : w2.cell? ⟨bd, od + k, none⟩ = some (.slice (some x) 0 (C k)) := (hbi.cell (by show bd < _; omega)).trans hcx
          have hrO := ownsRow_same hr (fun g hg => hbi.block g (hr.lt g hg).2)
          have hylen : ys.length = m := by have := hrO.1; simpa using this
          have hcO : w2.cell? ⟨w.heap.size, k, none⟩ = some ys[k] := by rw [hrO.cellAt k (by omega)]; exact List.getElem?_eq_getElem _
          have hfO := hrO.frozenAt k
          generalize ys[k] = yk at hcO
          have hstO := hrO.stored k (.slice (some ⟨wo.heap.size, 0, none⟩) 0 0)
          have hs1 : Sofar w2 w.heap.size m k A L Z ys := HSF.out.keep hbi.size (fun g hg _ => hbi.block g hg)
          have hgood : Good w2 w.heap.size (A k) (L k) (Z k) (some ⟨wo.heap.size, 0, none⟩) 0 :=
            ⟨⟨hzl, fun h => absurd h hL0⟩, fun h => (by simp at h), by simp [HA.out], fun y hy => (by cases hy; exact ⟨hsr, hsi⟩)⟩
          have hs2 := hs1.put (by omega) _ _ hgood
          rw [HL0.out] at hs2
          have hs3 : Sofar (w2.setCell ⟨w.heap.size, k, none⟩ (.slice (some ⟨wo.heap.size, 0, none⟩) 0 0)) w.heap.size m (k + 1) A L Z (ys.set k (.slice (some ⟨wo.heap.size, 0, none⟩) 0 0)) :=
            hs2.keep hstO.2.size (fun g hg hne => hstO.2.block g hg (fun e => hne (by simpa using e)))
          have hbO : Below w.heap.size w (w2.setCell ⟨w.heap.size, k, none⟩ (.slice (some ⟨wo.heap.size, 0, none⟩) 0 0)) := (hbr.trans (hbi.mono (by omega))).setCell (Nat.le_refl _) _
          have HSO := hide hstO.1
          have HS3 := hide hs3
          have HBO := hide hbO
          clear hstO hs1 hgood hs2 hs3 hbO hown2 hgrow2 hrO
          go_wp2_with fail
          refine wp_loop_rounds 1 ?_
          rw [rounds_succ]
          go_wp2_with fail
          go_roundw
          case rel => exact ⟨k + 1, _, by omega, by go_num, HSO.out, HS3.out, HBO.out⟩
          case measure => simp [intOf]; omega
    · obtain rfl : k = m := by omega
      have HSF := hide hsf
      clear hsf
      go_wp2_with fail
      go_ret
      exact ⟨rfl, ⟨ys, hr, HSF.out⟩, hbr⟩

/-- The slice at a' holds the same byte slices; nil just where the old ones were. -/
def CopyOf (w : World) (a' : Option Addr) (m : Nat) (A : Nat → Option Addr) (L : Nat → Nat) (Z : Nat → List Int) : Prop :=
  ∃ A' C', DatasAt w a' m A' L C' Z ∧ ∀ r, r < m → (A' r = none ↔ A r = none)

set_option maxRecDepth 100000 in
set_option maxHeartbeats 400000 in
theorem cloneD_nil (w : World) :
    Calls Try.prog 11 #[.slice none 0 0] w fun e w' => e = .returned (.slice none 0 0) ∧ w' = w := by
  have q24 := nil24
  go_enter Try.func11, Try.ntmps11
  go_wp2_with fail
  go_ret
  exact ⟨rfl, rfl⟩

set_option maxRecDepth 100000 in
set_option maxHeartbeats 400000 in
theorem cloneD_zero (x : Addr) (dc : Nat) (w : World) :
    Calls Try.prog 11 #[.slice (some x) 0 dc] w fun e w' => e = .returned (.slice (some ⟨w.heap.size, 0, none⟩) 0 0) ∧ Below w.heap.size w w' := by
  obtain ⟨i0, hi, hz0, hz1, hz2⟩ := info_parts Try.info32
  have q24 := nil24
  go_enter Try.func11, Try.ntmps11
  go_wp2_with (at_make; refine wpList_make_full _ rfl _ _ 24 rfl w.heap.size 32 i0 (.slice none 0 0) 1 Try.underlying24 hi hz0 hz1 _ _ _ _ 0 rfl rfl rfl rfl (by omega) (by unfold maxLen; omega) (Nat.le_refl _) ?_)
  intro w1 hown hgrow
  have hB1 : Below w.heap.size w w1 := (Below.refl _ _).grown hgrow (Nat.le_refl _) (fun k hk => by cases hk)
  clear hown hgrow
  go_wp2_with fail
  refine wp_loop_rounds 1 ?_
  rw [rounds_succ]
  go_wp2_with fail
  go_ret
  exact ⟨rfl, hB1⟩

/-- 'zzCloneDatas': a copy in memory of its own. -/
theorem cloneD_any (da : Option Addr) (m dc : Nat) (A : Nat → Option Addr) (L C : Nat → Nat) (Z : Nat → List Int) (w : World) (hs : m ≤ 131072) (hL : sumTo L m ≤ 1048576) (hd : DatasAt w da m A L C Z) (hdn : da = none → m = 0 ∧ dc = 0) :
    Calls Try.prog 11 #[.slice da m dc] w fun e w' => ∃ a' c', e = .returned (.slice a' m c') ∧ CopyOf w' a' m A L Z ∧ Below w.heap.size w w' := by
  by_cases hm : 0 < m
  · obtain ⟨b, off, rfl, -⟩ := hd.row hm
    refine (cloneD_pos b off m dc A L C Z w hm hs hL hd).mono ?_
    rintro e w' ⟨rfl, ⟨ys, hr, hsf⟩, hb⟩
    refine ⟨_, _, rfl, ?_, hb⟩
    obtain ⟨p, hp⟩ := Go.Deep.choose_lt hsf.done
    refine ⟨fun r => (p r).1, fun r => (p r).2, ⟨fun _ => ⟨w.heap.size, 0, rfl, fun r hr' => ?_⟩, fun r hr' => (hp r hr').2.el, fun r hr' => (hp r hr').2.isnil, hd.len⟩, fun r hr' => (hp r hr').2.same⟩
    rw [Nat.zero_add, hr.cellAt r (by omega)]
    exact (hp r hr').1
  · obtain rfl : m = 0 := by omega
    have hcopy : ∀ w' a', CopyOf w' a' 0 A L Z := fun w' a' => ⟨A, C, ⟨fun h => absurd h (by omega), fun r hr => by omega, fun r hr => by omega, fun r hr => by omega⟩, fun r hr => by omega⟩
    cases da with
    | none =>
      obtain ⟨-, rfl⟩ := hdn rfl
      refine (cloneD_nil w).mono ?_
      rintro e w' ⟨rfl, rfl⟩
      exact ⟨none, 0, rfl, hcopy _ _, Below.refl _ _⟩
    | some x =>
      refine (cloneD_zero x dc w).mono ?_
      rintro e w' ⟨rfl, hb⟩
      exact ⟨_, _, rfl, hcopy _ _, hb⟩
end Go.Proofs.Qxb6603126a
