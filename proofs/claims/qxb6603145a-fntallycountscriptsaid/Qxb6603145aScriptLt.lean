import Derived.Test.Qxb6603145aScriptA
namespace Go.Proofs.Qxb6603145a
open Go.RowKit

set_option maxRecDepth 100000 in
set_option maxHeartbeats 4000000 in
theorem script_lt (c0 f0 s0 : Int) (a3 : Option Addr) (n3 c3 : Nat) (a4 : Option Addr) (n4 c4 : Nat) (ms ds : List Int) (w : World) (hc : wrap64 c0 = c0) (hf : wrap64 f0 = f0) (hs : wrap64 s0 = s0) (hn3 : n3 ≤ 524288) (hn4 : n4 ≤ 65536)
    (hz3 : Elems .u8 w a3 n3 ms) (ha3 : a3 = none → n3 = 0 ∧ c3 = 0) (hz4 : Elems .i64 w a4 n4 ds) (ha4 : a4 = none → n4 = 0 ∧ c4 = 0) (hms : ∀ i, i < n3 → 0 ≤ ms.getD i 0 ∧ ms.getD i 0 ≤ 255) (hord : n4 < n3) :
    Calls Try.prog 4 #[.int .i64 c0, .int .i64 f0, .int .i64 s0, .slice a3 n3 c3, .slice a4 n4 c4] w fun e w' => e = .returned (.bool true) ∧ Below w.heap.size w w' := by
  have HWC := hide hc
  have HWF := hide hf
  have HWS := hide hs
  have HMS := hide hms
  have HZ3 := hide hz3
  have HZ4 := hide hz4
  have HA3 := hide ha3
  have HA4 := hide ha4
  clear hc hf hs hms hz3 hz4 ha3 ha4
  have k1 : decide ((524288 : Int) < n3) = false := by simp; omega
  have k2 : decide ((65536 : Int) < n4) = false := by simp; omega
  go_enter Try.func4, Try.ntmps4
  go_wp2_with (go_at_call 6; go_in)
  refine (bClone_any a3 n3 c3 ms _ (by omega) HZ3.out HA3.out).mono ?_
  rintro e w1 ⟨a3', c3', rfl, hown1, hb1⟩
  go_wp2_with fail
  refine (iClone_any a4 n4 c4 ds _ (by omega) (HZ4.out.below hb1) HA4.out).mono ?_
  rintro e w2 ⟨a4', c4', rfl, hown2, hb2⟩
  have HE3 := hide ((ownsRow_elems hown1).below hb2)
  have HE4 := hide (ownsRow_elems hown2)
  have hB2 : Below w.heap.size w w2 := hb1.trans (hb2.mono hb1.size)
  clear hown1 hown2 hb1 hb2
  go_upto_region 11 with fail
  go_cut [13] from 55 to 70 (fun v wc => ∃ b : Bool, v = .bool b ∧ Hid (b = true → Sound c0 f0 s0) ∧ wc = w2)
  case first =>
    rcases start_tests c0 f0 s0 with h1 | ⟨h1, h2⟩ | ⟨h1, h2, h3⟩ | ⟨h1, h2, h3, h4⟩ | ⟨h1, h2, h3, h4⟩
    all_goals
      go_wp2_with fail
      go_meet
      case rel =>
        first
          | exact ⟨true, rfl, hide (fun _ => ⟨by simpa using h1, by simpa using h2, by simpa using h3, by simpa using h4⟩), rfl⟩
          | exact ⟨false, rfl, hide (fun h => by cases h), rfl⟩
  case rest =>
    obtain ⟨bs, rfl, HBS, hwc⟩ := hcut
    have hwc2 := hwc.symm
    subst hwc2
    go_wp2_with fail
    go_loopw [13, 14, 15, 16, 17, 18] (fun vb vc vf vs vi _ wr => ∃ k : Nat, ∃ b : Bool, ∃ c f s : Int, k ≤ n4 ∧ vi = .int .i64 k ∧ vb = .bool b ∧ vc = .int .i64 c ∧ vf = .int .i64 f ∧ vs = .int .i64 s ∧ Below w2.heap.size w2 wr ∧ Hid (c = wrap64 (c0 + sumI (part all ms ds) k)) ∧ Hid (f = wrap64 (f0 + sumI (part (fun m => flag m 1) ms ds) k)) ∧ Hid (s = wrap64 (s0 + sumI (part (fun m => flag m 2) ms ds) k)) ∧ Hid (b = true → Sound c f s)) (fun _ _ _ _ vi _ _ => n4 - (intOf vi).toNat)
    case atStart => exact ⟨0, bs, c0, f0, s0, Nat.zero_le _, rfl, rfl, rfl, rfl, rfl, Below.refl _ _, hide (by simp only [sumI, Int.add_zero]; exact HWC.out.symm), hide (by simp only [sumI, Int.add_zero]; exact HWF.out.symm), hide (by simp only [sumI, Int.add_zero]; exact HWS.out.symm), HBS⟩
    case round =>
      obtain ⟨k, b, c, f, s, hk, rfl, rfl, rfl, rfl, rfl, hbr, hcv, hfv, hsv, hbs⟩ := hrel
      by_cases hkn : k < n4
      · obtain ⟨b3, o3, rfl, hc3⟩ := HE3.out.2 (by omega)
        obtain ⟨b4, o4, rfl, hc4⟩ := HE4.out.2 (by omega)
        have hkn' : (k : Int) < (n4 : Int) := by omega
        have hk3 : (k : Int) < (n3 : Int) := by omega
        have hk4 : (k : Int) < (n4 : Int) := by omega
        obtain ⟨z, hz⟩ : ∃ z, z = ms.getD k 0 := ⟨_, rfl⟩
        obtain ⟨d, hd⟩ : ∃ d, d = ds.getD k 0 := ⟨_, rfl⟩
        have cz : wr.cell? ⟨b3, o3 + k, none⟩ = some (.int .u8 z) := by rw [hbr.cell (by exact World.block_lt_of_cell? w2 _ (hc3 k (by omega))), hc3 k (by omega), hz]
        have cd : wr.cell? ⟨b4, o4 + k, none⟩ = some (.int .i64 d) := by rw [hbr.cell (by exact World.block_lt_of_cell? w2 _ (hc4 k (by omega))), hc4 k (by omega), hd]
        have HZK := hide hz
        have HDK := hide hd
        clear hz hd hc3 hc4
        cases b
        · go_wp2_with fail
          refine (tally_any c f s z d _).mono ?_
          rintro e w3 ⟨he3, hb3⟩
          obtain ⟨nc, hnc⟩ : ∃ nc, nc = wrap64 (c + d) := ⟨_, rfl⟩
          obtain ⟨nf, hnf⟩ : ∃ nf, nf = addIf (flag z 1) f d := ⟨_, rfl⟩
          obtain ⟨ns, hns⟩ : ∃ ns, ns = addIf (flag z 2) s d := ⟨_, rfl⟩
          rw [← hnc, ← hnf, ← hns] at he3
          subst he3
          have hbb : Below w2.heap.size w2 w3 := hbr.trans (hb3.mono hbr.size)
          have HN1 : Hid (nc = wrap64 (c0 + sumI (part all ms ds) (k + 1))) := hide (by rw [hnc, hcv.out, wrap_add, sumI_succ, HDK.out]; simp only [part, all, if_true]; rw [Int.add_assoc])
          have HN2 : Hid (nf = wrap64 (f0 + sumI (part (fun m => flag m 1) ms ds) (k + 1))) := hide (by rw [hnf, addIf_wrap _ _ _ _ hfv.out, sumI_succ, HDK.out, HZK.out]; simp only [part]; rw [Int.add_assoc])
          have HN3 : Hid (ns = wrap64 (s0 + sumI (part (fun m => flag m 2) ms ds) (k + 1))) := hide (by rw [hns, addIf_wrap _ _ _ _ hsv.out, sumI_succ, HDK.out, HZK.out]; simp only [part]; rw [Int.add_assoc])
          clear hnc hnf hns hb3
          go_wp2_with fail
          go_roundw
          case rel => exact ⟨k + 1, false, nc, nf, ns, by omega, by go_num, rfl, rfl, rfl, rfl, hbb, HN1, HN2, HN3, hide (fun h => by cases h)⟩
          case measure => simp [intOf]; omega
        · have hsd := hbs.out (by trivial)
          have hcb : c ≤ 9223372036854775807 := by have := (wrap64_bounds (c0 + sumI (part all ms ds) k)).2; rw [← hcv.out] at this; exact this
          have hc0 : 0 ≤ c := by have := hsd.1; have := hsd.2.1; omega
          have HSD := hide hsd
          clear hsd hbs
          by_cases hd0 : 0 ≤ d
          · by_cases hd1 : 9223372036854775807 - c < d
            · have u1 : decide (d < 0) = false := by simp; omega
              have u2 : decide (9223372036854775807 - c < d) = true := by simp; omega
              go_wp2_with fail
              refine (tally_any c f s z d _).mono ?_
              rintro e w3 ⟨he3, hb3⟩
              obtain ⟨nc, hnc⟩ : ∃ nc, nc = wrap64 (c + d) := ⟨_, rfl⟩
              obtain ⟨nf, hnf⟩ : ∃ nf, nf = addIf (flag z 1) f d := ⟨_, rfl⟩
              obtain ⟨ns, hns⟩ : ∃ ns, ns = addIf (flag z 2) s d := ⟨_, rfl⟩
              rw [← hnc, ← hnf, ← hns] at he3
              subst he3
              have hbb : Below w2.heap.size w2 w3 := hbr.trans (hb3.mono hbr.size)
              have HN1 : Hid (nc = wrap64 (c0 + sumI (part all ms ds) (k + 1))) := hide (by rw [hnc, hcv.out, wrap_add, sumI_succ, HDK.out]; simp only [part, all, if_true]; rw [Int.add_assoc])
              have HN2 : Hid (nf = wrap64 (f0 + sumI (part (fun m => flag m 1) ms ds) (k + 1))) := hide (by rw [hnf, addIf_wrap _ _ _ _ hfv.out, sumI_succ, HDK.out, HZK.out]; simp only [part]; rw [Int.add_assoc])
              have HN3 : Hid (ns = wrap64 (s0 + sumI (part (fun m => flag m 2) ms ds) (k + 1))) := hide (by rw [hns, addIf_wrap _ _ _ _ hsv.out, sumI_succ, HDK.out, HZK.out]; simp only [part]; rw [Int.add_assoc])
              clear hnc hnf hns hb3
              go_wp2_with fail
              go_roundw
              case rel => exact ⟨k + 1, false, nc, nf, ns, by omega, by go_num, rfl, rfl, rfl, rfl, hbb, HN1, HN2, HN3, hide (fun h => by cases h)⟩
              case measure => simp [intOf]; omega
            · have u1 : decide (d < 0) = false := by simp; omega
              have u2 : decide (9223372036854775807 - c < d) = false := by simp; omega
              go_wp2_with fail
              refine (tally_any c f s z d _).mono ?_
              rintro e w3 ⟨he3, hb3⟩
              obtain ⟨nc, hnc⟩ : ∃ nc, nc = wrap64 (c + d) := ⟨_, rfl⟩
              obtain ⟨nf, hnf⟩ : ∃ nf, nf = addIf (flag z 1) f d := ⟨_, rfl⟩
              obtain ⟨ns, hns⟩ : ∃ ns, ns = addIf (flag z 2) s d := ⟨_, rfl⟩
              rw [← hnc, ← hnf, ← hns] at he3
              subst he3
              have hbb : Below w2.heap.size w2 w3 := hbr.trans (hb3.mono hbr.size)
              have HN1 : Hid (nc = wrap64 (c0 + sumI (part all ms ds) (k + 1))) := hide (by rw [hnc, hcv.out, wrap_add, sumI_succ, HDK.out]; simp only [part, all, if_true]; rw [Int.add_assoc])
              have HN2 : Hid (nf = wrap64 (f0 + sumI (part (fun m => flag m 1) ms ds) (k + 1))) := hide (by rw [hnf, addIf_wrap _ _ _ _ hfv.out, sumI_succ, HDK.out, HZK.out]; simp only [part]; rw [Int.add_assoc])
              have HN3 : Hid (ns = wrap64 (s0 + sumI (part (fun m => flag m 2) ms ds) (k + 1))) := hide (by rw [hns, addIf_wrap _ _ _ _ hsv.out, sumI_succ, HDK.out, HZK.out]; simp only [part]; rw [Int.add_assoc])
              have hso : Sound nc nf ns := by rw [hnc, hnf, hns]; exact sound_step c f s d _ _ HSD.out hd0 (by omega)
              have HSO := hide hso
              have t1 : decide (nf < 0) = false := by have := hso.1; simp; omega
              have t2 : decide (nc < nf) = false := by have := hso.2.1; simp; omega
              have t3 : decide (ns < 0) = false := by have := hso.2.2.1; simp; omega
              have t4 : decide (nc < ns) = false := by have := hso.2.2.2; simp; omega
              clear hso
              clear hnc hnf hns hb3
              go_wp2_with fail
              go_roundw
              case rel => exact ⟨k + 1, true, nc, nf, ns, by omega, by go_num, rfl, rfl, rfl, rfl, hbb, HN1, HN2, HN3, hide (fun _ => HSO.out)⟩
              case measure => simp [intOf]; omega
          · have u1 : decide (d < 0) = true := by simp; omega
            go_wp2_with fail
            refine (tally_any c f s z d _).mono ?_
            rintro e w3 ⟨he3, hb3⟩
            obtain ⟨nc, hnc⟩ : ∃ nc, nc = wrap64 (c + d) := ⟨_, rfl⟩
            obtain ⟨nf, hnf⟩ : ∃ nf, nf = addIf (flag z 1) f d := ⟨_, rfl⟩
            obtain ⟨ns, hns⟩ : ∃ ns, ns = addIf (flag z 2) s d := ⟨_, rfl⟩
            rw [← hnc, ← hnf, ← hns] at he3
            subst he3
            have hbb : Below w2.heap.size w2 w3 := hbr.trans (hb3.mono hbr.size)
            have HN1 : Hid (nc = wrap64 (c0 + sumI (part all ms ds) (k + 1))) := hide (by rw [hnc, hcv.out, wrap_add, sumI_succ, HDK.out]; simp only [part, all, if_true]; rw [Int.add_assoc])
            have HN2 : Hid (nf = wrap64 (f0 + sumI (part (fun m => flag m 1) ms ds) (k + 1))) := hide (by rw [hnf, addIf_wrap _ _ _ _ hfv.out, sumI_succ, HDK.out, HZK.out]; simp only [part]; rw [Int.add_assoc])
            have HN3 : Hid (ns = wrap64 (s0 + sumI (part (fun m => flag m 2) ms ds) (k + 1))) := hide (by rw [hns, addIf_wrap _ _ _ _ hsv.out, sumI_succ, HDK.out, HZK.out]; simp only [part]; rw [Int.add_assoc])
            clear hnc hnf hns hb3
            go_wp2_with fail
            go_roundw
            case rel => exact ⟨k + 1, false, nc, nf, ns, by omega, by go_num, rfl, rfl, rfl, rfl, hbb, HN1, HN2, HN3, hide (fun h => by cases h)⟩
            case measure => simp [intOf]; omega
      · have hnk : ¬ (k : Int) < (n4 : Int) := by omega
        have hkN : k = n4 := by omega
        rw [hkN] at hcv hfv hsv
        clear hbs
        go_wp2_with fail
        go_loop [19, 20, 21, 22, 23] (fun v0 v1 v2 v3 vi => ∃ k2 : Nat, ∃ b0 b1 b2 b3 : Int, k2 ≤ n4 ∧ vi = .int .i64 k2 ∧ v0 = .int .i64 b0 ∧ v1 = .int .i64 b1 ∧ v2 = .int .i64 b2 ∧ v3 = .int .i64 b3 ∧ Hid (b0 = wrap64 (sumI (part (isCls 0) ms ds) k2)) ∧ Hid (b1 = wrap64 (sumI (part (isCls 1) ms ds) k2)) ∧ Hid (b2 = wrap64 (sumI (part (isCls 2) ms ds) k2)) ∧ Hid (b3 = wrap64 (sumI (part (isCls 3) ms ds) k2))) (fun _ _ _ _ vi => n4 - (intOf vi).toNat)
        case atStart => exact ⟨0, 0, 0, 0, 0, Nat.zero_le _, rfl, rfl, rfl, rfl, rfl, hide zero_wrap, hide zero_wrap, hide zero_wrap, hide zero_wrap⟩
        case round =>
          obtain ⟨k2, b0, b1, b2, b3, hk2, rfl, rfl, rfl, rfl, rfl, hb0, hb1, hb2, hb3⟩ := hrel
          by_cases hkn2 : k2 < n4
          · obtain ⟨p3, o3, rfl, hc3⟩ := HE3.out.2 (by omega)
            obtain ⟨p4, o4, rfl, hc4⟩ := HE4.out.2 (by omega)
            have hkn' : (k2 : Int) < (n4 : Int) := by omega
            have hk3 : (k2 : Int) < (n3 : Int) := by omega
            have hk4 : (k2 : Int) < (n4 : Int) := by omega
            obtain ⟨z, hz⟩ : ∃ z, z = ms.getD k2 0 := ⟨_, rfl⟩
            obtain ⟨d, hd⟩ : ∃ d, d = ds.getD k2 0 := ⟨_, rfl⟩
            have cz : wr.cell? ⟨p3, o3 + k2, none⟩ = some (.int .u8 z) := by rw [hbr.cell (by exact World.block_lt_of_cell? w2 _ (hc3 k2 (by omega))), hc3 k2 (by omega), hz]
            have cd : wr.cell? ⟨p4, o4 + k2, none⟩ = some (.int .i64 d) := by rw [hbr.cell (by exact World.block_lt_of_cell? w2 _ (hc4 k2 (by omega))), hc4 k2 (by omega), hd]
            have hzr := HMS.out k2 (by omega)
            rw [← hz] at hzr
            have HZK := hide hz
            have HDK := hide hd
            clear hz hd hc3 hc4
            rcases cls_flags z hzr.1 hzr.2 with ⟨hcl, -, -⟩ | ⟨hcl, -, -⟩ | ⟨hcl, -, -⟩ | ⟨hcl, -, -⟩
            · have e3 : bits .and .u8 z 3 = 0 := hcl
              have HCL := hide hcl
              clear hcl
              go_wp2_with fail
              go_round
              case rel => exact ⟨k2 + 1, _, _, _, _, by omega, by go_num, rfl, rfl, rfl, rfl, hide (bucket_yes hb0.out (part_yes HZK.out HDK.out HCL.out)), hide (bucket_no hb1.out (part_no HZK.out HCL.out (by decide))), hide (bucket_no hb2.out (part_no HZK.out HCL.out (by decide))), hide (bucket_no hb3.out (part_no HZK.out HCL.out (by decide)))⟩
              case measure => simp [intOf]; omega
            · have e3 : bits .and .u8 z 3 = 1 := hcl
              have HCL := hide hcl
              clear hcl
              go_wp2_with fail
              go_round
              case rel => exact ⟨k2 + 1, _, _, _, _, by omega, by go_num, rfl, rfl, rfl, rfl, hide (bucket_no hb0.out (part_no HZK.out HCL.out (by decide))), hide (bucket_yes hb1.out (part_yes HZK.out HDK.out HCL.out)), hide (bucket_no hb2.out (part_no HZK.out HCL.out (by decide))), hide (bucket_no hb3.out (part_no HZK.out HCL.out (by decide)))⟩
              case measure => simp [intOf]; omega
            · have e3 : bits .and .u8 z 3 = 2 := hcl
              have HCL := hide hcl
              clear hcl
              go_wp2_with fail
              go_round
              case rel => exact ⟨k2 + 1, _, _, _, _, by omega, by go_num, rfl, rfl, rfl, rfl, hide (bucket_no hb0.out (part_no HZK.out HCL.out (by decide))), hide (bucket_no hb1.out (part_no HZK.out HCL.out (by decide))), hide (bucket_yes hb2.out (part_yes HZK.out HDK.out HCL.out)), hide (bucket_no hb3.out (part_no HZK.out HCL.out (by decide)))⟩
              case measure => simp [intOf]; omega
            · have e3 : bits .and .u8 z 3 = 3 := hcl
              have HCL := hide hcl
              clear hcl
              go_wp2_with fail
              go_round
              case rel => exact ⟨k2 + 1, _, _, _, _, by omega, by go_num, rfl, rfl, rfl, rfl, hide (bucket_no hb0.out (part_no HZK.out HCL.out (by decide))), hide (bucket_no hb1.out (part_no HZK.out HCL.out (by decide))), hide (bucket_no hb2.out (part_no HZK.out HCL.out (by decide))), hide (bucket_yes hb3.out (part_yes HZK.out HDK.out HCL.out))⟩
              case measure => simp [intOf]; omega
          · have hnk2 : ¬ (k2 : Int) < (n4 : Int) := by omega
            have hkN2 : k2 = n4 := by omega
            rw [hkN2] at hb0 hb1 hb2 hb3
            have hsp := part_split ms ds n4 (fun i hi => HMS.out i (by omega))
            have F1 : (c != wrap64 (wrap64 (wrap64 (wrap64 (c0 + b0) + b1) + b2) + b3)) = false := by
              rw [bne_eq_false_iff_eq, hcv.out, hb0.out, hb1.out, hb2.out, hb3.out, hsp.1]; exact wrap4 _ _ _ _ _
            have F2 : (f != wrap64 (wrap64 (f0 + b1) + b3)) = false := by
              rw [bne_eq_false_iff_eq, hfv.out, hb1.out, hb3.out, hsp.2.1]; exact wrap2 _ _ _
            have F3 : (s != wrap64 (wrap64 (s0 + b2) + b3)) = false := by
              rw [bne_eq_false_iff_eq, hsv.out, hb2.out, hb3.out, hsp.2.2]; exact wrap2 _ _ _
            clear hsp hb0 hb1 hb2 hb3 hkN2
            go_wp2_with fail
            go_loopw [24, 25, 26, 27] (fun vc vf vs vi wr => ∃ t : Nat, ∃ rc rf rs : Int, t ≤ n4 ∧ vi = .int .i64 ((t : Int) - 1) ∧ vc = .int .i64 rc ∧ vf = .int .i64 rf ∧ vs = .int .i64 rs ∧ Below w2.heap.size w2 wr ∧ Hid (rc = wrap64 (c0 + (sumI (part all ms ds) n4 - sumI (part all ms ds) t))) ∧ Hid (rf = wrap64 (f0 + (sumI (part (fun m => flag m 1) ms ds) n4 - sumI (part (fun m => flag m 1) ms ds) t))) ∧ Hid (rs = wrap64 (s0 + (sumI (part (fun m => flag m 2) ms ds) n4 - sumI (part (fun m => flag m 2) ms ds) t)))) (fun _ _ _ vi _ => (intOf vi + 1).toNat)
            case atStart => exact ⟨n4, c0, f0, s0, Nat.le_refl _, rfl, rfl, rfl, rfl, hbr, hide (by rw [Int.sub_self, Int.add_zero]; exact HWC.out.symm), hide (by rw [Int.sub_self, Int.add_zero]; exact HWF.out.symm), hide (by rw [Int.sub_self, Int.add_zero]; exact HWS.out.symm)⟩
            case round =>
              clear hbr
              obtain ⟨t, rc, rf, rs, htN, rfl, rfl, rfl, rfl, hbr, hrc, hrf, hrs⟩ := hrel
              cases t with
              | zero =>
                have G1 : (rc == c) = true := by rw [beq_iff_eq, hrc.out, hcv.out]; simp only [sumI, Int.sub_zero]
                have G2 : (rf == f) = true := by rw [beq_iff_eq, hrf.out, hfv.out]; simp only [sumI, Int.sub_zero]
                have G3 : (rs == s) = true := by rw [beq_iff_eq, hrs.out, hsv.out]; simp only [sumI, Int.sub_zero]
                go_wp2_with fail
                go_ret
                exact ⟨rfl, hB2.trans (hbr.mono hB2.size)⟩
              | succ u =>
                rw [show (((u + 1 : Nat) : Int) - 1) = (u : Int) by omega]
                obtain ⟨p3, o3, rfl, hc3⟩ := HE3.out.2 (by omega)
                obtain ⟨p4, o4, rfl, hc4⟩ := HE4.out.2 (by omega)
                have hk3 : (u : Int) < (n3 : Int) := by omega
                have hk4 : (u : Int) < (n4 : Int) := by omega
                obtain ⟨z, hz⟩ : ∃ z, z = ms.getD u 0 := ⟨_, rfl⟩
                obtain ⟨d, hd⟩ : ∃ d, d = ds.getD u 0 := ⟨_, rfl⟩
                have cz : wr.cell? ⟨p3, o3 + u, none⟩ = some (.int .u8 z) := by rw [hbr.cell (by exact World.block_lt_of_cell? w2 _ (hc3 u (by omega))), hc3 u (by omega), hz]
                have cd : wr.cell? ⟨p4, o4 + u, none⟩ = some (.int .i64 d) := by rw [hbr.cell (by exact World.block_lt_of_cell? w2 _ (hc4 u (by omega))), hc4 u (by omega), hd]
                have HZK := hide hz
                have HDK := hide hd
                clear hz hd hc3 hc4
                go_wp2_with fail
                go_region_with (go_at_call 5; refine (tally_any rc rf rs z d _).mono ?_; rintro e w3 ⟨rfl, hb3⟩)
                all_goals
                  have hbb : Below w2.heap.size w2 w3 := Below.trans (by first | exact hbr | exact hbr.drew | exact below_drewN hbr _) (hb3.mono (by simpa using hbr.size))
                  go_wp2_with fail
                  go_roundw
                  case rel => exact ⟨u, _, _, _, by omega, rfl, rfl, rfl, rfl, hbb, hide (back_c hrc.out (by unfold part all; rw [HDK.out]; rfl)), hide (back_f hrf.out (by unfold part; rw [HDK.out, HZK.out])), hide (back_f hrs.out (by unfold part; rw [HDK.out, HZK.out]))⟩
                  case measure => simp [intOf]
end Go.Proofs.Qxb6603145a
