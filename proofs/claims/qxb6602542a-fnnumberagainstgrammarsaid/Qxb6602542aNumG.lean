import Derived.Test.Qxb6602542aNumB
import Derived.Test.Qxb6602542aNumC
import Derived.Test.Qxb6602542aNumD
import Derived.Test.Qxb6602542aNumE
import Derived.Test.Qxb6602542aNumF
namespace Go.Proofs.Qxb6602542a
open Go.RowKit

theorem fits_10_Z : Fits 10 48 :=
  ⟨[45], true, true, true, false, 11, false, by simp, by simp, witness_10, number_10_Z, prefix_10_Z, prefix_10_W, fun _ => ⟨class_10_Z, rfl⟩, fun h => by simp at h, fun h => by simp at h⟩

theorem fits_10_D (c : Int) (h1 : 49 ≤ c) (h2 : c ≤ 57) : Fits 10 c :=
  ⟨[45], true, true, true, false, 12, false, by simp, by simp, witness_10, number_10_D c h1 h2, prefix_10_D c h1 h2, prefix_10_W, fun _ => ⟨class_10_D c h1 h2, rfl⟩, fun h => by simp at h, fun h => by simp at h⟩

theorem fits_10_P : Fits 10 46 :=
  ⟨[45], false, false, true, false, 18, false, by simp, by simp, witness_10, number_10_P, prefix_10_P, prefix_10_W, fun h => by simp at h, fun _ h => by simp at h, fun _ _ => ⟨rfl, rfl⟩⟩

theorem fits_10_e : Fits 10 101 :=
  ⟨[45], false, false, true, false, 18, false, by simp, by simp, witness_10, number_10_e, prefix_10_e, prefix_10_W, fun h => by simp at h, fun _ h => by simp at h, fun _ _ => ⟨rfl, rfl⟩⟩

theorem fits_10_E : Fits 10 69 :=
  ⟨[45], false, false, true, false, 18, false, by simp, by simp, witness_10, number_10_E, prefix_10_E, prefix_10_W, fun h => by simp at h, fun _ h => by simp at h, fun _ _ => ⟨rfl, rfl⟩⟩

theorem fits_10_M : Fits 10 45 :=
  ⟨[45], false, false, true, false, 18, false, by simp, by simp, witness_10, number_10_M, prefix_10_M, prefix_10_W, fun h => by simp at h, fun _ h => by simp at h, fun _ _ => ⟨rfl, rfl⟩⟩

theorem fits_10_L : Fits 10 43 :=
  ⟨[45], false, false, true, false, 18, false, by simp, by simp, witness_10, number_10_L, prefix_10_L, prefix_10_W, fun h => by simp at h, fun _ h => by simp at h, fun _ _ => ⟨rfl, rfl⟩⟩

theorem fits_10_l (c : Int) (h1 : c < 48) (h2 : c ≠ 43) (h3 : c ≠ 45) (h4 : c ≠ 46) : Fits 10 c :=
  ⟨[45], false, false, true, false, 18, false, by simp, by simp, witness_10, number_10_l c h1 h2 h3 h4, prefix_10_l c h1 h2 h3 h4, prefix_10_W, fun h => by simp at h, fun _ h => by simp at h, fun _ _ => ⟨rfl, rfl⟩⟩

theorem fits_10_h (c : Int) (h1 : 57 < c) (h2 : c ≠ 69) (h3 : c ≠ 101) : Fits 10 c :=
  ⟨[45], false, false, true, false, 18, false, by simp, by simp, witness_10, number_10_h c h1 h2 h3, prefix_10_h c h1 h2 h3, prefix_10_W, fun h => by simp at h, fun _ h => by simp at h, fun _ _ => ⟨rfl, rfl⟩⟩

theorem fits_11_Z : Fits 11 48 :=
  ⟨[48], false, false, true, true, 5, true, by simp, by simp, witness_11, number_11_Z, prefix_11_Z, prefix_11_W, fun h => by simp at h, fun _ _ => ⟨rfl, rfl⟩, fun _ h => by simp at h⟩

theorem fits_11_D (c : Int) (h1 : 49 ≤ c) (h2 : c ≤ 57) : Fits 11 c :=
  ⟨[48], false, false, true, true, 5, true, by simp, by simp, witness_11, number_11_D c h1 h2, prefix_11_D c h1 h2, prefix_11_W, fun h => by simp at h, fun _ _ => ⟨rfl, rfl⟩, fun _ h => by simp at h⟩

theorem fits_11_P : Fits 11 46 :=
  ⟨[48], true, false, true, true, 13, false, by simp, by simp, witness_11, number_11_P, prefix_11_P, prefix_11_W, fun _ => ⟨class_11_P, rfl⟩, fun h => by simp at h, fun h => by simp at h⟩

theorem fits_11_e : Fits 11 101 :=
  ⟨[48], true, false, true, true, 15, false, by simp, by simp, witness_11, number_11_e, prefix_11_e, prefix_11_W, fun _ => ⟨class_11_e, rfl⟩, fun h => by simp at h, fun h => by simp at h⟩

theorem fits_11_E : Fits 11 69 :=
  ⟨[48], true, false, true, true, 15, false, by simp, by simp, witness_11, number_11_E, prefix_11_E, prefix_11_W, fun _ => ⟨class_11_E, rfl⟩, fun h => by simp at h, fun h => by simp at h⟩

theorem fits_11_M : Fits 11 45 :=
  ⟨[48], false, false, true, true, 5, true, by simp, by simp, witness_11, number_11_M, prefix_11_M, prefix_11_W, fun h => by simp at h, fun _ _ => ⟨rfl, rfl⟩, fun _ h => by simp at h⟩

theorem fits_11_L : Fits 11 43 :=
  ⟨[48], false, false, true, true, 5, true, by simp, by simp, witness_11, number_11_L, prefix_11_L, prefix_11_W, fun h => by simp at h, fun _ _ => ⟨rfl, rfl⟩, fun _ h => by simp at h⟩

theorem fits_11_l (c : Int) (h1 : c < 48) (h2 : c ≠ 43) (h3 : c ≠ 45) (h4 : c ≠ 46) : Fits 11 c :=
  ⟨[48], false, false, true, true, 5, true, by simp, by simp, witness_11, number_11_l c h1 h2 h3 h4, prefix_11_l c h1 h2 h3 h4, prefix_11_W, fun h => by simp at h, fun _ _ => ⟨rfl, rfl⟩, fun _ h => by simp at h⟩

theorem fits_11_h (c : Int) (h1 : 57 < c) (h2 : c ≠ 69) (h3 : c ≠ 101) : Fits 11 c :=
  ⟨[48], false, false, true, true, 5, true, by simp, by simp, witness_11, number_11_h c h1 h2 h3, prefix_11_h c h1 h2 h3, prefix_11_W, fun h => by simp at h, fun _ _ => ⟨rfl, rfl⟩, fun _ h => by simp at h⟩

theorem fits_12_Z : Fits 12 48 :=
  ⟨[49], true, true, true, true, 12, false, by simp, by simp, witness_12, number_12_Z, prefix_12_Z, prefix_12_W, fun _ => ⟨class_12_Z, rfl⟩, fun h => by simp at h, fun h => by simp at h⟩

theorem fits_12_D (c : Int) (h1 : 49 ≤ c) (h2 : c ≤ 57) : Fits 12 c :=
  ⟨[49], true, true, true, true, 12, false, by simp, by simp, witness_12, number_12_D c h1 h2, prefix_12_D c h1 h2, prefix_12_W, fun _ => ⟨class_12_D c h1 h2, rfl⟩, fun h => by simp at h, fun h => by simp at h⟩

theorem fits_12_P : Fits 12 46 :=
  ⟨[49], true, false, true, true, 13, false, by simp, by simp, witness_12, number_12_P, prefix_12_P, prefix_12_W, fun _ => ⟨class_12_P, rfl⟩, fun h => by simp at h, fun h => by simp at h⟩

theorem fits_12_e : Fits 12 101 :=
  ⟨[49], true, false, true, true, 15, false, by simp, by simp, witness_12, number_12_e, prefix_12_e, prefix_12_W, fun _ => ⟨class_12_e, rfl⟩, fun h => by simp at h, fun h => by simp at h⟩

theorem fits_12_E : Fits 12 69 :=
  ⟨[49], true, false, true, true, 15, false, by simp, by simp, witness_12, number_12_E, prefix_12_E, prefix_12_W, fun _ => ⟨class_12_E, rfl⟩, fun h => by simp at h, fun h => by simp at h⟩

theorem fits_12_M : Fits 12 45 :=
  ⟨[49], false, false, true, true, 5, true, by simp, by simp, witness_12, number_12_M, prefix_12_M, prefix_12_W, fun h => by simp at h, fun _ _ => ⟨rfl, rfl⟩, fun _ h => by simp at h⟩

theorem fits_12_L : Fits 12 43 :=
  ⟨[49], false, false, true, true, 5, true, by simp, by simp, witness_12, number_12_L, prefix_12_L, prefix_12_W, fun h => by simp at h, fun _ _ => ⟨rfl, rfl⟩, fun _ h => by simp at h⟩

theorem fits_12_l (c : Int) (h1 : c < 48) (h2 : c ≠ 43) (h3 : c ≠ 45) (h4 : c ≠ 46) : Fits 12 c :=
  ⟨[49], false, false, true, true, 5, true, by simp, by simp, witness_12, number_12_l c h1 h2 h3 h4, prefix_12_l c h1 h2 h3 h4, prefix_12_W, fun h => by simp at h, fun _ _ => ⟨rfl, rfl⟩, fun _ h => by simp at h⟩

theorem fits_12_h (c : Int) (h1 : 57 < c) (h2 : c ≠ 69) (h3 : c ≠ 101) : Fits 12 c :=
  ⟨[49], false, false, true, true, 5, true, by simp, by simp, witness_12, number_12_h c h1 h2 h3, prefix_12_h c h1 h2 h3, prefix_12_W, fun h => by simp at h, fun _ _ => ⟨rfl, rfl⟩, fun _ h => by simp at h⟩

theorem fits_13_Z : Fits 13 48 :=
  ⟨[49, 46], true, true, true, false, 14, false, by simp, by simp, witness_13, number_13_Z, prefix_13_Z, prefix_13_W, fun _ => ⟨class_13_Z, rfl⟩, fun h => by simp at h, fun h => by simp at h⟩

theorem fits_13_D (c : Int) (h1 : 49 ≤ c) (h2 : c ≤ 57) : Fits 13 c :=
  ⟨[49, 46], true, true, true, false, 14, false, by simp, by simp, witness_13, number_13_D c h1 h2, prefix_13_D c h1 h2, prefix_13_W, fun _ => ⟨class_13_D c h1 h2, rfl⟩, fun h => by simp at h, fun h => by simp at h⟩

theorem fits_13_P : Fits 13 46 :=
  ⟨[49, 46], false, false, true, false, 18, false, by simp, by simp, witness_13, number_13_P, prefix_13_P, prefix_13_W, fun h => by simp at h, fun _ h => by simp at h, fun _ _ => ⟨rfl, rfl⟩⟩

theorem fits_13_e : Fits 13 101 :=
  ⟨[49, 46], false, false, true, false, 18, false, by simp, by simp, witness_13, number_13_e, prefix_13_e, prefix_13_W, fun h => by simp at h, fun _ h => by simp at h, fun _ _ => ⟨rfl, rfl⟩⟩

theorem fits_13_E : Fits 13 69 :=
  ⟨[49, 46], false, false, true, false, 18, false, by simp, by simp, witness_13, number_13_E, prefix_13_E, prefix_13_W, fun h => by simp at h, fun _ h => by simp at h, fun _ _ => ⟨rfl, rfl⟩⟩

theorem fits_13_M : Fits 13 45 :=
  ⟨[49, 46], false, false, true, false, 18, false, by simp, by simp, witness_13, number_13_M, prefix_13_M, prefix_13_W, fun h => by simp at h, fun _ h => by simp at h, fun _ _ => ⟨rfl, rfl⟩⟩

theorem fits_13_L : Fits 13 43 :=
  ⟨[49, 46], false, false, true, false, 18, false, by simp, by simp, witness_13, number_13_L, prefix_13_L, prefix_13_W, fun h => by simp at h, fun _ h => by simp at h, fun _ _ => ⟨rfl, rfl⟩⟩

theorem fits_13_l (c : Int) (h1 : c < 48) (h2 : c ≠ 43) (h3 : c ≠ 45) (h4 : c ≠ 46) : Fits 13 c :=
  ⟨[49, 46], false, false, true, false, 18, false, by simp, by simp, witness_13, number_13_l c h1 h2 h3 h4, prefix_13_l c h1 h2 h3 h4, prefix_13_W, fun h => by simp at h, fun _ h => by simp at h, fun _ _ => ⟨rfl, rfl⟩⟩

theorem fits_13_h (c : Int) (h1 : 57 < c) (h2 : c ≠ 69) (h3 : c ≠ 101) : Fits 13 c :=
  ⟨[49, 46], false, false, true, false, 18, false, by simp, by simp, witness_13, number_13_h c h1 h2 h3, prefix_13_h c h1 h2 h3, prefix_13_W, fun h => by simp at h, fun _ h => by simp at h, fun _ _ => ⟨rfl, rfl⟩⟩

theorem fits_14_Z : Fits 14 48 :=
  ⟨[49, 46, 48], true, true, true, true, 14, false, by simp, by simp, witness_14, number_14_Z, prefix_14_Z, prefix_14_W, fun _ => ⟨class_14_Z, rfl⟩, fun h => by simp at h, fun h => by simp at h⟩

theorem fits_14_D (c : Int) (h1 : 49 ≤ c) (h2 : c ≤ 57) : Fits 14 c :=
  ⟨[49, 46, 48], true, true, true, true, 14, false, by simp, by simp, witness_14, number_14_D c h1 h2, prefix_14_D c h1 h2, prefix_14_W, fun _ => ⟨class_14_D c h1 h2, rfl⟩, fun h => by simp at h, fun h => by simp at h⟩

theorem fits_14_P : Fits 14 46 :=
  ⟨[49, 46, 48], false, false, true, true, 5, true, by simp, by simp, witness_14, number_14_P, prefix_14_P, prefix_14_W, fun h => by simp at h, fun _ _ => ⟨rfl, rfl⟩, fun _ h => by simp at h⟩

theorem fits_14_e : Fits 14 101 :=
  ⟨[49, 46, 48], true, false, true, true, 15, false, by simp, by simp, witness_14, number_14_e, prefix_14_e, prefix_14_W, fun _ => ⟨class_14_e, rfl⟩, fun h => by simp at h, fun h => by simp at h⟩

theorem fits_14_E : Fits 14 69 :=
  ⟨[49, 46, 48], true, false, true, true, 15, false, by simp, by simp, witness_14, number_14_E, prefix_14_E, prefix_14_W, fun _ => ⟨class_14_E, rfl⟩, fun h => by simp at h, fun h => by simp at h⟩

theorem fits_14_M : Fits 14 45 :=
  ⟨[49, 46, 48], false, false, true, true, 5, true, by simp, by simp, witness_14, number_14_M, prefix_14_M, prefix_14_W, fun h => by simp at h, fun _ _ => ⟨rfl, rfl⟩, fun _ h => by simp at h⟩

theorem fits_14_L : Fits 14 43 :=
  ⟨[49, 46, 48], false, false, true, true, 5, true, by simp, by simp, witness_14, number_14_L, prefix_14_L, prefix_14_W, fun h => by simp at h, fun _ _ => ⟨rfl, rfl⟩, fun _ h => by simp at h⟩

theorem fits_14_l (c : Int) (h1 : c < 48) (h2 : c ≠ 43) (h3 : c ≠ 45) (h4 : c ≠ 46) : Fits 14 c :=
  ⟨[49, 46, 48], false, false, true, true, 5, true, by simp, by simp, witness_14, number_14_l c h1 h2 h3 h4, prefix_14_l c h1 h2 h3 h4, prefix_14_W, fun h => by simp at h, fun _ _ => ⟨rfl, rfl⟩, fun _ h => by simp at h⟩

theorem fits_14_h (c : Int) (h1 : 57 < c) (h2 : c ≠ 69) (h3 : c ≠ 101) : Fits 14 c :=
  ⟨[49, 46, 48], false, false, true, true, 5, true, by simp, by simp, witness_14, number_14_h c h1 h2 h3, prefix_14_h c h1 h2 h3, prefix_14_W, fun h => by simp at h, fun _ _ => ⟨rfl, rfl⟩, fun _ h => by simp at h⟩

theorem fits_15_Z : Fits 15 48 :=
  ⟨[49, 101], true, true, true, false, 17, false, by simp, by simp, witness_15, number_15_Z, prefix_15_Z, prefix_15_W, fun _ => ⟨class_15_Z, rfl⟩, fun h => by simp at h, fun h => by simp at h⟩

theorem fits_15_D (c : Int) (h1 : 49 ≤ c) (h2 : c ≤ 57) : Fits 15 c :=
  ⟨[49, 101], true, true, true, false, 17, false, by simp, by simp, witness_15, number_15_D c h1 h2, prefix_15_D c h1 h2, prefix_15_W, fun _ => ⟨class_15_D c h1 h2, rfl⟩, fun h => by simp at h, fun h => by simp at h⟩

theorem fits_15_P : Fits 15 46 :=
  ⟨[49, 101], false, false, true, false, 18, false, by simp, by simp, witness_15, number_15_P, prefix_15_P, prefix_15_W, fun h => by simp at h, fun _ h => by simp at h, fun _ _ => ⟨rfl, rfl⟩⟩

theorem fits_15_e : Fits 15 101 :=
  ⟨[49, 101], false, false, true, false, 18, false, by simp, by simp, witness_15, number_15_e, prefix_15_e, prefix_15_W, fun h => by simp at h, fun _ h => by simp at h, fun _ _ => ⟨rfl, rfl⟩⟩

theorem fits_15_E : Fits 15 69 :=
  ⟨[49, 101], false, false, true, false, 18, false, by simp, by simp, witness_15, number_15_E, prefix_15_E, prefix_15_W, fun h => by simp at h, fun _ h => by simp at h, fun _ _ => ⟨rfl, rfl⟩⟩

theorem fits_15_M : Fits 15 45 :=
  ⟨[49, 101], true, false, true, false, 16, false, by simp, by simp, witness_15, number_15_M, prefix_15_M, prefix_15_W, fun _ => ⟨class_15_M, rfl⟩, fun h => by simp at h, fun h => by simp at h⟩

theorem fits_15_L : Fits 15 43 :=
  ⟨[49, 101], true, false, true, false, 16, false, by simp, by simp, witness_15, number_15_L, prefix_15_L, prefix_15_W, fun _ => ⟨class_15_L, rfl⟩, fun h => by simp at h, fun h => by simp at h⟩

theorem fits_15_l (c : Int) (h1 : c < 48) (h2 : c ≠ 43) (h3 : c ≠ 45) (h4 : c ≠ 46) : Fits 15 c :=
  ⟨[49, 101], false, false, true, false, 18, false, by simp, by simp, witness_15, number_15_l c h1 h2 h3 h4, prefix_15_l c h1 h2 h3 h4, prefix_15_W, fun h => by simp at h, fun _ h => by simp at h, fun _ _ => ⟨rfl, rfl⟩⟩

theorem fits_15_h (c : Int) (h1 : 57 < c) (h2 : c ≠ 69) (h3 : c ≠ 101) : Fits 15 c :=
  ⟨[49, 101], false, false, true, false, 18, false, by simp, by simp, witness_15, number_15_h c h1 h2 h3, prefix_15_h c h1 h2 h3, prefix_15_W, fun h => by simp at h, fun _ h => by simp at h, fun _ _ => ⟨rfl, rfl⟩⟩

theorem fits_16_Z : Fits 16 48 :=
  ⟨[49, 101, 45], true, true, true, false, 17, false, by simp, by simp, witness_16, number_16_Z, prefix_16_Z, prefix_16_W, fun _ => ⟨class_16_Z, rfl⟩, fun h => by simp at h, fun h => by simp at h⟩

theorem fits_16_D (c : Int) (h1 : 49 ≤ c) (h2 : c ≤ 57) : Fits 16 c :=
  ⟨[49, 101, 45], true, true, true, false, 17, false, by simp, by simp, witness_16, number_16_D c h1 h2, prefix_16_D c h1 h2, prefix_16_W, fun _ => ⟨class_16_D c h1 h2, rfl⟩, fun h => by simp at h, fun h => by simp at h⟩

theorem fits_16_P : Fits 16 46 :=
  ⟨[49, 101, 45], false, false, true, false, 18, false, by simp, by simp, witness_16, number_16_P, prefix_16_P, prefix_16_W, fun h => by simp at h, fun _ h => by simp at h, fun _ _ => ⟨rfl, rfl⟩⟩

theorem fits_16_e : Fits 16 101 :=
  ⟨[49, 101, 45], false, false, true, false, 18, false, by simp, by simp, witness_16, number_16_e, prefix_16_e, prefix_16_W, fun h => by simp at h, fun _ h => by simp at h, fun _ _ => ⟨rfl, rfl⟩⟩

theorem fits_16_E : Fits 16 69 :=
  ⟨[49, 101, 45], false, false, true, false, 18, false, by simp, by simp, witness_16, number_16_E, prefix_16_E, prefix_16_W, fun h => by simp at h, fun _ h => by simp at h, fun _ _ => ⟨rfl, rfl⟩⟩

theorem fits_16_M : Fits 16 45 :=
  ⟨[49, 101, 45], false, false, true, false, 18, false, by simp, by simp, witness_16, number_16_M, prefix_16_M, prefix_16_W, fun h => by simp at h, fun _ h => by simp at h, fun _ _ => ⟨rfl, rfl⟩⟩

theorem fits_16_L : Fits 16 43 :=
  ⟨[49, 101, 45], false, false, true, false, 18, false, by simp, by simp, witness_16, number_16_L, prefix_16_L, prefix_16_W, fun h => by simp at h, fun _ h => by simp at h, fun _ _ => ⟨rfl, rfl⟩⟩

theorem fits_16_l (c : Int) (h1 : c < 48) (h2 : c ≠ 43) (h3 : c ≠ 45) (h4 : c ≠ 46) : Fits 16 c :=
  ⟨[49, 101, 45], false, false, true, false, 18, false, by simp, by simp, witness_16, number_16_l c h1 h2 h3 h4, prefix_16_l c h1 h2 h3 h4, prefix_16_W, fun h => by simp at h, fun _ h => by simp at h, fun _ _ => ⟨rfl, rfl⟩⟩

theorem fits_16_h (c : Int) (h1 : 57 < c) (h2 : c ≠ 69) (h3 : c ≠ 101) : Fits 16 c :=
  ⟨[49, 101, 45], false, false, true, false, 18, false, by simp, by simp, witness_16, number_16_h c h1 h2 h3, prefix_16_h c h1 h2 h3, prefix_16_W, fun h => by simp at h, fun _ h => by simp at h, fun _ _ => ⟨rfl, rfl⟩⟩

theorem fits_17_Z : Fits 17 48 :=
  ⟨[49, 101, 48], true, true, true, true, 17, false, by simp, by simp, witness_17, number_17_Z, prefix_17_Z, prefix_17_W, fun _ => ⟨class_17_Z, rfl⟩, fun h => by simp at h, fun h => by simp at h⟩

theorem fits_17_D (c : Int) (h1 : 49 ≤ c) (h2 : c ≤ 57) : Fits 17 c :=
  ⟨[49, 101, 48], true, true, true, true, 17, false, by simp, by simp, witness_17, number_17_D c h1 h2, prefix_17_D c h1 h2, prefix_17_W, fun _ => ⟨class_17_D c h1 h2, rfl⟩, fun h => by simp at h, fun h => by simp at h⟩

theorem fits_17_P : Fits 17 46 :=
  ⟨[49, 101, 48], false, false, true, true, 5, true, by simp, by simp, witness_17, number_17_P, prefix_17_P, prefix_17_W, fun h => by simp at h, fun _ _ => ⟨rfl, rfl⟩, fun _ h => by simp at h⟩

theorem fits_17_e : Fits 17 101 :=
  ⟨[49, 101, 48], false, false, true, true, 5, true, by simp, by simp, witness_17, number_17_e, prefix_17_e, prefix_17_W, fun h => by simp at h, fun _ _ => ⟨rfl, rfl⟩, fun _ h => by simp at h⟩

theorem fits_17_E : Fits 17 69 :=
  ⟨[49, 101, 48], false, false, true, true, 5, true, by simp, by simp, witness_17, number_17_E, prefix_17_E, prefix_17_W, fun h => by simp at h, fun _ _ => ⟨rfl, rfl⟩, fun _ h => by simp at h⟩

theorem fits_17_M : Fits 17 45 :=
  ⟨[49, 101, 48], false, false, true, true, 5, true, by simp, by simp, witness_17, number_17_M, prefix_17_M, prefix_17_W, fun h => by simp at h, fun _ _ => ⟨rfl, rfl⟩, fun _ h => by simp at h⟩

theorem fits_17_L : Fits 17 43 :=
  ⟨[49, 101, 48], false, false, true, true, 5, true, by simp, by simp, witness_17, number_17_L, prefix_17_L, prefix_17_W, fun h => by simp at h, fun _ _ => ⟨rfl, rfl⟩, fun _ h => by simp at h⟩

theorem fits_17_l (c : Int) (h1 : c < 48) (h2 : c ≠ 43) (h3 : c ≠ 45) (h4 : c ≠ 46) : Fits 17 c :=
  ⟨[49, 101, 48], false, false, true, true, 5, true, by simp, by simp, witness_17, number_17_l c h1 h2 h3 h4, prefix_17_l c h1 h2 h3 h4, prefix_17_W, fun h => by simp at h, fun _ _ => ⟨rfl, rfl⟩, fun _ h => by simp at h⟩

theorem fits_17_h (c : Int) (h1 : 57 < c) (h2 : c ≠ 69) (h3 : c ≠ 101) : Fits 17 c :=
  ⟨[49, 101, 48], false, false, true, true, 5, true, by simp, by simp, witness_17, number_17_h c h1 h2 h3, prefix_17_h c h1 h2 h3, prefix_17_W, fun h => by simp at h, fun _ _ => ⟨rfl, rfl⟩, fun _ h => by simp at h⟩

theorem fits_10 (c : Int) : Fits 10 c := by
  by_cases e48 : c = 48
  · subst e48; exact fits_10_Z
  by_cases e46 : c = 46
  · subst e46; exact fits_10_P
  by_cases e101 : c = 101
  · subst e101; exact fits_10_e
  by_cases e69 : c = 69
  · subst e69; exact fits_10_E
  by_cases e45 : c = 45
  · subst e45; exact fits_10_M
  by_cases e43 : c = 43
  · subst e43; exact fits_10_L
  by_cases hl : c < 48
  · exact fits_10_l c hl e43 e45 e46
  by_cases hr : c ≤ 57
  · exact fits_10_D c (by omega) hr
  · exact fits_10_h c (by omega) e69 e101

theorem fits_11 (c : Int) : Fits 11 c := by
  by_cases e48 : c = 48
  · subst e48; exact fits_11_Z
  by_cases e46 : c = 46
  · subst e46; exact fits_11_P
  by_cases e101 : c = 101
  · subst e101; exact fits_11_e
  by_cases e69 : c = 69
  · subst e69; exact fits_11_E
  by_cases e45 : c = 45
  · subst e45; exact fits_11_M
  by_cases e43 : c = 43
  · subst e43; exact fits_11_L
  by_cases hl : c < 48
  · exact fits_11_l c hl e43 e45 e46
  by_cases hr : c ≤ 57
  · exact fits_11_D c (by omega) hr
  · exact fits_11_h c (by omega) e69 e101

theorem fits_12 (c : Int) : Fits 12 c := by
  by_cases e48 : c = 48
  · subst e48; exact fits_12_Z
  by_cases e46 : c = 46
  · subst e46; exact fits_12_P
  by_cases e101 : c = 101
  · subst e101; exact fits_12_e
  by_cases e69 : c = 69
  · subst e69; exact fits_12_E
  by_cases e45 : c = 45
  · subst e45; exact fits_12_M
  by_cases e43 : c = 43
  · subst e43; exact fits_12_L
  by_cases hl : c < 48
  · exact fits_12_l c hl e43 e45 e46
  by_cases hr : c ≤ 57
  · exact fits_12_D c (by omega) hr
  · exact fits_12_h c (by omega) e69 e101

theorem fits_13 (c : Int) : Fits 13 c := by
  by_cases e48 : c = 48
  · subst e48; exact fits_13_Z
  by_cases e46 : c = 46
  · subst e46; exact fits_13_P
  by_cases e101 : c = 101
  · subst e101; exact fits_13_e
  by_cases e69 : c = 69
  · subst e69; exact fits_13_E
  by_cases e45 : c = 45
  · subst e45; exact fits_13_M
  by_cases e43 : c = 43
  · subst e43; exact fits_13_L
  by_cases hl : c < 48
  · exact fits_13_l c hl e43 e45 e46
  by_cases hr : c ≤ 57
  · exact fits_13_D c (by omega) hr
  · exact fits_13_h c (by omega) e69 e101

theorem fits_14 (c : Int) : Fits 14 c := by
  by_cases e48 : c = 48
  · subst e48; exact fits_14_Z
  by_cases e46 : c = 46
  · subst e46; exact fits_14_P
  by_cases e101 : c = 101
  · subst e101; exact fits_14_e
  by_cases e69 : c = 69
  · subst e69; exact fits_14_E
  by_cases e45 : c = 45
  · subst e45; exact fits_14_M
  by_cases e43 : c = 43
  · subst e43; exact fits_14_L
  by_cases hl : c < 48
  · exact fits_14_l c hl e43 e45 e46
  by_cases hr : c ≤ 57
  · exact fits_14_D c (by omega) hr
  · exact fits_14_h c (by omega) e69 e101

theorem fits_15 (c : Int) : Fits 15 c := by
  by_cases e48 : c = 48
  · subst e48; exact fits_15_Z
  by_cases e46 : c = 46
  · subst e46; exact fits_15_P
  by_cases e101 : c = 101
  · subst e101; exact fits_15_e
  by_cases e69 : c = 69
  · subst e69; exact fits_15_E
  by_cases e45 : c = 45
  · subst e45; exact fits_15_M
  by_cases e43 : c = 43
  · subst e43; exact fits_15_L
  by_cases hl : c < 48
  · exact fits_15_l c hl e43 e45 e46
  by_cases hr : c ≤ 57
  · exact fits_15_D c (by omega) hr
  · exact fits_15_h c (by omega) e69 e101

theorem fits_16 (c : Int) : Fits 16 c := by
  by_cases e48 : c = 48
  · subst e48; exact fits_16_Z
  by_cases e46 : c = 46
  · subst e46; exact fits_16_P
  by_cases e101 : c = 101
  · subst e101; exact fits_16_e
  by_cases e69 : c = 69
  · subst e69; exact fits_16_E
  by_cases e45 : c = 45
  · subst e45; exact fits_16_M
  by_cases e43 : c = 43
  · subst e43; exact fits_16_L
  by_cases hl : c < 48
  · exact fits_16_l c hl e43 e45 e46
  by_cases hr : c ≤ 57
  · exact fits_16_D c (by omega) hr
  · exact fits_16_h c (by omega) e69 e101

theorem fits_17 (c : Int) : Fits 17 c := by
  by_cases e48 : c = 48
  · subst e48; exact fits_17_Z
  by_cases e46 : c = 46
  · subst e46; exact fits_17_P
  by_cases e101 : c = 101
  · subst e101; exact fits_17_e
  by_cases e69 : c = 69
  · subst e69; exact fits_17_E
  by_cases e45 : c = 45
  · subst e45; exact fits_17_M
  by_cases e43 : c = 43
  · subst e43; exact fits_17_L
  by_cases hl : c < 48
  · exact fits_17_l c hl e43 e45 e46
  by_cases hr : c ≤ 57
  · exact fits_17_D c (by omega) hr
  · exact fits_17_h c (by omega) e69 e101

/-- Whatever byte: each state inside a number has its way. -/
theorem fits_all (s c : Int) (hs1 : 10 ≤ s) (hs2 : s ≤ 17) : Fits s c := by
  rcases (show s = 10 ∨ s = 11 ∨ s = 12 ∨ s = 13 ∨ s = 14 ∨ s = 15 ∨ s = 16 ∨ s = 17 by omega) with rfl | rfl | rfl | rfl | rfl | rfl | rfl | rfl
  · exact fits_10 c
  · exact fits_11 c
  · exact fits_12 c
  · exact fits_13 c
  · exact fits_14 c
  · exact fits_15 c
  · exact fits_16 c
  · exact fits_17 c
end Go.Proofs.Qxb6602542a
