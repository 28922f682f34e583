import Derived.Test.Qxb6603145aTally
namespace Go.Proofs.Qxb6603145a
open Go.RowKit

def sumI (g : Nat → Int) : Nat → Int
  | 0 => 0
  | k + 1 => sumI g k + g k

theorem sumI_succ (g : Nat → Int) (k : Nat) : sumI g (k + 1) = sumI g k + g k := rfl

/-- The mark's two low bits. -/
def cls (m : Int) : Int := bits .and .u8 m 3

theorem cls_fin : ∀ m : Fin 256, (cls (m.val : Int) = 0 ∧ flag (m.val : Int) 1 = false ∧ flag (m.val : Int) 2 = false) ∨ (cls (m.val : Int) = 1 ∧ flag (m.val : Int) 1 = true ∧ flag (m.val : Int) 2 = false) ∨
    (cls (m.val : Int) = 2 ∧ flag (m.val : Int) 1 = false ∧ flag (m.val : Int) 2 = true) ∨ (cls (m.val : Int) = 3 ∧ flag (m.val : Int) 1 = true ∧ flag (m.val : Int) 2 = true) := by
  decide +kernel

theorem cls_flags (m : Int) (h0 : 0 ≤ m) (h1 : m ≤ 255) : (cls m = 0 ∧ flag m 1 = false ∧ flag m 2 = false) ∨ (cls m = 1 ∧ flag m 1 = true ∧ flag m 2 = false) ∨
    (cls m = 2 ∧ flag m 1 = false ∧ flag m 2 = true) ∨ (cls m = 3 ∧ flag m 1 = true ∧ flag m 2 = true) := by
  obtain ⟨n, rfl⟩ := Int.eq_ofNat_of_zero_le h0
  exact cls_fin ⟨n, by omega⟩

/-- What element i adds where 'b' says so. -/
def part (b : Int → Bool) (ms ds : List Int) (i : Nat) : Int := if b (ms.getD i 0) = true then ds.getD i 0 else 0

def all (_ : Int) : Bool := true
def isCls (j : Int) (m : Int) : Bool := cls m == j

theorem wrap_add (x y : Int) : wrap64 (wrap64 x + y) = wrap64 (x + y) := by unfold wrap64; omega

theorem addIf_wrap (b : Bool) (x X d : Int) (hx : x = wrap64 X) : addIf b x d = wrap64 (X + if b = true then d else 0) := by
  cases b
  · simp [addIf, hx]
  · simp [addIf, hx, wrap_add]

theorem part_split (ms ds : List Int) (n : Nat) (h : ∀ i, i < n → 0 ≤ ms.getD i 0 ∧ ms.getD i 0 ≤ 255) :
    sumI (part all ms ds) n = sumI (part (isCls 0) ms ds) n + sumI (part (isCls 1) ms ds) n + sumI (part (isCls 2) ms ds) n + sumI (part (isCls 3) ms ds) n ∧
    sumI (part (fun m => flag m 1) ms ds) n = sumI (part (isCls 1) ms ds) n + sumI (part (isCls 3) ms ds) n ∧
    sumI (part (fun m => flag m 2) ms ds) n = sumI (part (isCls 2) ms ds) n + sumI (part (isCls 3) ms ds) n := by
  induction n with
  | zero => exact ⟨rfl, rfl, rfl⟩
  | succ k ih =>
    obtain ⟨i1, i2, i3⟩ := ih (fun i hi => h i (by omega))
    have hk := h k (by omega)
    simp only [sumI_succ]
    have e : part all ms ds k = part (isCls 0) ms ds k + part (isCls 1) ms ds k + part (isCls 2) ms ds k + part (isCls 3) ms ds k ∧
        part (fun m => flag m 1) ms ds k = part (isCls 1) ms ds k + part (isCls 3) ms ds k ∧ part (fun m => flag m 2) ms ds k = part (isCls 2) ms ds k + part (isCls 3) ms ds k := by
      rcases cls_flags _ hk.1 hk.2 with ⟨a, b, c⟩ | ⟨a, b, c⟩ | ⟨a, b, c⟩ | ⟨a, b, c⟩ <;> simp [part, all, isCls, a, b, c, -List.getD_eq_getElem?_getD]
    obtain ⟨e1, e2, e3⟩ := e
    omega
end Go.Proofs.Qxb6603145a
