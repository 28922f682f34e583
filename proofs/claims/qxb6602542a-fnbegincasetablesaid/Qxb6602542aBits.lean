import Derived.Laws.BitsAllLaws
namespace Go.Proofs.Qxb6602542a

/-- Bit k of a uint64, as the Go text asks for it. -/
def tb (o : Int) (k : Nat) : Bool := bits .and .u64 o (IntKind.u64.wrap (2 ^ k)) != 0

theorem wrap_pow (k : Nat) (hk : k < 64) : IntKind.u64.wrap (2 ^ k) = ((2 ^ k : Nat) : Int) := by
  have h : (2 ^ k : Nat) < 2 ^ 64 := Nat.pow_lt_pow_right (by omega) hk
  have e : ((2 : Int) ^ k) = ((2 ^ k : Nat) : Int) := by simp
  rw [e]
  generalize (2 ^ k : Nat) = x at h
  rw [show IntKind.u64.wrap (x : Int) = (x : Int) % 18446744073709551616 by simp [IntKind.wrap, IntKind.bits, IntKind.signed]]
  omega

theorem pow_lt (k : Nat) (hk : k < 64) : 2 ^ k < 18446744073709551616 := Nat.pow_lt_pow_right (a := 2) (n := 64) (by omega) hk

theorem tb_eq (O k : Nat) (hO : O < 18446744073709551616) (hk : k < 64) : tb O k = O.testBit k := by
  unfold tb
  rw [wrap_pow k hk, u64_and_nat O (2 ^ k) hO (pow_lt k hk), nat_bit]
  rw [Nat.testBit_eq_decide_div_mod_eq]
  have hp : 0 < 2 ^ k := Nat.two_pow_pos k
  rcases Nat.mod_two_eq_zero_or_one (O / 2 ^ k) with h | h
  · simp [h]
  · rw [h, Nat.one_mul]
    have hq : ¬ ((2 ^ k : Nat) : Int) = 0 := by omega
    rw [bne_iff_ne.2 hq]
    rfl

/-- The stack's first brackets: a byte a bit. -/
def brs (o : Int) (k : Nat) : List Int := (List.range k).map fun i => if tb o i then 123 else 91

theorem brs_length (o : Int) (k : Nat) : (brs o k).length = k := by simp [brs]
theorem brs_zero (o : Int) : brs o 0 = [] := rfl
theorem brs_yes (o : Int) (k : Nat) (h : tb o k = true) : brs o (k + 1) = brs o k ++ [123] := by simp [brs, List.range_succ, h]
theorem brs_no (o : Int) (k : Nat) (h : tb o k = false) : brs o (k + 1) = brs o k ++ [91] := by simp [brs, List.range_succ, h]

theorem brs_congr (o o' : Int) (k : Nat) (h : ∀ i, i < k → tb o i = tb o' i) : brs o k = brs o' k := by
  unfold brs
  apply List.map_congr_left
  intro i hi
  rw [h i (by simpa using hi)]

theorem setBit (o : Int) (d : Nat) (h0 : 0 ≤ o) (h1 : o < 18446744073709551616) (hd : d < 64) :
    let o' := bits .or .u64 o (IntKind.u64.wrap (2 ^ d))
    0 ≤ o' ∧ o' < 18446744073709551616 ∧ brs o' (d + 1) = brs o d ++ [123] ∧ bits .andNot .u64 (bits .xor .u64 o' o) (IntKind.u64.wrap (2 ^ d)) = 0 := by
  obtain ⟨O, rfl⟩ := Int.eq_ofNat_of_zero_le h0
  have hO : O < 18446744073709551616 := by omega
  have hp := pow_lt d hd
  intro o'
  have ho' : o' = ((O ||| 2 ^ d : Nat) : Int) := by show bits .or .u64 O _ = _; rw [wrap_pow d hd, u64_or_nat O (2 ^ d) hO hp]
  have hlt : O ||| 2 ^ d < 18446744073709551616 := Nat.or_lt_two_pow (n := 64) hO hp
  rw [ho']
  refine ⟨by omega, by omega, ?_, ?_⟩
  · rw [brs_yes _ _ (by rw [tb_eq _ _ hlt hd]; simp)]
    congr 1
    apply brs_congr
    intro i hi
    rw [tb_eq _ _ hlt (by omega), tb_eq _ _ hO (by omega), Nat.testBit_or, Nat.testBit_two_pow_of_ne (by omega)]
    simp
  · rw [wrap_pow d hd, u64_xor_nat _ _ hlt hO, u64_andNot_nat _ _ (Nat.xor_lt_two_pow (n := 64) hlt hO) hp]
    have e : ((O ||| 2 ^ d) ^^^ O) &&& (18446744073709551615 - 2 ^ d) = 0 := by
      apply Nat.eq_of_testBit_eq
      intro i
      rw [show 18446744073709551615 - 2 ^ d = 2 ^ 64 - (2 ^ d + 1) by omega, Nat.testBit_and, Nat.testBit_xor, Nat.testBit_or, Nat.testBit_two_pow_sub_succ hp, Nat.testBit_two_pow]
      by_cases hi : d = i
      · simp [hi]
      · simp [hi]
    rw [e]; rfl

theorem clearBit (o : Int) (d : Nat) (h0 : 0 ≤ o) (h1 : o < 18446744073709551616) (hd : d < 64) :
    let o' := bits .andNot .u64 o (IntKind.u64.wrap (2 ^ d))
    0 ≤ o' ∧ o' < 18446744073709551616 ∧ brs o' (d + 1) = brs o d ++ [91] ∧ bits .andNot .u64 (bits .xor .u64 o' o) (IntKind.u64.wrap (2 ^ d)) = 0 := by
  obtain ⟨O, rfl⟩ := Int.eq_ofNat_of_zero_le h0
  have hO : O < 18446744073709551616 := by omega
  have hp := pow_lt d hd
  intro o'
  have ho' : o' = ((O &&& (18446744073709551615 - 2 ^ d) : Nat) : Int) := by show bits .andNot .u64 O _ = _; rw [wrap_pow d hd, u64_andNot_nat O (2 ^ d) hO hp]
  have hlt : O &&& (18446744073709551615 - 2 ^ d) < 18446744073709551616 := Nat.lt_of_le_of_lt Nat.and_le_left hO
  have hbit : ∀ i, i < 64 → (O &&& (18446744073709551615 - 2 ^ d)).testBit i = (O.testBit i && !decide (d = i)) := by
    intro i hi
    rw [show 18446744073709551615 - 2 ^ d = 2 ^ 64 - (2 ^ d + 1) by omega, Nat.testBit_and, Nat.testBit_two_pow_sub_succ hp, Nat.testBit_two_pow]
    simp [hi]
  rw [ho']
  refine ⟨by omega, by omega, ?_, ?_⟩
  · rw [brs_no _ _ (by rw [tb_eq _ _ hlt hd, hbit d hd]; simp)]
    congr 1
    apply brs_congr
    intro i hi
    rw [tb_eq _ _ hlt (by omega), tb_eq _ _ hO (by omega), hbit i (by omega)]
    simp [show ¬ d = i by omega]
  · rw [wrap_pow d hd, u64_xor_nat _ _ hlt hO, u64_andNot_nat _ _ (Nat.xor_lt_two_pow (n := 64) hlt hO) hp]
    have e : ((O &&& (18446744073709551615 - 2 ^ d)) ^^^ O) &&& (18446744073709551615 - 2 ^ d) = 0 := by
      apply Nat.eq_of_testBit_eq
      intro i
      rw [show 18446744073709551615 - 2 ^ d = 2 ^ 64 - (2 ^ d + 1) by omega, Nat.testBit_and, Nat.testBit_xor, Nat.testBit_and, Nat.testBit_two_pow_sub_succ hp, Nat.testBit_two_pow]
      by_cases h64 : i < 64
      · by_cases hi : d = i
        · simp [hi]
        · simp [hi, h64]
      · have : O.testBit i = false := Nat.testBit_lt_two_pow (Nat.lt_of_lt_of_le hO (show 2 ^ 64 ≤ 2 ^ i from Nat.pow_le_pow_right (by omega) (by omega)))
        simp [this]
    rw [e]; rfl

theorem xor_self (o : Int) (h0 : 0 ≤ o) (h1 : o < 18446744073709551616) : bits .xor .u64 o o = 0 := by
  obtain ⟨O, rfl⟩ := Int.eq_ofNat_of_zero_le h0
  rw [u64_xor_nat _ _ (by omega) (by omega), Nat.xor_self]; rfl
end Go.Proofs.Qxb6602542a
