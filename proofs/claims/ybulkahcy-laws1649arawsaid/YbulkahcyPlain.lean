import Derived.Laws.BitsAllLaws
namespace Go.Proofs.Ybulkahcy

/-- The wake-up bit is not set: to set it is to add it. -/
theorem nat_or_add (n : Nat) (hn : n < 18446744073709551616) (h : n &&& 256 = 0) : n ||| 256 = n + 256 ∧ n + 256 < 18446744073709551616 := by
  have e : (BitVec.ofNat 64 n) + 256#64 = (BitVec.ofNat 64 n) ||| 256#64 := by
    apply BitVec.add_eq_or_of_and_eq_zero
    apply BitVec.eq_of_toNat_eq
    simp only [BitVec.toNat_and, BitVec.toNat_ofNat]
    rw [Nat.mod_eq_of_lt (a := n) (by simpa using hn)]
    exact h
  have hor : n ||| 256 < 2 ^ 64 := Nat.or_lt_two_pow (by simpa using hn) (by decide)
  have e2 := congrArg BitVec.toNat e
  simp only [BitVec.toNat_add, BitVec.toNat_or, BitVec.toNat_ofNat] at e2
  rw [Nat.mod_eq_of_lt (a := n) (by simpa using hn), show 256 % 2 ^ 64 = 256 from rfl] at e2
  have hle : n ≤ n ||| 256 := Nat.left_le_or
  omega

theorem nat_or_set (n : Nat) : (n ||| 256) &&& 256 ≠ 0 := by
  intro h
  have := congrArg (fun m => m.testBit 8) h
  have b8 : Nat.testBit 256 8 = true := by decide
  simp [Nat.testBit_and, Nat.testBit_or, b8] at this

theorem or_set (s : Int) (h0 : 0 ≤ s) (h1 : s < 18446744073709551616) : (bits .and .u64 (bits .or .u64 s 256) 256 != 0) = true := by
  obtain ⟨n, rfl⟩ := Int.eq_ofNat_of_zero_le h0
  have hn : n < 18446744073709551616 := by omega
  have e := u64_or_nat n 256 hn (by decide)
  have hor : n ||| 256 < 2 ^ 64 := Nat.or_lt_two_pow (by simpa using hn) (by decide)
  have e2 := u64_and_nat (n ||| 256) 256 (by simpa using hor) (by decide)
  have e' : bits .or .u64 (n : Int) 256 = ((n ||| 256 : Nat) : Int) := e
  have e2' : bits .and .u64 ((n ||| 256 : Nat) : Int) 256 = (((n ||| 256) &&& 256 : Nat) : Int) := e2
  rw [e', e2', bne_iff_ne]
  have := nat_or_set n
  omega

theorem or_word (s : Int) (h0 : 0 ≤ s) (h1 : s < 18446744073709551616) : 0 ≤ bits .or .u64 s 256 ∧ bits .or .u64 s 256 < 18446744073709551616 := by
  obtain ⟨n, rfl⟩ := Int.eq_ofNat_of_zero_le h0
  have hn : n < 18446744073709551616 := by omega
  have e : bits .or .u64 (n : Int) 256 = ((n ||| 256 : Nat) : Int) := u64_or_nat n 256 hn (by decide)
  have hor : n ||| 256 < 2 ^ 64 := Nat.or_lt_two_pow (by simpa using hn) (by decide)
  rw [e]
  omega

theorem or_add (s : Int) (h0 : 0 ≤ s) (h1 : s < 18446744073709551616) (h : (bits .and .u64 s 256 != 0) = false) :
    bits .or .u64 s 256 = s + 256 ∧ s + 256 < 18446744073709551616 := by
  obtain ⟨n, rfl⟩ := Int.eq_ofNat_of_zero_le h0
  have hn : n < 18446744073709551616 := by omega
  have e : bits .or .u64 (n : Int) 256 = ((n ||| 256 : Nat) : Int) := u64_or_nat n 256 hn (by decide)
  have e2 : bits .and .u64 (n : Int) 256 = ((n &&& 256 : Nat) : Int) := u64_and_nat n 256 hn (by decide)
  rw [e2] at h
  have h' : n &&& 256 = 0 := by simpa using h
  have := nat_or_add n hn h'
  rw [e]
  omega

/-- A status that holds a wake-up is not the bare 4. -/
theorem set_ne4 (s : Int) (h : (bits .and .u64 s 256 != 0) = true) : (s == 4) = false := by
  rw [beq_eq_false_iff_ne]
  rintro rfl
  revert h
  decide

end Go.Proofs.Ybulkahcy
