import Derived.Test.Qxb6626511aMode
namespace Go.Proofs.Qxb6626511a

theorem md_or (n : Nat) : md n = ((n &&& 2 ^ 23) >>> 12) ||| (((n &&& 2 ^ 22) >>> 12) ||| (((n &&& 2 ^ 20) >>> 11) ||| (n &&& (2 ^ 9 - 1)))) := by
  have b1 : (n &&& 2 ^ 23) >>> 12 = n / 8388608 % 2 * 2048 := by rw [nat_bit, Nat.shiftRight_eq_div_pow]; omega
  have b2 : (n &&& 2 ^ 22) >>> 12 = n / 4194304 % 2 * 1024 := by rw [nat_bit, Nat.shiftRight_eq_div_pow]; omega
  have b3 : (n &&& 2 ^ 20) >>> 11 = n / 1048576 % 2 * 512 := by rw [nat_bit, Nat.shiftRight_eq_div_pow]; omega
  have b4 : n &&& (2 ^ 9 - 1) = n % 512 := Nat.and_two_pow_sub_one_eq_mod n 9
  rw [b1, b2, b3, b4]
  rw [nat_join 9 (n / 1048576 % 2 * 512) (n % 512) (by show _ % 512 = 0; omega) (by show _ < 512; omega)]
  rw [nat_join 10 (n / 4194304 % 2 * 1024) _ (by show _ % 1024 = 0; omega) (by show _ < 1024; omega)]
  rw [nat_join 11 (n / 8388608 % 2 * 2048) _ (by show _ % 2048 = 0; omega) (by show _ < 2048; omega)]
  unfold md
  omega

theorem md_bit (n i : Nat) : (md n).testBit i = ((n.testBit (12 + i) && decide (23 = 12 + i)) || ((n.testBit (12 + i) && decide (22 = 12 + i)) || ((n.testBit (11 + i) && decide (20 = 11 + i)) || (n.testBit i && decide (i < 9))))) := by
  rw [md_or]
  simp only [Nat.testBit_or, Nat.testBit_shiftRight, Nat.testBit_and, Nat.testBit_two_pow, Nat.testBit_two_pow_sub_one]

theorem md_union (a b : Nat) : md (a ||| b) = md a ||| md b := by
  apply Nat.eq_of_testBit_eq
  intro i
  rw [Nat.testBit_or, md_bit, md_bit, md_bit]
  simp only [Nat.testBit_or]
  generalize a.testBit (12 + i) = p1
  generalize b.testBit (12 + i) = q1
  generalize a.testBit (11 + i) = p2
  generalize b.testBit (11 + i) = q2
  generalize a.testBit i = p3
  generalize b.testBit i = q3
  generalize decide (23 = 12 + i) = d1
  generalize decide (22 = 12 + i) = d2
  generalize decide (20 = 11 + i) = d3
  generalize decide (i < 9) = d4
  cases d1 <;> cases d2 <;> cases d3 <;> cases d4 <;> simp <;> cases p1 <;> cases q1 <;> cases p2 <;> cases q2 <;> cases p3 <;> cases q3 <;> rfl

theorem md_inter (a b : Nat) : md (a &&& b) = md a &&& md b := by
  apply Nat.eq_of_testBit_eq
  intro i
  rw [Nat.testBit_and, md_bit, md_bit, md_bit]
  simp only [Nat.testBit_and]
  by_cases h1 : i = 11
  · subst h1; simp
  by_cases h2 : i = 10
  · subst h2; simp
  by_cases h3 : i = 9
  · subst h3; simp
  have e1 : decide (23 = 12 + i) = false := by simp; omega
  have e2 : decide (22 = 12 + i) = false := by simp; omega
  have e3 : decide (20 = 11 + i) = false := by simp; omega
  rw [e1, e2, e3]
  cases decide (i < 9) <;> simp

theorem xor_max (a : Nat) (ha : a < 4294967296) : 4294967295 ^^^ a = 4294967295 - a := by
  have h : (BitVec.allOnes 32 ^^^ BitVec.ofNat 32 a).toNat = (~~~ (BitVec.ofNat 32 a)).toNat := by rw [BitVec.allOnes_xor]
  rw [BitVec.toNat_xor, BitVec.toNat_not, BitVec.toNat_allOnes, BitVec.toNat_ofNat, Nat.mod_eq_of_lt (by omega)] at h
  simpa using h

theorem md_not (a : Nat) (ha : a < 4294967296) : md (4294967295 - a) = 4095 - md a := by
  have q0 : (4294967295 - a) % 512 = 511 - a % 512 := by omega
  have q1 : (4294967295 - a) / 1048576 = 4095 - a / 1048576 := by omega
  have q2 : (4294967295 - a) / 4194304 = 1023 - a / 4194304 := by omega
  have q3 : (4294967295 - a) / 8388608 = 511 - a / 8388608 := by omega
  have l1 : a / 1048576 ≤ 4095 := by omega
  have l2 : a / 4194304 ≤ 1023 := by omega
  have l3 : a / 8388608 ≤ 511 := by omega
  unfold md
  rw [q0, q1, q2, q3]
  have hx : a % 512 < 512 := by omega
  generalize a / 1048576 = x1 at *
  generalize a / 4194304 = x2 at *
  generalize a / 8388608 = x3 at *
  generalize a % 512 = x0 at *
  have e1 : (4095 - x1) % 2 = 1 - x1 % 2 := by omega
  have e2 : (1023 - x2) % 2 = 1 - x2 % 2 := by omega
  have e3 : (511 - x3) % 2 = 1 - x3 % 2 := by omega
  rw [e1, e2, e3]
  omega

theorem mask12 (m : Nat) (hm : m < 4096) : (4294967295 - m) &&& 4095 = 4095 - m := by
  have : (4294967295 - m) &&& 4095 = (4294967295 - m) % 4096 := Nat.and_two_pow_sub_one_eq_mod _ 12
  rw [this]
  omega

theorem md_low (a : Nat) : md a % 512 = a % 512 := by unfold md; omega
end Go.Proofs.Qxb6626511a
