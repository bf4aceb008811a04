import Derived.Test.Qxb6626511aBits
namespace Go.Proofs.Qxb6626511a
open Go.ChangeShapes Go.WideShapes Go.ChangeAt Go.RowKit

theorem u32max : IntKind.u32.max = ((4294967295 : Nat) : Int) := by decide
theorem not_u32 (a : Nat) (ha : a < 4294967296) : bits .xor .u32 IntKind.u32.max (a : Int) = ((4294967295 - a : Nat) : Int) := by
  rw [u32max, u32_xor_nat 4294967295 a (by omega) ha, xor_max a ha]

set_option maxHeartbeats 400000 in
theorem walkHomo (a b : Nat) (ha : a < 4294967296) (hb : b < 4294967296) (w : World) :
    Calls Try.prog 4 #[.int .u32 a, .int .u32 b] w fun e w' => e = .returned (.bool true) ∧ w' = w := by
  have la := md_lt a
  have lb := md_lt b
  have m1 := mode5 a ha w
  have m2 := mode5 b hb w
  have m3 := mode5 (4294967295 - a) (by omega) w
  have ho : a ||| b < 4294967296 := Nat.or_lt_two_pow (n := 32) ha hb
  have hd : a &&& b < 4294967296 := Nat.and_lt_two_pow (n := 32) a hb
  have m4 := mode5 (a ||| b) ho w
  have m5 := mode5 (a &&& b) hd w
  have f1 := not_u32 a ha
  have f2 := u32_or_nat a b ha hb
  have f3 := u32_and_nat a b ha hb
  have f4 := not_u32 (md a) (by omega)
  have f5 : bits .and .u32 ((4294967295 - md a : Nat) : Int) 4095 = ((md (4294967295 - a) : Nat) : Int) := by
    rw [md_not a ha, ← mask12 (md a) la]
    exact u32_and_nat (4294967295 - md a) 4095 (by omega) (by omega)
  have f6 : bits .or .u32 (md a : Int) (md b : Int) = ((md (a ||| b) : Nat) : Int) := by rw [md_union]; exact u32_or_nat _ _ (by omega) (by omega)
  have f7 : bits .and .u32 (md a : Int) (md b : Int) = ((md (a &&& b) : Nat) : Int) := by rw [md_inter]; exact u32_and_nat _ _ (by omega) (by omega)
  have f8 : bits .and .u32 (md a : Int) 511 = ((a % 512 : Nat) : Int) := by rw [← md_low, ← nat_mask9]; exact u32_and_nat _ 511 (by omega) (by omega)
  have f9 : bits .and .u32 (a : Int) 511 = ((a % 512 : Nat) : Int) := by rw [← nat_mask9]; exact u32_and_nat a 511 ha (by omega)
  generalize md (4294967295 - a) = r3 at *
  generalize md (a ||| b) = r4 at *
  generalize md (a &&& b) = r5 at *
  generalize (4294967295 - a) = n3 at *
  generalize (4294967295 - md a) = k3 at *
  generalize (a ||| b) = n4 at *
  generalize (a &&& b) = n5 at *
  generalize (a % 512) = lo at *
  go_enter Try.func4, Try.ntmps4
  go_wp2_with fail
  refine m1.mono ?_
  rintro e w1 ⟨rfl, hw⟩
  rw [hw]
  clear hw m1
  go_wp2_with fail
  refine m2.mono ?_
  rintro e w1 ⟨rfl, hw⟩
  rw [hw]
  clear hw m2
  go_wp2_with fail
  refine m3.mono ?_
  rintro e w1 ⟨rfl, hw⟩
  rw [hw]
  clear hw m3
  go_wp2_with fail
  refine m4.mono ?_
  rintro e w1 ⟨rfl, hw⟩
  rw [hw]
  clear hw m4
  go_wp2_with fail
  refine m5.mono ?_
  rintro e w1 ⟨rfl, hw⟩
  rw [hw]
  clear hw m5
  go_wp2
  go_ret
  exact ⟨rfl, rfl⟩
end Go.Proofs.Qxb6626511a
