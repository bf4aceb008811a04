import Derived.Test.Qxb6626511aMode
namespace Go.Proofs.Qxb6626511a
open Go.ChangeShapes Go.WideShapes Go.ChangeAt Go.RowKit

/-- The kept bits of a file mode, in their places. -/
def kept (n : Nat) : Nat := n % 512 + 1048576 * (n / 1048576 % 2) + 4194304 * (n / 4194304 % 2) + 8388608 * (n / 8388608 % 2)

theorem and_kept (n : Nat) : n &&& 13631999 = kept n := by
  have e : (13631999 : Nat) = (8388608 ||| (4194304 ||| (1048576 ||| 511))) := by decide
  have b1 : n &&& 8388608 = n / 8388608 % 2 * 8388608 := nat_bit 23 n
  have b2 : n &&& 4194304 = n / 4194304 % 2 * 4194304 := nat_bit 22 n
  have b3 : n &&& 1048576 = n / 1048576 % 2 * 1048576 := nat_bit 20 n
  rw [e, Nat.and_or_distrib_left, Nat.and_or_distrib_left, Nat.and_or_distrib_left, b1, b2, b3, nat_mask9]
  rw [nat_join 20 (n / 1048576 % 2 * 1048576) (n % 512) (by show _ % 1048576 = 0; omega) (by show _ < 1048576; omega)]
  rw [nat_join 22 (n / 4194304 % 2 * 4194304) _ (by show _ % 4194304 = 0; omega) (by show _ < 4194304; omega)]
  rw [nat_join 23 (n / 8388608 % 2 * 8388608) _ (by show _ % 8388608 = 0; omega) (by show _ < 8388608; omega)]
  unfold kept
  omega

/-- What zzCmp answers. -/
def cmpN (x y : Nat) : Int := if x < y then -1 else if y < x then 1 else 0

theorem cmp_iso (a b : Nat) : cmpN (md a) (md b) = cmpN (kept a) (kept b) := by
  unfold cmpN
  have h1 : md a < md b ↔ kept a < kept b := by unfold md kept; omega
  have h2 : md b < md a ↔ kept b < kept a := by unfold md kept; omega
  simp only [h1, h2]

set_option maxHeartbeats 400000 in
theorem cmp6 (x y : Nat) (w : World) :
    Calls Try.prog 6 #[.int .u32 x, .int .u32 y] w fun e w' => e = .returned (.int .i64 (cmpN x y)) ∧ w' = w := by
  by_cases h1 : x < y
  · have e : cmpN x y = -1 := by unfold cmpN; rw [if_pos h1]
    rw [e]
    go_enter Try.func6, Try.ntmps6
    go_wp2
    go_ret
    exact ⟨rfl, rfl⟩
  by_cases h2 : y < x
  · have e : cmpN x y = 1 := by unfold cmpN; rw [if_neg h1, if_pos h2]
    rw [e]
    go_enter Try.func6, Try.ntmps6
    go_wp2
    go_ret
    exact ⟨rfl, rfl⟩
  · have e : cmpN x y = 0 := by unfold cmpN; rw [if_neg h1, if_neg h2]
    rw [e]
    go_enter Try.func6, Try.ntmps6
    go_wp2
    go_ret
    exact ⟨rfl, rfl⟩

set_option maxHeartbeats 400000 in
theorem walkOrder (a b : Nat) (ha : a < 4294967296) (hb : b < 4294967296) (w : World) :
    Calls Try.prog 3 #[.int .u32 a, .int .u32 b] w fun e w' => e = .returned (.bool true) ∧ w' = w := by
  have ka : bits .and .u32 (a : Int) 13631999 = ((kept a : Nat) : Int) := by rw [← and_kept]; exact u32_and_nat a 13631999 ha (by omega)
  have kb : bits .and .u32 (b : Int) 13631999 = ((kept b : Nat) : Int) := by rw [← and_kept]; exact u32_and_nat b 13631999 hb (by omega)
  have la := md_lt a
  have lb := md_lt b
  have c1 := cmp6 (md a) (md b) w
  have c2 := cmp6 (kept a) (kept b) w
  rw [cmp_iso] at c1
  have m1 := mode5 a ha w
  have m2 := mode5 b hb w
  go_enter Try.func3, Try.ntmps3
  go_wp2_with fail
  refine m1.mono ?_
  rintro e w1 ⟨rfl, hw⟩
  rw [hw]
  clear hw m1
  go_wp2_with fail
  refine m2.mono ?_
  rintro e w1 ⟨rfl, hw⟩
  rw [hw]
  clear hw m2
  go_wp2_with fail
  refine c1.mono ?_
  rintro e w1 ⟨rfl, hw⟩
  rw [hw]
  clear hw c1
  go_wp2_with fail
  refine c2.mono ?_
  rintro e w1 ⟨rfl, hw⟩
  rw [hw]
  clear hw c2
  go_wp2_with fail
  go_ret
  exact ⟨by simp, rfl⟩
end Go.Proofs.Qxb6626511a
