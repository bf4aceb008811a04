import Derived.Test.Qxb6626511aRows
import Derived.WalkKit
import Derived.ProofKit
import Derived.Laws.BitsAllLaws
namespace Go.Proofs.Qxb6626511a
open Go.ChangeShapes Go.WideShapes Go.ChangeAt Go.RowKit

/-- What ModeOf computes: the nine low bits, sticky, set-group-ID, set-user-ID. -/
def md (n : Nat) : Nat := n % 512 + 512 * (n / 1048576 % 2) + 1024 * (n / 4194304 % 2) + 2048 * (n / 8388608 % 2)
theorem md_lt (n : Nat) : md n < 4096 := by unfold md; omega

theorem and_bit (n i p : Nat) (hn : n < 4294967296) (hp : p = 2 ^ i) (hp2 : p < 4294967296) : bits .and .u32 (n : Int) (p : Int) = ((n / p % 2 * p : Nat) : Int) := by
  rw [u32_and_nat n p hn hp2, hp, nat_bit]

theorem or512 (y : Nat) (hb : y / 512 % 2 = 0) : y ||| 512 = y + 512 := by
  have e : y / 1024 * 1024 + y % 512 = y := by omega
  have j1 := nat_join 9 (y / 1024 * 1024) (y % 512) (by show _ % 512 = 0; omega) (by show _ < 512; omega)
  have j2 := nat_join 9 512 (y % 512) rfl (by show _ < 512; omega)
  have j3 := nat_join 10 (y / 1024 * 1024) (512 + y % 512) (by show _ % 1024 = 0; omega) (by show _ < 1024; omega)
  have h : y ||| 512 = ((y / 1024 * 1024) ||| (y % 512)) ||| 512 := by rw [j1, e]
  rw [h, Nat.or_assoc, Nat.or_comm (y % 512) 512, j2, j3]
  omega
theorem or1024 (y : Nat) (hb : y / 1024 % 2 = 0) : y ||| 1024 = y + 1024 := by
  have e : y / 2048 * 2048 + y % 1024 = y := by omega
  have j1 := nat_join 10 (y / 2048 * 2048) (y % 1024) (by show _ % 1024 = 0; omega) (by show _ < 1024; omega)
  have j2 := nat_join 10 1024 (y % 1024) rfl (by show _ < 1024; omega)
  have j3 := nat_join 11 (y / 2048 * 2048) (1024 + y % 1024) (by show _ % 2048 = 0; omega) (by show _ < 2048; omega)
  have h : y ||| 1024 = ((y / 2048 * 2048) ||| (y % 1024)) ||| 1024 := by rw [j1, e]
  rw [h, Nat.or_assoc, Nat.or_comm (y % 1024) 1024, j2, j3]
  omega
theorem or2048 (y : Nat) (hb : y / 2048 % 2 = 0) : y ||| 2048 = y + 2048 := by
  have e : y / 4096 * 4096 + y % 2048 = y := by omega
  have j1 := nat_join 11 (y / 4096 * 4096) (y % 2048) (by show _ % 2048 = 0; omega) (by show _ < 2048; omega)
  have j2 := nat_join 11 2048 (y % 2048) rfl (by show _ < 2048; omega)
  have j3 := nat_join 12 (y / 4096 * 4096) (2048 + y % 2048) (by show _ % 4096 = 0; omega) (by show _ < 4096; omega)
  have h : y ||| 2048 = ((y / 4096 * 4096) ||| (y % 2048)) ||| 2048 := by rw [j1, e]
  rw [h, Nat.or_assoc, Nat.or_comm (y % 2048) 2048, j2, j3]
  omega
theorem bor512 (y : Nat) (h : y < 4096) (hb : y / 512 % 2 = 0) : bits .or .u32 (y : Int) 512 = ((y + 512 : Nat) : Int) := by
  rw [← or512 y hb]; exact u32_or_nat y 512 (by omega) (by omega)
theorem bor1024 (y : Nat) (h : y < 4096) (hb : y / 1024 % 2 = 0) : bits .or .u32 (y : Int) 1024 = ((y + 1024 : Nat) : Int) := by
  rw [← or1024 y hb]; exact u32_or_nat y 1024 (by omega) (by omega)
theorem bor2048 (y : Nat) (h : y < 4096) (hb : y / 2048 % 2 = 0) : bits .or .u32 (y : Int) 2048 = ((y + 2048 : Nat) : Int) := by
  rw [← or2048 y hb]; exact u32_or_nat y 2048 (by omega) (by omega)

theorem ret_int {k : IntKind} {a b : Int} (h : a = b) : Ending.returned (.int k a) = .returned (.int k b) := by rw [h]

theorem test_no (n p : Nat) (x : Int) (h : x = ((n / p % 2 * p : Nat) : Int)) (hb : n / p % 2 = 0) : (x != 0) = false := by
  rw [h, hb]; simp
theorem test_yes (n p : Nat) (x : Int) (h : x = ((n / p % 2 * p : Nat) : Int)) (hp : 0 < p) (hb : n / p % 2 = 1) : (x != 0) = true := by
  rw [h, hb]; simp; omega

set_option maxHeartbeats 1000000 in
theorem mode5 (n : Nat) (hn : n < 4294967296) (w : World) :
    Calls Try.prog 5 #[.int .u32 n] w fun e w' => e = .returned (.int .u32 (md n)) ∧ w' = w := by
  have h1 : bits .and .u32 (n : Int) 8388608 = ((n / 8388608 % 2 * 8388608 : Nat) : Int) := and_bit n 23 8388608 hn rfl (by omega)
  have h2 : bits .and .u32 (n : Int) 4194304 = ((n / 4194304 % 2 * 4194304 : Nat) : Int) := and_bit n 22 4194304 hn rfl (by omega)
  have h3 : bits .and .u32 (n : Int) 1048576 = ((n / 1048576 % 2 * 1048576 : Nat) : Int) := and_bit n 20 1048576 hn rfl (by omega)
  have h0 : Hid (bits .and .u32 (n : Int) 511 = ((n % 512 : Nat) : Int)) := by
    show _ = _
    rw [← nat_mask9]; exact u32_and_nat n 511 hn (by omega)
  have HD : Hid (md n = n % 512 + 512 * (n / 1048576 % 2) + 1024 * (n / 4194304 % 2) + 2048 * (n / 8388608 % 2)) := rfl
  have no1 := test_no n 8388608 _ h1
  have yes1 := test_yes n 8388608 _ h1 (by omega)
  have no2 := test_no n 4194304 _ h2
  have yes2 := test_yes n 4194304 _ h2 (by omega)
  have no3 := test_no n 1048576 _ h3
  have yes3 := test_yes n 1048576 _ h3 (by omega)
  clear h1 h2 h3
  have a1 : n / 8388608 % 2 = 0 ∨ n / 8388608 % 2 = 1 := by omega
  have a2 : n / 4194304 % 2 = 0 ∨ n / 4194304 % 2 = 1 := by omega
  have a3 : n / 1048576 % 2 = 0 ∨ n / 1048576 % 2 = 1 := by omega
  have hx : n % 512 < 512 := by omega
  generalize n / 8388608 % 2 = b1 at *
  generalize n / 4194304 % 2 = b2 at *
  generalize n / 1048576 % 2 = b3 at *
  generalize n % 512 = x at *
  generalize md n = r at *
  rcases a1 with rfl | rfl <;> rcases a2 with rfl | rfl <;> rcases a3 with rfl | rfl
  all_goals
    simp only [forall_const, false_implies, Nat.zero_ne_one, Nat.one_ne_zero] at no1 yes1 no2 yes2 no3 yes3
    go_enter Try.func5, Try.ntmps5
    go_wp2
    go_ret
    refine ⟨ret_int ?_, rfl⟩
    rw [h0.out, HD.out]
    first
      | rw [bor2048 _ (by omega) (by omega), bor1024 _ (by omega) (by omega), bor512 _ (by omega) (by omega)]
      | rw [bor2048 _ (by omega) (by omega), bor1024 _ (by omega) (by omega)]
      | rw [bor2048 _ (by omega) (by omega), bor512 _ (by omega) (by omega)]
      | rw [bor1024 _ (by omega) (by omega), bor512 _ (by omega) (by omega)]
      | rw [bor2048 _ (by omega) (by omega)]
      | rw [bor1024 _ (by omega) (by omega)]
      | rw [bor512 _ (by omega) (by omega)]
      | skip
  all_goals omega
end Go.Proofs.Qxb6626511a
