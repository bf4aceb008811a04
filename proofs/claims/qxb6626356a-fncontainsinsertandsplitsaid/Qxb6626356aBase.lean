import Derived.Test.Qxb6626356aRows
import Derived.WalkKit
import Derived.WalkLawsBesides
import Derived.WalkSpells
import Derived.ProofKit
namespace Go.Proofs.Qxb6626356a
open Go.ChangeShapes Go.WideShapes Go.ChangeAt Go.RowKit

/-- What the walk is told of a slice of strings: it is empty, or it leads to a row whose first cells hold the strings. -/
def SS (w : World) (ao : Option Addr) (ss : List ByteArray) : Prop :=
  ss = [] ∨ ∃ b off, ao = some ⟨b, off, none⟩ ∧ ∀ k, k < ss.length → w.cell? ⟨b, off + k, none⟩ = some (.string (ss.getD k ByteArray.empty))

/-- The membership that 'Contains' computes. -/
def has (ss : List ByteArray) (t : ByteArray) : Bool := ss.any fun s => s.toList == t.toList

theorem has_take_succ (ss : List ByteArray) (t : ByteArray) (k : Nat) (hk : k < ss.length) :
    has (ss.take (k + 1)) t = (has (ss.take k) t || (ss[k].toList == t.toList)) := by
  unfold has
  rw [List.take_succ_eq_append_getElem hk, List.any_append]
  simp only [List.any_cons, List.any_nil, Bool.or_false]

theorem has_of_take (ss : List ByteArray) (t : ByteArray) (k : Nat) (h : has (ss.take k) t = true) : has ss t = true := by
  unfold has at *
  rw [List.any_eq_true] at *
  obtain ⟨x, hx, hy⟩ := h
  exact ⟨x, List.mem_of_mem_take hx, hy⟩

theorem ret_bool {a b : Bool} (h : a = b) : Ending.returned (.bool a) = .returned (.bool b) := by rw [h]

set_option maxHeartbeats 400000 in
theorem contains_any (ao : Option Addr) (c : Nat) (ss : List ByteArray) (t : ByteArray) (w : World) (hs : SS w ao ss) (hm : ss.length ≤ maxLen) :
    Calls Try.prog 6 #[.slice ao ss.length c, .string t] w fun e w' => e = .returned (.bool (has ss t)) ∧ w' = w := by
  unfold maxLen at hm
  rcases hs with rfl | ⟨b, off, rfl, hc⟩
  · go_enter Try.func6, Try.ntmps6
    go_wp2
    go_loop [9] (fun i => i = .int .i64 0) (fun _ => 0)
    case atStart => rfl
    case round =>
      subst hrel
      go_wp2
      go_ret
      exact ⟨rfl, rfl⟩
  · go_enter Try.func6, Try.ntmps6
    go_wp2
    go_loop [9] (fun i => ∃ k : Nat, k ≤ ss.length ∧ i = .int .i64 k ∧ has (ss.take k) t = false) (fun i => ss.length - (intOf i).toNat)
    case atStart => exact ⟨0, Nat.zero_le _, rfl, rfl⟩
    case round =>
      obtain ⟨k, hk, rfl, hno⟩ := hrel
      by_cases hlt : k < ss.length
      · have hcx := hc k hlt
        have HN : Hid (has (ss.take k) t = false) := hno
        have HT := has_take_succ ss t k hlt
        have HT' : Hid (has (ss.take (k + 1)) t = (has (ss.take k) t || (ss[k].toList == t.toList))) := HT
        clear hno HT hc
        go_wp2
        · go_ret
          have h1 : (ss[k].toList == t.toList) = true := by assumption
          exact ⟨ret_bool (has_of_take ss t (k + 1) (by rw [HT'.out, h1]; simp)).symm, rfl⟩
        · go_round
          case rel =>
            have h1 : (ss[k].toList == t.toList) = false := by assumption
            exact ⟨k + 1, by omega, by go_num, by rw [HT'.out, HN.out, h1]; rfl⟩
          case measure => simp [intOf]; omega
      · have HN : Hid (has (ss.take k) t = false) := hno
        clear hno
        go_wp2
        go_ret
        exact ⟨ret_bool (by rw [← HN.out, List.take_of_length_le (by omega)]), rfl⟩

/-- The call returns some bool. -/
def RetB (e : Ending) : Prop := ∃ r, e = .returned (.bool r)
theorem RetB.mk (r : Bool) : RetB (.returned (.bool r)) := ⟨r, rfl⟩

set_option maxHeartbeats 400000 in
theorem bytes5_any (ao : Option Addr) (c : Nat) (ss : List ByteArray) (cut : Int) (t : ByteArray) (w : World) (hs : SS w ao ss) (hm : ss.length ≤ maxLen) (ht : t.size ≤ maxLen) :
    Calls Try.prog 5 #[.slice ao ss.length c, .int .i64 cut, .string t] w fun e w' => RetB e ∧ w' = w := by
  unfold maxLen at hm ht
  rcases hs with rfl | ⟨b, off, rfl, hc⟩
  · go_enter Try.func5, Try.ntmps5
    go_wp2
    go_loop [7, 8] (fun z i => z = .int .i64 0 ∧ i = .int .i64 0) (fun _ _ => 0)
    case atStart => exact ⟨rfl, rfl⟩
    case round =>
      obtain ⟨rfl, rfl⟩ := hrel
      go_wp2
      all_goals
        go_ret
        exact ⟨RetB.mk _, rfl⟩
  · by_cases hbig : 1048576 < ss.length
    · go_enter Try.func5, Try.ntmps5
      go_wp2
      go_ret
      exact ⟨RetB.mk _, rfl⟩
    · go_enter Try.func5, Try.ntmps5
      go_wp2
      go_loop [7, 8] (fun z i => ∃ k : Nat, ∃ q : Int, k ≤ ss.length ∧ i = .int .i64 k ∧ z = .int .i64 q ∧ 0 ≤ q ∧ q ≤ 1048576) (fun _ i => ss.length - (intOf i).toNat)
      case atStart => exact ⟨0, _, Nat.zero_le _, rfl, rfl, by omega, by omega⟩
      case round =>
        obtain ⟨k, q, hk, rfl, rfl, hq0, hq1⟩ := hrel
        by_cases hlt : k < ss.length
        · have hcx := hc k hlt
          clear hc
          go_wp2
          case roundEnd =>
            go_round
            case rel => exact ⟨k + 1, _, by omega, by go_num, rfl, by omega, by omega⟩
            case measure => simp [intOf]; omega
          all_goals
            go_ret
            exact ⟨RetB.mk _, rfl⟩
        · go_wp2
          all_goals
            go_ret
            exact ⟨RetB.mk _, rfl⟩

set_option maxHeartbeats 400000 in
theorem bytes7_any (ao : Option Addr) (c : Nat) (ss : List ByteArray) (t : ByteArray) (w : World) (hs : SS w ao ss) (hm : ss.length ≤ maxLen) (ht : t.size ≤ maxLen) :
    Calls Try.prog 7 #[.slice ao ss.length c, .string t] w fun e w' => RetB e ∧ w' = w := by
  unfold maxLen at hm ht
  rcases hs with rfl | ⟨b, off, rfl, hc⟩
  · go_enter Try.func7, Try.ntmps7
    go_wp2
    go_loop [5, 6] (fun z i => z = .int .i64 0 ∧ i = .int .i64 0) (fun _ _ => 0)
    case atStart => exact ⟨rfl, rfl⟩
    case round =>
      obtain ⟨rfl, rfl⟩ := hrel
      go_wp2
      all_goals
        go_ret
        exact ⟨RetB.mk _, rfl⟩
  · by_cases hbig : 1048576 < ss.length
    · go_enter Try.func7, Try.ntmps7
      go_wp2
      go_ret
      exact ⟨RetB.mk _, rfl⟩
    · go_enter Try.func7, Try.ntmps7
      go_wp2
      go_loop [5, 6] (fun z i => ∃ k : Nat, ∃ q : Int, k ≤ ss.length ∧ i = .int .i64 k ∧ z = .int .i64 q ∧ 0 ≤ q ∧ q ≤ 1048576) (fun _ i => ss.length - (intOf i).toNat)
      case atStart => exact ⟨0, _, Nat.zero_le _, rfl, rfl, by omega, by omega⟩
      case round =>
        obtain ⟨k, q, hk, rfl, rfl, hq0, hq1⟩ := hrel
        by_cases hlt : k < ss.length
        · have hcx := hc k hlt
          clear hc
          go_wp2
          case roundEnd =>
            go_round
            case rel => exact ⟨k + 1, _, by omega, by go_num, rfl, by omega, by omega⟩
            case measure => simp [intOf]; omega
          all_goals
            go_ret
            exact ⟨RetB.mk _, rfl⟩
        · go_wp2
          all_goals
            go_ret
            exact ⟨RetB.mk _, rfl⟩
end Go.Proofs.Qxb6626356a
