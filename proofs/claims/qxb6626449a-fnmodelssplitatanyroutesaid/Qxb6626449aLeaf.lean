import Derived.Test.Qxb6626449aOwn
import Derived.Deep.QuietTactic
import Derived.BigQuiet
namespace Go.Proofs.Qxb6626449a
open Go.ChangeShapes Go.WideShapes Go.ChangeAt Go.RowKit

set_option maxHeartbeats 400000 in
theorem has9 (ao : Option Addr) (c : Nat) (ss : List ByteArray) (t : ByteArray) (w : World) (hs : SS w ao ss) (hm : ss.length ≤ maxLen) :
    Calls Try.prog 9 #[.slice ao ss.length c, .string t] w fun e w' => e = .returned (.bool (has ss t)) ∧ w' = w := by
  unfold maxLen at hm
  rcases hs with rfl | ⟨b, off, rfl, hc⟩
  · go_enter Try.func9, Try.ntmps9
    go_wp2
    go_loop [5] (fun i => i = .int .i64 0) (fun _ => 0)
    case atStart => rfl
    case round =>
      subst hrel
      go_wp2
      go_ret
      exact ⟨rfl, rfl⟩
  · go_enter Try.func9, Try.ntmps9
    go_wp2
    go_loop [5] (fun i => ∃ k : Nat, k ≤ ss.length ∧ i = .int .i64 k ∧ has (ss.take k) t = false) (fun i => ss.length - (intOf i).toNat)
    case atStart => exact ⟨0, Nat.zero_le _, rfl, rfl⟩
    case round =>
      obtain ⟨k, hk, rfl, hno⟩ := hrel
      by_cases hlt : k < ss.length
      · have hcx := hc k hlt
        have HN : Hid (has (ss.take k) t = false) := hno
        have HT := has_take_succ ss t k hlt
        have HT' : Hid (has (ss.take (k + 1)) t = (has (ss.take k) t || (ss[k].toList == t.toList))) := HT
        clear hno HT hc
        go_wp2
        · go_ret
          have h1 : (ss[k].toList == t.toList) = true := by assumption
          exact ⟨ret_bool (has_of_take ss t (k + 1) (by rw [HT'.out, h1]; simp)).symm, rfl⟩
        · go_round
          case rel =>
            have h1 : (ss[k].toList == t.toList) = false := by assumption
            exact ⟨k + 1, by omega, by go_num, by rw [HT'.out, HN.out, h1]; rfl⟩
          case measure => simp [intOf]; omega
      · have HN : Hid (has (ss.take k) t = false) := hno
        clear hno
        go_wp2
        go_ret
        exact ⟨ret_bool (by rw [← HN.out, List.take_of_length_le (by omega)]), rfl⟩

/-- What slices.Index hands back: a place, or -1 where there is none. -/
def RetI (p : Bool) (e : Ending) : Prop := ∃ i : Int, e = .returned (.int .i64 i) ∧ (p = true → 0 ≤ i) ∧ (p = false → i = -1)

theorem beq_toList_comm (a b : ByteArray) : (a.toList == b.toList) = (b.toList == a.toList) := by
  rw [Bool.eq_iff_iff]; simp only [beq_iff_eq]; exact eq_comm

set_option maxHeartbeats 400000 in
theorem index14 (ao : Option Addr) (c : Nat) (ss : List ByteArray) (t : ByteArray) (w : World) (hs : SS w ao ss) (hm : ss.length ≤ maxLen) :
    Calls Try.prog 14 #[.slice ao ss.length c, .string t] w fun e w' => RetI (has ss t) e ∧ w' = w := by
  unfold maxLen at hm
  rcases hs with rfl | ⟨b, off, rfl, hc⟩
  · go_enter Try.func14, Try.ntmps14
    go_wp2
    go_loop [8] (fun i => i = .int .i64 0) (fun _ => 0)
    case atStart => rfl
    case round =>
      subst hrel
      go_wp2
      go_ret
      exact ⟨⟨_, rfl, (fun h => by cases h), fun _ => rfl⟩, rfl⟩
  · go_enter Try.func14, Try.ntmps14
    go_wp2
    go_loop [8] (fun i => ∃ k : Nat, k ≤ ss.length ∧ i = .int .i64 k ∧ has (ss.take k) t = false) (fun i => ss.length - (intOf i).toNat)
    case atStart => exact ⟨0, Nat.zero_le _, rfl, rfl⟩
    case round =>
      obtain ⟨k, hk, rfl, hno⟩ := hrel
      by_cases hlt : k < ss.length
      · have hcx := hc k hlt
        have HN : Hid (has (ss.take k) t = false) := hno
        have HT := has_take_succ ss t k hlt
        have HT' : Hid (has (ss.take (k + 1)) t = (has (ss.take k) t || (ss[k].toList == t.toList))) := HT
        clear hno HT hc
        go_wp2
        · go_ret
          have h1 : (t.toList == ss[k].toList) = true := by assumption
          have h2 : has ss t = true := has_of_take ss t (k + 1) (by rw [HT'.out, beq_toList_comm, h1]; simp)
          exact ⟨⟨_, rfl, fun _ => by omega, fun h => by rw [h2] at h; cases h⟩, rfl⟩
        · go_round
          case rel =>
            have h1 : (t.toList == ss[k].toList) = false := by assumption
            exact ⟨k + 1, by omega, by go_num, by rw [HT'.out, HN.out, beq_toList_comm, h1]; rfl⟩
          case measure => simp [intOf]; omega
      · have HN : Hid (has (ss.take k) t = false) := hno
        clear hno
        go_wp2
        go_ret
        have h2 : has ss t = false := by rw [← HN.out, List.take_of_length_le (by omega)]
        exact ⟨⟨_, rfl, (fun h => by rw [h2] at h; cases h), fun _ => rfl⟩, rfl⟩

set_option maxHeartbeats 400000 in
theorem contains13 (ao : Option Addr) (c : Nat) (ss : List ByteArray) (t : ByteArray) (w : World) (hs : SS w ao ss) (hm : ss.length ≤ maxLen) :
    Calls Try.prog 13 #[.slice ao ss.length c, .string t] w fun e w' => e = .returned (.bool (has ss t)) ∧ w' = w := by
  have h14 := index14 ao c ss t w hs hm
  cases hh : has ss t with
  | true =>
    rw [hh] at h14
    clear hh
    go_enter Try.func13, Try.ntmps13
    go_wp2_with fail
    refine h14.mono ?_
    rintro e w1 ⟨⟨i, rfl, h1, _⟩, hw⟩
    rw [hw]
    have h2 : 0 ≤ i := h1 rfl
    clear h14 hw h1
    go_wp2
    go_ret
    exact ⟨ret_bool (by simp), rfl⟩
  | false =>
    rw [hh] at h14
    clear hh
    go_enter Try.func13, Try.ntmps13
    go_wp2_with fail
    refine h14.mono ?_
    rintro e w1 ⟨⟨i, rfl, _, h1⟩, hw⟩
    rw [hw]
    obtain rfl : i = -1 := h1 rfl
    clear h14 hw h1
    go_wp2
    go_ret
    exact ⟨ret_bool (by simp), rfl⟩

set_option maxHeartbeats 400000 in
/-- zzModelsSame at two slices that hold the same strings. -/
theorem same10 (ao bo : Option Addr) (c d : Nat) (ss : List ByteArray) (w : World) (hs : SS w ao ss) (ht : SS w bo ss) (hm : ss.length ≤ maxLen) :
    Calls Try.prog 10 #[.slice ao ss.length c, .slice bo ss.length d] w fun e w' => e = .returned (.bool true) ∧ ∃ n, w' = w.drewN n := by
  unfold maxLen at hm
  by_cases h0 : ss = []
  · subst h0
    clear hs ht
    go_enter Try.func10, Try.ntmps10
    go_wp2
    go_loop [5] (fun i => i = .int .i64 0) (fun _ => 0)
    case atStart => rfl
    case round =>
      subst hrel
      go_wp2
      go_ret
      exact ⟨rfl, 0, rfl⟩
  · rcases hs with h | ⟨b, off, rfl, hc⟩
    · exact absurd h h0
    rcases ht with h | ⟨b', off', rfl, hd⟩
    · exact absurd h h0
    clear h0
    go_enter Try.func10, Try.ntmps10
    go_wp2
    go_loopw [5] (fun i wr => ∃ k : Nat, k ≤ ss.length ∧ i = .int .i64 k ∧ ∃ n, wr = w.drewN n) (fun i _ => ss.length - (intOf i).toNat)
    case atStart => exact ⟨0, Nat.zero_le _, rfl, 0, rfl⟩
    case round =>
      obtain ⟨k, hk, rfl, n, rfl⟩ := hrel
      by_cases hlt : k < ss.length
      · have hcx := hc k hlt
        have hdx := hd k hlt
        clear hc hd
        go_wp2
        go_quiet (fail)
        go_wp2
        go_roundw
        case rel => exact ⟨k + 1, by omega, by go_num, _, rfl⟩
        case measure => simp [intOf]; omega
      · go_wp2
        go_ret
        exact ⟨rfl, n, rfl⟩
end Go.Proofs.Qxb6626449a
