import Derived.Test.Qxb6626483aFmtLeaf
namespace Go.Proofs.Qxb6626483aFmt
open Go.ChangeShapes Go.WideShapes Go.ChangeAt Go.RowKit

set_option maxHeartbeats 2000000 in
set_option maxRecDepth 100000 in
theorem bytes5 (d : ByteArray) (ao bo : Option Addr) (c c' : Nat) (ss ts : List ByteArray) (v : ByteArray) (w : World) (hs : SS w ao ss) (ht : SS w bo ts) (hm : ss.length ≤ maxLen) (hn : ts.length ≤ maxLen) (hd : d.size ≤ maxLen) (hv : v.size ≤ maxLen) :
    Calls Tryf.prog 5 #[.string d, .slice ao ss.length c, .slice bo ts.length c', .string v] w fun e w' => RetB e ∧ w' = w := by
  unfold maxLen at hm hn hd hv
  go_enter Tryf.func5, Tryf.ntmps5
  go_wp2_with fail
  iterate 3
    · go_ret
      exact ⟨RetB.mk _, rfl⟩
  go_loop [9, 10] (fun z i => ∃ k : Nat, ∃ q : Int, k ≤ ss.length ∧ i = .int .i64 k ∧ z = .int .i64 q ∧ 0 ≤ q ∧ q ≤ 1048576) (fun _ i => ss.length - (intOf i).toNat)
  case atStart => exact ⟨0, _, Nat.zero_le _, rfl, rfl, by omega, by omega⟩
  case round =>
    obtain ⟨k, q, hk, rfl, rfl, hq0, hq1⟩ := hrel
    by_cases hlt : k < ss.length
    · obtain ⟨b, off, rfl, hcx⟩ := hs.at hlt
      go_wp2
      case roundEnd =>
        go_round
        case rel => exact ⟨k + 1, _, by omega, by go_num, rfl, by omega, by omega⟩
        case measure => simp [intOf]; omega
      all_goals
        go_ret
        exact ⟨RetB.mk _, rfl⟩
    go_wp2_with fail
    iterate 2
      · go_ret
        exact ⟨RetB.mk _, rfl⟩
    go_loop [9, 11] (fun z i => ∃ k : Nat, ∃ q : Int, k ≤ ts.length ∧ i = .int .i64 k ∧ z = .int .i64 q ∧ 0 ≤ q ∧ q ≤ 1048576) (fun _ i => ts.length - (intOf i).toNat)
    case atStart => exact ⟨0, _, Nat.zero_le _, rfl, rfl, by omega, by omega⟩
    case round =>
      obtain ⟨x, y, hx, rfl, rfl, hy0, hy1⟩ := hrel
      by_cases hlt : x < ts.length
      · obtain ⟨b, off, rfl, hcx⟩ := ht.at hlt
        go_wp2
        case roundEnd =>
          go_round
          case rel => exact ⟨x + 1, _, by omega, by go_num, rfl, by omega, by omega⟩
          case measure => simp [intOf]; omega
        all_goals
          go_ret
          exact ⟨RetB.mk _, rfl⟩
      go_wp2
      all_goals
        go_ret
        exact ⟨RetB.mk _, rfl⟩

set_option maxHeartbeats 2000000 in
set_option maxRecDepth 100000 in
theorem bytes10 (d : ByteArray) (ao : Option Addr) (c : Nat) (ss : List ByteArray) (kk : Int) (u v : ByteArray) (w : World) (hs : SS w ao ss) (hm : ss.length ≤ maxLen) (hd : d.size ≤ maxLen) (hu : u.size ≤ maxLen) (hv : v.size ≤ maxLen) :
    Calls Tryf.prog 10 #[.string d, .slice ao ss.length c, .int .i64 kk, .string u, .string v] w fun e w' => RetB e ∧ w' = w := by
  unfold maxLen at hm hd hu hv
  go_enter Tryf.func10, Tryf.ntmps10
  go_wp2_with fail
  iterate 3
    · go_ret
      exact ⟨RetB.mk _, rfl⟩
  go_loop [11, 12] (fun z i => ∃ k : Nat, ∃ q : Int, k ≤ ss.length ∧ i = .int .i64 k ∧ z = .int .i64 q ∧ 0 ≤ q ∧ q ≤ 1048576) (fun _ i => ss.length - (intOf i).toNat)
  case atStart => exact ⟨0, _, Nat.zero_le _, rfl, rfl, by omega, by omega⟩
  case round =>
    obtain ⟨k, q, hk, rfl, rfl, hq0, hq1⟩ := hrel
    by_cases hlt : k < ss.length
    · obtain ⟨b, off, rfl, hcx⟩ := hs.at hlt
      go_wp2
      case roundEnd =>
        go_round
        case rel => exact ⟨k + 1, _, by omega, by go_num, rfl, by omega, by omega⟩
        case measure => simp [intOf]; omega
      all_goals
        go_ret
        exact ⟨RetB.mk _, rfl⟩
    go_wp2
    all_goals
      go_ret
      exact ⟨RetB.mk _, rfl⟩
end Go.Proofs.Qxb6626483aFmt
