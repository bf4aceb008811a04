import Derived.Test.Qxb6626449aLeaf
namespace Go.Proofs.Qxb6626449a
open Go.ChangeShapes Go.WideShapes Go.ChangeAt Go.RowKit

/-- What the walk is told of a slice of slices of strings: it is empty, or it leads to a row whose first cells hold the inner slices, each as 'SS' says. -/
def RR (w : World) (ao : Option Addr) (rs : List (List ByteArray)) : Prop :=
  rs = [] ∨ ∃ b off, ao = some ⟨b, off, none⟩ ∧ ∀ k, k < rs.length → ∃ ai ci, w.cell? ⟨b, off + k, none⟩ = some (.slice ai (rs.getD k []).length ci) ∧ SS w ai (rs.getD k []) ∧ (rs.getD k []).length ≤ maxLen

theorem RR.below {w w' : World} {ao : Option Addr} {rs : List (List ByteArray)} (h : RR w ao rs) (hb : Below w.heap.size w w') : RR w' ao rs := by
  rcases h with h | ⟨b, off, rfl, hc⟩
  · exact .inl h
  · refine .inr ⟨b, off, rfl, fun k hk => ?_⟩
    obtain ⟨ai, ci, h1, h2, h3⟩ := hc k hk
    refine ⟨ai, ci, ?_, h2.below hb, h3⟩
    rw [hb.cell (p := ⟨b, off + k, none⟩) (World.block_lt_of_cell? w _ h1)]
    exact h1

theorem RR.take {w : World} {ao : Option Addr} {rs : List (List ByteArray)} (h : RR w ao rs) (j : Nat) : RR w ao (rs.take j) := by
  rcases h with rfl | ⟨b, off, rfl, hc⟩
  · exact .inl (by simp)
  · refine .inr ⟨b, off, rfl, fun k hk => ?_⟩
    rw [List.length_take] at hk
    obtain ⟨ai, ci, h1⟩ := hc k (by omega)
    refine ⟨ai, ci, ?_⟩
    have e : (rs.take j).getD k [] = rs.getD k [] := by simp [show k < j by omega]
    rw [e]
    exact h1

theorem RR.drop {w : World} {ao ad : Option Addr} {b off : Nat} {rs : List (List ByteArray)} (h : RR w ao rs) (hao : ao = some ⟨b, off, none⟩) (j : Nat) (had : j < rs.length → ad = some ⟨b, off + j, none⟩) : RR w ad (rs.drop j) := by
  by_cases hj : j < rs.length
  · rcases h with rfl | ⟨b', off', h1, hc⟩
    · simp at hj
    · rw [hao] at h1
      cases h1
      refine .inr ⟨b, off + j, had hj, fun k hk => ?_⟩
      rw [List.length_drop] at hk
      obtain ⟨ai, ci, h1⟩ := hc (j + k) (by omega)
      refine ⟨ai, ci, ?_⟩
      have e : (rs.drop j).getD k [] = rs.getD (j + k) [] := by simp [List.getElem?_drop]
      rw [e, Nat.add_assoc]
      exact h1
  · exact .inl (List.drop_eq_nil_of_le (by omega))

/-- How many strings the first k rows list. -/
def cnt (rs : List (List ByteArray)) (k : Nat) : Nat := (rs.take k).flatten.length
theorem cnt_zero (rs : List (List ByteArray)) : cnt rs 0 = 0 := by simp [cnt]
theorem cnt_succ (rs : List (List ByteArray)) (k : Nat) (hk : k < rs.length) : cnt rs (k + 1) = cnt rs k + (rs.getD k []).length := by
  unfold cnt
  rw [List.take_succ_eq_append_getElem hk, List.flatten_append, List.length_append]
  congr 1
  simp [hk]
theorem cnt_all (rs : List (List ByteArray)) : cnt rs rs.length = rs.flatten.length := by simp [cnt]

/-- What the size guard's answer says. -/
def RetS (rs : List (List ByteArray)) (e : Ending) : Prop := ∃ r, e = .returned (.bool r) ∧ (r = true → rs.flatten.length ≤ 4096 ∧ rs.length ≤ 43690)
theorem RetS.no (rs : List (List ByteArray)) : RetS rs (.returned (.bool false)) := ⟨_, rfl, fun h => by cases h⟩

set_option maxHeartbeats 1000000 in
set_option maxRecDepth 100000 in
theorem size6 (ao : Option Addr) (c : Nat) (rs : List (List ByteArray)) (w : World) (hs : RR w ao rs) (hm : rs.length ≤ maxLen) :
    Calls Try.prog 6 #[.slice ao rs.length c] w fun e w' => RetS rs e ∧ w' = w := by
  unfold maxLen at hm
  rcases hs with rfl | ⟨b, off, rfl, hc⟩
  · go_enter Try.func6, Try.ntmps6
    go_wp2
    go_loop [5] (fun i => i = .int .i64 0) (fun _ => 0)
    case atStart => rfl
    case round =>
      subst hrel
      go_wp2
      go_ret
      exact ⟨⟨_, rfl, fun _ => by simp⟩, rfl⟩
  · go_enter Try.func6, Try.ntmps6
    go_wp2
    go_loop [3, 4, 5] (fun z y i => ∃ k : Nat, ∃ q : Int, k ≤ rs.length ∧ i = .int .i64 k ∧ z = .int .i64 q ∧ y = .int .i64 (cnt rs k) ∧ 24 * (k : Int) ≤ q ∧ q ≤ 1048576 ∧ cnt rs k ≤ 4096) (fun _ _ i => rs.length - (intOf i).toNat)
    case atStart => exact ⟨0, 0, Nat.zero_le _, rfl, rfl, by rw [cnt_zero]; rfl, by omega, by omega, by rw [cnt_zero]; omega⟩
    case round =>
      obtain ⟨k, q, hk, rfl, rfl, rfl, hq0, hq1, hn1⟩ := hrel
      by_cases hlt : k < rs.length
      · obtain ⟨ai, ci, hcx, hsx, hlx⟩ := hc k hlt
        have HC : Hid (cnt rs (k + 1) = cnt rs k + (rs.getD k []).length) := cnt_succ rs k hlt
        generalize rs.getD k [] = row at *
        unfold maxLen at hlx
        clear hc
        rcases hsx with rfl | ⟨b', off', rfl, hd⟩
        · go_wp2
          · go_ret
            exact ⟨RetS.no _, rfl⟩
          · go_loop [3, 6] (fun z i => z = .int .i64 (q + 24) ∧ i = .int .i64 0) (fun _ _ => 0)
            case atStart => exact ⟨rfl, rfl⟩
            case round =>
              obtain ⟨rfl, rfl⟩ := hrel
              go_wp2
              go_round
              case rel => exact ⟨k + 1, _, by omega, by go_num, rfl, by rw [HC.out]; rfl, by omega, by omega, by rw [HC.out]; simpa using hn1⟩
              case measure => simp [intOf]; omega
        · go_wp2
          iterate 3
            · go_ret
              exact ⟨RetS.no _, rfl⟩
          go_loop [3, 6] (fun z i => ∃ j : Nat, ∃ q' : Int, j ≤ row.length ∧ i = .int .i64 j ∧ z = .int .i64 q' ∧ q + 24 ≤ q' ∧ q' ≤ 1048576) (fun _ i => row.length - (intOf i).toNat)
          case atStart => exact ⟨0, _, Nat.zero_le _, rfl, rfl, by omega, by omega⟩
          case round =>
            obtain ⟨j, q', hj, rfl, rfl, hq2, hq3⟩ := hrel
            by_cases hlt2 : j < row.length
            · have hdx := hd j hlt2
              clear hd
              go_wp2
              case roundEnd =>
                go_round
                case rel => exact ⟨j + 1, _, by omega, by go_num, rfl, by omega, by omega⟩
                case measure => simp [intOf]; omega
              all_goals
                go_ret
                exact ⟨RetS.no _, rfl⟩
            · clear hd
              go_wp2
              go_round
              case rel => exact ⟨k + 1, _, by omega, by go_num, rfl, by rw [HC.out]; go_num, by omega, by omega, by rw [HC.out]; omega⟩
              case measure => simp [intOf]; omega
      · go_wp2
        go_ret
        exact ⟨⟨_, rfl, fun _ => by have := cnt_all rs; obtain rfl : k = rs.length := by omega
                                    omega⟩, rfl⟩

set_option maxHeartbeats 1000000 in
set_option maxRecDepth 100000 in
theorem bytes5 (ao : Option Addr) (c : Nat) (rs : List (List ByteArray)) (kk : Int) (w : World) (hs : RR w ao rs) (hm : rs.length ≤ maxLen) :
    Calls Try.prog 5 #[.slice ao rs.length c, .int .i64 kk] w fun e w' => RetB e ∧ w' = w := by
  unfold maxLen at hm
  rcases hs with rfl | ⟨b, off, rfl, hc⟩
  · go_enter Try.func5, Try.ntmps5
    go_wp2
    go_loop [6] (fun i => i = .int .i64 0) (fun _ => 0)
    case atStart => rfl
    case round =>
      subst hrel
      go_wp2
      go_ret
      exact ⟨RetB.mk _, rfl⟩
  · by_cases hbig : 1048576 < rs.length
    · go_enter Try.func5, Try.ntmps5
      go_wp2
      go_ret
      exact ⟨RetB.mk _, rfl⟩
    go_enter Try.func5, Try.ntmps5
    go_wp2
    go_loop [5, 6] (fun z i => ∃ k : Nat, ∃ q : Int, k ≤ rs.length ∧ i = .int .i64 k ∧ z = .int .i64 q ∧ 0 ≤ q ∧ q ≤ 1048576) (fun _ i => rs.length - (intOf i).toNat)
    case atStart => exact ⟨0, _, Nat.zero_le _, rfl, rfl, by omega, by omega⟩
    case round =>
      obtain ⟨k, q, hk, rfl, rfl, hq0, hq1⟩ := hrel
      by_cases hlt : k < rs.length
      · obtain ⟨ai, ci, hcx, hsx, hlx⟩ := hc k hlt
        generalize rs.getD k [] = row at *
        unfold maxLen at hlx
        clear hc
        rcases hsx with rfl | ⟨b', off', rfl, hd⟩
        · go_wp2
          go_loop [5, 7] (fun z i => z = .int .i64 q ∧ i = .int .i64 0) (fun _ _ => 0)
          case atStart => exact ⟨rfl, rfl⟩
          case round =>
            obtain ⟨rfl, rfl⟩ := hrel
            go_wp2
            go_round
            case rel => exact ⟨k + 1, _, by omega, by go_num, rfl, by omega, by omega⟩
            case measure => simp [intOf]; omega
        · go_wp2
          iterate 2
            · go_ret
              exact ⟨RetB.mk _, rfl⟩
          go_loop [5, 7] (fun z i => ∃ j : Nat, ∃ q' : Int, j ≤ row.length ∧ i = .int .i64 j ∧ z = .int .i64 q' ∧ 0 ≤ q' ∧ q' ≤ 1048576) (fun _ i => row.length - (intOf i).toNat)
          case atStart => exact ⟨0, _, Nat.zero_le _, rfl, rfl, by omega, by omega⟩
          case round =>
            obtain ⟨j, q', hj, rfl, rfl, hq2, hq3⟩ := hrel
            by_cases hlt2 : j < row.length
            · have hdx := hd j hlt2
              clear hd
              go_wp2
              case roundEnd =>
                go_round
                case rel => exact ⟨j + 1, _, by omega, by go_num, rfl, by omega, by omega⟩
                case measure => simp [intOf]; omega
              all_goals
                go_ret
                exact ⟨RetB.mk _, rfl⟩
            · clear hd
              go_wp2
              go_round
              case rel => exact ⟨k + 1, _, by omega, by go_num, rfl, by omega, by omega⟩
              case measure => simp [intOf]; omega
      · go_wp2
        go_ret
        exact ⟨RetB.mk _, rfl⟩

set_option maxHeartbeats 1000000 in
set_option maxRecDepth 100000 in
theorem bytes12 (ao : Option Addr) (c : Nat) (rs : List (List ByteArray)) (w : World) (hs : RR w ao rs) (hm : rs.length ≤ maxLen) :
    Calls Try.prog 12 #[.slice ao rs.length c] w fun e w' => RetB e ∧ w' = w := by
  unfold maxLen at hm
  rcases hs with rfl | ⟨b, off, rfl, hc⟩
  · go_enter Try.func12, Try.ntmps12
    go_wp2
    go_loop [4] (fun i => i = .int .i64 0) (fun _ => 0)
    case atStart => rfl
    case round =>
      subst hrel
      go_wp2
      go_ret
      exact ⟨RetB.mk _, rfl⟩
  · by_cases hbig : 1048576 < rs.length
    · go_enter Try.func12, Try.ntmps12
      go_wp2
      go_ret
      exact ⟨RetB.mk _, rfl⟩
    go_enter Try.func12, Try.ntmps12
    go_wp2
    go_loop [3, 4] (fun z i => ∃ k : Nat, ∃ q : Int, k ≤ rs.length ∧ i = .int .i64 k ∧ z = .int .i64 q ∧ 0 ≤ q ∧ q ≤ 1048576) (fun _ i => rs.length - (intOf i).toNat)
    case atStart => exact ⟨0, _, Nat.zero_le _, rfl, rfl, by omega, by omega⟩
    case round =>
      obtain ⟨k, q, hk, rfl, rfl, hq0, hq1⟩ := hrel
      by_cases hlt : k < rs.length
      · obtain ⟨ai, ci, hcx, hsx, hlx⟩ := hc k hlt
        generalize rs.getD k [] = row at *
        unfold maxLen at hlx
        clear hc
        rcases hsx with rfl | ⟨b', off', rfl, hd⟩
        · go_wp2
          go_loop [3, 5] (fun z i => z = .int .i64 q ∧ i = .int .i64 0) (fun _ _ => 0)
          case atStart => exact ⟨rfl, rfl⟩
          case round =>
            obtain ⟨rfl, rfl⟩ := hrel
            go_wp2
            go_round
            case rel => exact ⟨k + 1, _, by omega, by go_num, rfl, by omega, by omega⟩
            case measure => simp [intOf]; omega
        · go_wp2
          iterate 2
            · go_ret
              exact ⟨RetB.mk _, rfl⟩
          go_loop [3, 5] (fun z i => ∃ j : Nat, ∃ q' : Int, j ≤ row.length ∧ i = .int .i64 j ∧ z = .int .i64 q' ∧ 0 ≤ q' ∧ q' ≤ 1048576) (fun _ i => row.length - (intOf i).toNat)
          case atStart => exact ⟨0, _, Nat.zero_le _, rfl, rfl, by omega, by omega⟩
          case round =>
            obtain ⟨j, q', hj, rfl, rfl, hq2, hq3⟩ := hrel
            by_cases hlt2 : j < row.length
            · have hdx := hd j hlt2
              clear hd
              go_wp2
              case roundEnd =>
                go_round
                case rel => exact ⟨j + 1, _, by omega, by go_num, rfl, by omega, by omega⟩
                case measure => simp [intOf]; omega
              all_goals
                go_ret
                exact ⟨RetB.mk _, rfl⟩
            · clear hd
              go_wp2
              go_round
              case rel => exact ⟨k + 1, _, by omega, by go_num, rfl, by omega, by omega⟩
              case measure => simp [intOf]; omega
      · go_wp2
        go_ret
        exact ⟨RetB.mk _, rfl⟩

/-- Is the string listed in some row? -/
def listed (rs : List (List ByteArray)) (t : ByteArray) : Bool := rs.any fun r => has r t
theorem listed_take_succ (rs : List (List ByteArray)) (t : ByteArray) (k : Nat) (hk : k < rs.length) : listed (rs.take (k + 1)) t = (listed (rs.take k) t || has (rs.getD k []) t) := by
  unfold listed
  rw [List.take_succ_eq_append_getElem hk, List.any_append]
  simp [hk]
theorem listed_of_take (rs : List (List ByteArray)) (t : ByteArray) (k : Nat) (h : listed (rs.take k) t = true) : listed rs t = true := by
  unfold listed at *
  rw [List.any_eq_true] at *
  obtain ⟨x, hx, hy⟩ := h
  exact ⟨x, List.mem_of_mem_take hx, hy⟩

set_option maxHeartbeats 1000000 in
theorem listed11 (ao : Option Addr) (c : Nat) (rs : List (List ByteArray)) (t : ByteArray) (w : World) (hs : RR w ao rs) (hm : rs.length ≤ maxLen) :
    Calls Try.prog 11 #[.slice ao rs.length c, .string t] w fun e w' => e = .returned (.bool (listed rs t)) ∧ w' = w := by
  unfold maxLen at hm
  rcases hs with rfl | ⟨b, off, rfl, hc⟩
  · go_enter Try.func11, Try.ntmps11
    go_wp2
    go_loop [5] (fun i => i = .int .i64 0) (fun _ => 0)
    case atStart => rfl
    case round =>
      subst hrel
      go_wp2
      go_ret
      exact ⟨rfl, rfl⟩
  · go_enter Try.func11, Try.ntmps11
    go_wp2
    go_loop [5] (fun i => ∃ k : Nat, k ≤ rs.length ∧ i = .int .i64 k ∧ listed (rs.take k) t = false) (fun i => rs.length - (intOf i).toNat)
    case atStart => exact ⟨0, Nat.zero_le _, rfl, rfl⟩
    case round =>
      obtain ⟨k, hk, rfl, hno⟩ := hrel
      have HN : Hid (listed (rs.take k) t = false) := hno
      clear hno
      by_cases hlt : k < rs.length
      · obtain ⟨ai, ci, hcx, hsx, hlx⟩ := hc k hlt
        have HC : Hid (listed (rs.take (k + 1)) t = (listed (rs.take k) t || has (rs.getD k []) t)) := listed_take_succ rs t k hlt
        generalize rs.getD k [] = row at *
        have h9 := has9 ai ci row t w hsx hlx
        clear hc hsx hlx
        cases hh : has row t with
        | true =>
          rw [hh] at h9
          have HH := hide hh
          clear hh
          go_wp2_with fail
          refine h9.mono ?_
          rintro e w1 ⟨rfl, hw⟩
          rw [hw]
          clear h9 hw
          go_wp2
          go_ret
          exact ⟨ret_bool (listed_of_take rs t (k + 1) (by rw [HC.out, HH.out]; simp)).symm, rfl⟩
        | false =>
          rw [hh] at h9
          have HH := hide hh
          clear hh
          go_wp2_with fail
          refine h9.mono ?_
          rintro e w1 ⟨rfl, hw⟩
          rw [hw]
          clear h9 hw
          go_wp2
          go_round
          case rel => exact ⟨k + 1, by omega, by go_num, by rw [HC.out, HN.out, HH.out]; rfl⟩
          case measure => simp [intOf]; omega
      · go_wp2
        go_ret
        exact ⟨ret_bool (by rw [← HN.out, List.take_of_length_le (by omega)]), rfl⟩
end Go.Proofs.Qxb6626449a
