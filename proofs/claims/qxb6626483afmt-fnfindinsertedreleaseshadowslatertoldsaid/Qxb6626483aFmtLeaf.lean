import Derived.Test.Qxb6626483aFmtOwn
namespace Go.Proofs.Qxb6626483aFmt
open Go.ChangeShapes Go.WideShapes Go.ChangeAt Go.RowKit

/-- The bytes that a list of strings reaches: sixteen a header, and the text. -/
def tb : List ByteArray → Nat
  | [] => 0
  | s :: ss => 16 + s.size + tb ss
theorem tb_append (a b : List ByteArray) : tb (a ++ b) = tb a + tb b := by
  induction a with
  | nil => simp [tb]
  | cons x xs ih => simp only [List.cons_append, tb, ih]; omega
theorem tb_take_succ {ss : List ByteArray} {k : Nat} (hk : k < ss.length) : tb (ss.take (k + 1)) = tb (ss.take k) + (16 + ss[k].size) := by
  rw [List.take_succ_eq_append_getElem hk, tb_append]
  simp [tb]
theorem tb_len (ss : List ByteArray) : 16 * ss.length ≤ tb ss := by
  induction ss with
  | nil => simp [tb]
  | cons x xs ih => simp only [List.length_cons, tb]; omega

/-- What zzB1AddBytes answers: where the answer is within the bound it is the sum. -/
def RetA (t : Int) (ss : List ByteArray) (e : Ending) : Prop := ∃ r : Int, e = .returned (.int .i64 r) ∧ (r ≤ 1048576 → r = t + (tb ss : Int))

set_option maxHeartbeats 1000000 in
set_option maxRecDepth 100000 in
theorem add6 (t : Int) (ao : Option Addr) (c : Nat) (ss : List ByteArray) (w : World) (ht0 : 0 ≤ t) (ht1 : t ≤ 4194304) (hs : SS w ao ss) (hm : ss.length ≤ maxLen) :
    Calls Tryf.prog 6 #[.int .i64 t, .slice ao ss.length c] w fun e w' => RetA t ss e ∧ w' = w := by
  unfold maxLen at hm
  go_enter Tryf.func6, Tryf.ntmps6
  go_wp2_with fail
  go_loop [0, 5] (fun z i => ∃ k : Nat, ∃ q : Int, k ≤ ss.length ∧ i = .int .i64 k ∧ z = .int .i64 q ∧ q = t + (tb (ss.take k) : Int) ∧ 0 ≤ q ∧ q ≤ 4194304) (fun _ i => ss.length - (intOf i).toNat)
  case atStart => exact ⟨0, t, Nat.zero_le _, rfl, rfl, by simp [tb], ht0, ht1⟩
  case round =>
    obtain ⟨k, q, hk, rfl, rfl, hq, hq0, hq1⟩ := hrel
    have HQ := hide hq
    clear hq
    by_cases hlt : k < ss.length
    · obtain ⟨b, off, rfl, hcx⟩ := hs.at hlt
      have HT := hide (tb_take_succ hlt)
      by_cases hbig : 1048576 < q
      · go_wp2
        go_ret
        exact ⟨⟨q, rfl, fun h => by omega⟩, rfl⟩
      · go_wp2
        · go_ret
          exact ⟨⟨1048577, rfl, fun h => by omega⟩, rfl⟩
        · go_round
          case rel => exact ⟨k + 1, _, by omega, by go_num, rfl, by rw [HT.out, HQ.out]; omega, by omega, by omega⟩
          case measure => simp [intOf]; omega
    · go_wp2
      go_ret
      exact ⟨⟨q, rfl, fun _ => by rw [HQ.out, List.take_of_length_le (by omega)]⟩, rfl⟩

/-- The first place of t in ss, or none. -/
def fst? (ss : List ByteArray) (t : ByteArray) : Option Nat := ss.findIdx? fun s => s.toList == t.toList
/-- As zzB1First answers it. -/
def fstI (ss : List ByteArray) (t : ByteArray) : Int := match fst? ss t with | some k => k | none => -1

theorem fst_found {ss : List ByteArray} {t : ByteArray} {k : Nat} (hk : k < ss.length) (hno : has (ss.take k) t = false) (hy : (ss[k].toList == t.toList) = true) : fst? ss t = some k := by
  unfold fst?
  rw [List.findIdx?_eq_some_iff_getElem]
  refine ⟨hk, hy, fun j hj => ?_⟩
  unfold has at hno
  rw [List.any_eq_false] at hno
  have := hno ss[j] (List.mem_take_iff_getElem.2 ⟨j, by omega, rfl⟩)
  simpa using this
theorem fst_none {ss : List ByteArray} {t : ByteArray} (h : has ss t = false) : fst? ss t = none := by
  unfold fst?
  rw [List.findIdx?_eq_none_iff]
  unfold has at h
  rw [List.any_eq_false] at h
  intro x hx
  have := h x hx
  simpa using this

theorem ret_int {k : IntKind} {a b : Int} (h : a = b) : Ending.returned (.int k a) = .returned (.int k b) := by rw [h]

set_option maxHeartbeats 1000000 in
theorem first9 (ao : Option Addr) (c : Nat) (ss : List ByteArray) (t : ByteArray) (w : World) (hs : SS w ao ss) (hm : ss.length ≤ maxLen) :
    Calls Tryf.prog 9 #[.slice ao ss.length c, .string t] w fun e w' => e = .returned (.int .i64 (fstI ss t)) ∧ w' = w := by
  unfold maxLen at hm
  go_enter Tryf.func9, Tryf.ntmps9
  go_wp2_with fail
  go_loop [5] (fun i => ∃ k : Nat, k ≤ ss.length ∧ i = .int .i64 k ∧ has (ss.take k) t = false) (fun i => ss.length - (intOf i).toNat)
  case atStart => exact ⟨0, Nat.zero_le _, rfl, rfl⟩
  case round =>
    obtain ⟨k, hk, rfl, hno⟩ := hrel
    have HN := hide hno
    clear hno
    by_cases hlt : k < ss.length
    · obtain ⟨b, off, rfl, hcx⟩ := hs.at hlt
      have HT := hide (has_take_succ ss t k hlt)
      go_wp2
      · go_ret
        have h1 : (ss[k].toList == t.toList) = true := by assumption
        exact ⟨ret_int (by simp [fstI, fst_found hlt HN.out h1]), rfl⟩
      · go_round
        case rel =>
          have h1 : (ss[k].toList == t.toList) = false := by assumption
          exact ⟨k + 1, by omega, by go_num, by rw [HT.out, HN.out, h1]; rfl⟩
        case measure => simp [intOf]; omega
    · go_wp2
      go_ret
      have h2 : has ss t = false := by rw [← HN.out, List.take_of_length_le (by omega)]
      exact ⟨ret_int (by simp [fstI, fst_none h2]), rfl⟩
end Go.Proofs.Qxb6626483aFmt
