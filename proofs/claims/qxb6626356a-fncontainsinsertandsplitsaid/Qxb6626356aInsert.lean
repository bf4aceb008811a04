import Derived.Test.Qxb6626356aKept
namespace Go.Proofs.Qxb6626356a

/-- The list that is built: the first m elements, t, then the elements from place m up to place k. -/
def ins (ss : List ByteArray) (t : ByteArray) (m k : Nat) : List ByteArray := ss.take m ++ [t] ++ (ss.take k).drop m

theorem take_step {ss : List ByteArray} {j : Nat} (hj : j < ss.length) : ss.take (j + 1) = ss.take j ++ [ss[j]] := List.take_succ_eq_append_getElem hj

theorem ins_start (ss : List ByteArray) (t : ByteArray) (m : Nat) (_hm : m ≤ ss.length) : ins ss t m m = ss.take m ++ [t] := by
  unfold ins
  rw [List.drop_eq_nil_of_le (by rw [List.length_take]; omega), List.append_nil]

theorem ins_step {ss : List ByteArray} (t : ByteArray) {m j : Nat} (hmj : m ≤ j) (hj : j < ss.length) : ins ss t m (j + 1) = ins ss t m j ++ [ss[j]] := by
  unfold ins
  rw [take_step hj, List.drop_append_of_le_length (by rw [List.length_take]; omega), List.append_assoc]
  simp only [List.append_assoc]

theorem ins_length {ss : List ByteArray} (t : ByteArray) {m k : Nat} (hmk : m ≤ k) (hk : k ≤ ss.length) : (ins ss t m k).length = k + 1 := by
  unfold ins
  simp only [List.length_append, List.length_take, List.length_drop, List.length_cons, List.length_nil]
  omega

theorem has_append (a b : List ByteArray) (t : ByteArray) : has (a ++ b) t = (has a t || has b t) := by
  unfold has; exact List.any_append

theorem has_ins (ss : List ByteArray) (t : ByteArray) (m k : Nat) : has (ins ss t m k) t = true := by
  unfold ins
  rw [has_append, has_append]
  have : has [t] t = true := by simp [has]
  rw [this]; simp

theorem has_split (ss : List ByteArray) (t : ByteArray) (m : Nat) : has ss t = (has (ss.take m) t || has (ss.drop m) t) := by
  rw [← has_append, List.take_append_drop]

open Go.RowKit in
theorem hide {p : Prop} (h : p) : Hid p := h

theorem SS.take {w : World} {ao : Option Addr} {ss : List ByteArray} (h : SS w ao ss) (j : Nat) : SS w ao (ss.take j) := by
  rcases h with rfl | ⟨b, off, rfl, hc⟩
  · exact .inl (by simp)
  · refine .inr ⟨b, off, rfl, fun k hk => ?_⟩
    rw [List.length_take] at hk
    rw [hc k (by omega)]
    simp [show k < j by omega]

theorem SS.drop {w : World} {ao ad : Option Addr} {b off : Nat} {ss : List ByteArray} (h : SS w ao ss) (hao : ao = some ⟨b, off, none⟩) (j : Nat) (had : j < ss.length → ad = some ⟨b, off + j, none⟩) : SS w ad (ss.drop j) := by
  by_cases hj : j < ss.length
  · rcases h with rfl | ⟨b', off', h1, hc⟩
    · simp at hj
    · rw [hao] at h1
      cases h1
      refine .inr ⟨b, off + j, had hj, fun k hk => ?_⟩
      rw [List.length_drop] at hk
      rw [Nat.add_assoc, hc (j + k) (by omega)]
      simp [List.getElem?_drop]
  · exact .inl (List.drop_eq_nil_of_le (by omega))
end Go.Proofs.Qxb6626356a
