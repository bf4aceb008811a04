import Derived.Test.Qxb6626356aOwn
namespace Go.Proofs.Qxb6626356a

/-- What is kept of the elements from place k on, last first: those that differ from t. -/
def kp (ss : List ByteArray) (t : ByteArray) (k : Nat) : List ByteArray := (ss.drop k).reverse.filter fun s => !(s.toList == t.toList)

theorem kp_end (ss : List ByteArray) (t : ByteArray) : kp ss t ss.length = [] := by simp [kp]

theorem kp_hit {ss : List ByteArray} {t : ByteArray} {j : Nat} (hj : j < ss.length) (h : (ss[j].toList == t.toList) = false) : kp ss t j = kp ss t (j + 1) ++ [ss[j]] := by
  unfold kp
  rw [List.drop_eq_getElem_cons hj, List.reverse_cons, List.filter_append]
  have : List.filter (fun s : ByteArray => !(s.toList == t.toList)) [ss[j]] = [ss[j]] := by rw [List.filter_cons, h]; rfl
  rw [this]

theorem kp_miss {ss : List ByteArray} {t : ByteArray} {j : Nat} (hj : j < ss.length) (h : (ss[j].toList == t.toList) = true) : kp ss t j = kp ss t (j + 1) := by
  unfold kp
  rw [List.drop_eq_getElem_cons hj, List.reverse_cons, List.filter_append]
  have : List.filter (fun s : ByteArray => !(s.toList == t.toList)) [ss[j]] = [] := by rw [List.filter_cons, h]; rfl
  rw [this, List.append_nil]

theorem kp_le (ss : List ByteArray) (t : ByteArray) (k : Nat) : (kp ss t k).length ≤ ss.length := by
  have := List.length_filter_le (fun s : ByteArray => !(s.toList == t.toList)) (ss.drop k).reverse
  unfold kp
  simp only [List.length_reverse, List.length_drop] at this
  omega

theorem kp_after (ss : List ByteArray) (t : ByteArray) : has (kp ss t 0) t = false := by
  unfold has kp
  rw [List.any_eq_false]
  intro x hx
  have := (List.mem_filter.1 hx).2
  simpa using this

theorem kp_before (ss : List ByteArray) (t : ByteArray) (h : has ss t = true) : (kp ss t 0).length < ss.length := by
  unfold has at h
  rw [List.any_eq_true] at h
  obtain ⟨x, hx, hp⟩ := h
  have hle := List.length_filter_le (fun s : ByteArray => !(s.toList == t.toList)) ss.reverse
  unfold kp
  simp only [List.drop_zero]
  rw [List.length_reverse] at hle
  refine Nat.lt_of_le_of_ne hle fun he => ?_
  have := (List.length_filter_eq_length_iff (l := ss.reverse) (p := fun s : ByteArray => !(s.toList == t.toList))).1 (by rw [he, List.length_reverse]) x (List.mem_reverse.2 hx)
  simp [hp] at this

theorem kp_none (ss : List ByteArray) (t : ByteArray) (h : has ss t = false) : (kp ss t 0).length = ss.length := by
  unfold has at h
  rw [List.any_eq_false] at h
  unfold kp
  simp only [List.drop_zero]
  have := (List.length_filter_eq_length_iff (l := ss.reverse) (p := fun s : ByteArray => !(s.toList == t.toList))).2 (fun x hx => by have := h x (List.mem_reverse.1 hx); simpa using this)
  rw [this, List.length_reverse]

/-- 'Contains' at a slice whose length is written as it stands in the frame. -/
theorem contains_len (ao : Option Addr) (n c : Nat) (ss : List ByteArray) (t : ByteArray) (w : World) (hn : ss.length = n) (hs : SS w ao ss) (hm : ss.length ≤ maxLen) :
    Calls Try.prog 6 #[.slice ao n c, .string t] w fun e w' => e = .returned (.bool (has ss t)) ∧ w' = w := by
  subst hn
  exact contains_any ao c ss t w hs hm
theorem contains_empty (ao : Option Addr) (c : Nat) (t : ByteArray) (w : World) :
    Calls Try.prog 6 #[.slice ao 0 c, .string t] w fun e w' => e = .returned (.bool false) ∧ w' = w := contains_len ao 0 c [] t w rfl (.inl rfl) (by simp)
end Go.Proofs.Qxb6626356a
