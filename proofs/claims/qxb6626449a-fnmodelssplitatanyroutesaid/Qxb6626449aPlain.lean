import Derived.Test.Qxb6626449aBuild
namespace Go.Proofs.Qxb6626449a

theorem has_iff (ss : List ByteArray) (t : ByteArray) : has ss t = true ↔ ∃ s ∈ ss, s.toList = t.toList := by
  unfold has
  rw [List.any_eq_true]
  simp

theorem has_add (acc : List ByteArray) (m t : ByteArray) : has (add acc m) t = (has acc t || has [m] t) := by
  unfold add
  split
  · rename_i h
    cases hm : has [m] t with
    | false => simp
    | true =>
      obtain ⟨s, hs, e⟩ := (has_iff _ _).1 h
      obtain ⟨s', hs', e'⟩ := (has_iff _ _).1 hm
      simp at hs'
      subst hs'
      have : has acc t = true := (has_iff _ _).2 ⟨s, hs, e.trans e'⟩
      simp [this]
  · exact has_append _ _ _

theorem has_foldl (xs acc : List ByteArray) (t : ByteArray) : has (xs.foldl add acc) t = (has acc t || has xs t) := by
  induction xs generalizing acc with
  | nil => simp [has]
  | cons x xs ih =>
    rw [List.foldl_cons, ih, has_add]
    have : has (x :: xs) t = (has [x] t || has xs t) := has_append [x] xs t
    rw [this, Bool.or_assoc]

/-- Adding what is in the list already turns nothing. -/
theorem add_of_has {acc : List ByteArray} {m : ByteArray} (h : has acc m = true) : add acc m = acc := by simp [add, h]

/-- Gathering a gathered list is gathering the list itself. -/
theorem foldl_foldl (xs acc ys : List ByteArray) : (xs.foldl add ys).foldl add acc = xs.foldl add (ys.foldl add acc) := by
  induction xs generalizing ys with
  | nil => rfl
  | cons x xs ih =>
    rw [List.foldl_cons, ih, List.foldl_cons]
    congr 1
    by_cases h : has ys x = true
    · rw [add_of_has h, add_of_has]
      rw [has_foldl, h]; simp
    · have : add ys x = ys ++ [x] := by simp [add, h]
      rw [this, List.foldl_append]
      rfl

theorem models_again (xs : List ByteArray) : (xs.foldl add []).foldl add [] = xs.foldl add [] := foldl_foldl xs [] []

theorem models_flat (rs : List (List ByteArray)) : models (rs.flatten.map fun s => [s]) = models rs := by
  unfold models
  congr 1
  induction rs.flatten with
  | nil => rfl
  | cons x xs ih => rw [List.map_cons, List.flatten_cons, ih]; rfl

theorem models_one (xs : List ByteArray) : models [xs] = xs.foldl add [] := by simp [models]
theorem models_whole (rs : List (List ByteArray)) : models [models rs] = models rs := by rw [models_one]; exact models_again _

theorem models_split (rs : List (List ByteArray)) (k : Nat) : models rs = (models (rs.drop k)).foldl add (models (rs.take k)) := by
  have e : rs.flatten = (rs.take k).flatten ++ (rs.drop k).flatten := by rw [← List.flatten_append, List.take_append_drop]
  unfold models
  rw [foldl_foldl, e, List.foldl_append]
  rfl

theorem models_le (rs : List (List ByteArray)) : (models rs).length ≤ rs.flatten.length := by
  have := foldl_le rs.flatten []
  unfold models
  simpa using this

theorem has_models (rs : List (List ByteArray)) (t : ByteArray) : has (models rs) t = has rs.flatten t := by
  unfold models
  rw [has_foldl]
  simp [has]

theorem listed_flatten (rs : List (List ByteArray)) (t : ByteArray) : listed rs t = has rs.flatten t := by
  unfold listed has
  rw [List.any_flatten]

/-- No string twice. -/
def Once (xs : List ByteArray) : Prop := ∀ i j (hi : i < xs.length) (hj : j < xs.length), i < j → (xs[i].toList == xs[j].toList) = false

theorem once_add {acc : List ByteArray} (h : Once acc) (m : ByteArray) : Once (add acc m) := by
  unfold add
  split
  · exact h
  · rename_i hm
    intro i j hi hj hij
    simp only [List.length_append, List.length_cons, List.length_nil] at hi hj
    by_cases e : j < acc.length
    · have := h i j (by omega) e hij
      rw [List.getElem_append_left (by omega), List.getElem_append_left (by omega)]
      exact this
    · have hi' : i < acc.length := by omega
      rw [List.getElem_append_left hi', List.getElem_append_right (by omega)]
      simp only [List.getElem_singleton]
      cases hc : (acc[i].toList == m.toList) with
      | false => rfl
      | true =>
        exfalso
        apply hm
        rw [has_iff]
        exact ⟨acc[i], List.getElem_mem hi', by simpa using hc⟩

theorem once_foldl (xs acc : List ByteArray) (h : Once acc) : Once (xs.foldl add acc) := by
  induction xs generalizing acc with
  | nil => exact h
  | cons x xs ih => rw [List.foldl_cons]; exact ih _ (once_add h x)

theorem once_models (rs : List (List ByteArray)) : Once (models rs) := once_foldl _ _ (fun i j hi => by simp at hi)

theorem foldl_head (xs acc : List ByteArray) (x : ByteArray) (h : acc.head? = some x) : (xs.foldl add acc).head? = some x := by
  induction xs generalizing acc with
  | nil => exact h
  | cons y ys ih =>
    rw [List.foldl_cons]
    apply ih
    unfold add
    split
    · exact h
    · rw [List.head?_append, h]; rfl

theorem models_head (rs : List (List ByteArray)) : (models rs).head? = rs.flatten.head? := by
  unfold models
  cases h : rs.flatten with
  | nil => rfl
  | cons x xs =>
    rw [List.foldl_cons]
    exact foldl_head xs _ x rfl
end Go.Proofs.Qxb6626449a
