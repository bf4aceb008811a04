import Derived.Test.Qxb6626483aFmtPlain
namespace Go.Proofs.Qxb6626483aFmt
open Go.ChangeShapes Go.WideShapes Go.ChangeAt Go.RowKit

/-- The list of releases with one more put in at place k. -/
def insAt (rs : List (Nat × ByteArray)) (k : Nat) (r : Nat × ByteArray) : List (Nat × ByteArray) := rs.take k ++ [r] ++ rs.drop k

theorem insAt_length (rs : List (Nat × ByteArray)) (k : Nat) (r : Nat × ByteArray) : (insAt rs k r).length = rs.length + 1 := by
  unfold insAt
  simp only [List.length_append, List.length_take, List.length_drop, List.length_cons, List.length_nil]
  omega

theorem tb_insAt (rs : List (Nat × ByteArray)) (k : Nat) (r : Nat × ByteArray) : tb ((insAt rs k r).map (·.2)) = tb (rs.map (·.2)) + (16 + r.2.size) := by
  have e : tb (rs.map (·.2)) = tb ((rs.take k).map (·.2)) + tb ((rs.drop k).map (·.2)) := by
    rw [← tb_append, ← List.map_append, List.take_append_drop]
  unfold insAt
  rw [List.map_append, List.map_append, tb_append, tb_append, e]
  simp only [List.map_cons, List.map_nil, tb]
  omega

theorem look_one (r : Nat × ByteArray) (v : ByteArray) : look [r] v = if (r.2.toList == v.toList) then some r.1 else none := by
  unfold look
  rw [List.find?_cons]
  cases (r.2.toList == v.toList) <;> rfl

theorem look_split (rs : List (Nat × ByteArray)) (k : Nat) (v : ByteArray) : look rs v = (look (rs.take k) v).or (look (rs.drop k) v) := by
  rw [← look_append, List.take_append_drop]

theorem look_ne (rs : List (Nat × ByteArray)) (k : Nat) (r : Nat × ByteArray) (v : ByteArray) (h : (r.2.toList == v.toList) = false) : look (insAt rs k r) v = look rs v := by
  unfold insAt
  rw [look_append, look_append, look_one, h, look_split rs k v]
  simp

theorem look_ins (rs : List (Nat × ByteArray)) (k : Nat) (r : Nat × ByteArray) (v : ByteArray) (h : (r.2.toList == v.toList) = true) (hno : look (rs.take k) v = none) : look (insAt rs k r) v = some r.1 := by
  unfold insAt
  rw [look_append, look_append, look_one, h, hno]
  rfl

theorem look_early (rs : List (Nat × ByteArray)) (k : Nat) (r : Nat × ByteArray) (v : ByteArray) {g : Nat} (h : look (rs.take k) v = some g) : look (insAt rs k r) v = some g := by
  unfold insAt
  rw [look_append, look_append, h]
  rfl

theorem look_take_none {rs : List (Nat × ByteArray)} {ss : List ByteArray} (hm : rs.map (·.2) = ss) {v : ByteArray} {j k : Nat} (h : fst? ss v = some j) (hkj : k ≤ j) : look (rs.take k) v = none := by
  subst hm
  unfold fst? at h
  rw [List.findIdx?_eq_some_iff_getElem] at h
  obtain ⟨hk, hy, hno⟩ := h
  unfold look
  rw [Option.map_eq_none_iff, List.find?_eq_none]
  intro x hx
  obtain ⟨i, hi, rfl⟩ := List.mem_take_iff_getElem.1 hx
  have := hno i (by omega)
  simpa using this

theorem look_take_none' {rs : List (Nat × ByteArray)} {ss : List ByteArray} (hm : rs.map (·.2) = ss) {v : ByteArray} (k : Nat) (h : fst? ss v = none) : look (rs.take k) v = none := by
  have h1 := look_of_none hm h
  rw [look_split rs k v] at h1
  cases hh : look (rs.take k) v with
  | none => rfl
  | some g => rw [hh] at h1; cases h1

theorem look_take_some {rs : List (Nat × ByteArray)} {ss : List ByteArray} (hm : rs.map (·.2) = ss) {v : ByteArray} {j k : Nat} (h : fst? ss v = some j) (hjk : j < k) : look (rs.take k) v = some (rs.getD j z0).1 := by
  obtain ⟨hj, _⟩ := look_of_fst hm h
  have hno := look_take_none hm h (Nat.le_refl j)
  have hy : ((rs.getD j z0).2.toList == v.toList) = true := by
    subst hm
    unfold fst? at h
    rw [List.findIdx?_eq_some_iff_getElem] at h
    obtain ⟨hk, hy, _⟩ := h
    rw [snd_get hj]
    exact hy
  have hl : j < (rs.take k).length := by rw [List.length_take]; omega
  have e : (rs.take k).getD j z0 = rs.getD j z0 := by simp [hjk]
  have := look_found (rs := rs.take k) (t := v) hl (by rw [List.take_take, Nat.min_eq_left (by omega)]; exact hno) (by rw [e]; exact hy)
  rw [e] at this
  exact this

theorem PS.take {w : World} {ao : Option Addr} {rs : List (Nat × ByteArray)} (h : PS w ao rs) (j : Nat) : PS w ao (rs.take j) := by
  rcases h with rfl | ⟨b, off, rfl, hc⟩
  · exact .inl (by simp)
  · refine .inr ⟨b, off, rfl, fun k hk => ?_⟩
    rw [List.length_take] at hk
    have e : (rs.take j).getD k z0 = rs.getD k z0 := by simp [show k < j by omega]
    rw [e]
    exact hc k (by omega)

theorem PS.drop {w : World} {ao ad : Option Addr} {b off : Nat} {rs : List (Nat × ByteArray)} (h : PS w ao rs) (hao : ao = some ⟨b, off, none⟩) (j : Nat) (had : j < rs.length → ad = some ⟨b, off + j, none⟩) : PS w ad (rs.drop j) := by
  by_cases hj : j < rs.length
  · rcases h with rfl | ⟨b', off', h1, hc⟩
    · simp at hj
    · rw [hao] at h1
      cases h1
      refine .inr ⟨b, off + j, had hj, fun k hk => ?_⟩
      rw [List.length_drop] at hk
      have e : (rs.drop j).getD k z0 = rs.getD (j + k) z0 := by simp [List.getElem?_drop]
      rw [e, Nat.add_assoc]
      exact hc (j + k) (by omega)
  · exact .inl (List.drop_eq_nil_of_le (by omega))

def boxes2 (w : World) (d : ByteArray) (v1 v2 : Value) : World := (w.alloc (.cells #[.string d, v1] 29)).alloc (.cells #[.string d, v2] 29)
theorem boxes2_size (w : World) (d : ByteArray) (v1 v2 : Value) : (boxes2 w d v1 v2).heap.size = w.heap.size + 2 := by simp [boxes2]
theorem boxes2_below (w : World) (d : ByteArray) (v1 v2 : Value) : Below w.heap.size w (boxes2 w d v1 v2) :=
  ((Below.refl _ _).alloc (Nat.le_refl _) _).alloc (by simp) _

theorem two_boxes (w5 : World) (d t : ByteArray) (a1 a2 : Option Addr) (n1 c1 n2 c2 : Nat) (r1 r2 : List (Nat × ByteArray)) (hP1 : PS w5 a1 r1) (hP2 : PS w5 a2 r2) (h1 : r1.length = n1) (h2 : r2.length = n2)
    (t1 : tb (r1.map (·.2)) ≤ 2097152) (t2 : tb (r2.map (·.2)) ≤ 2097152) :
    ∀ wx, Below (w5.heap.size + 2) (boxes2 w5 d (.slice a1 n1 c1) (.slice a2 n2 c2)) wx →
      (Calls Tryf.prog 8 #[.pointer (some ⟨w5.heap.size, 0, none⟩), .string t] wx fun e w' => RetF (look r1 t) e ∧ Below wx.heap.size wx w') ∧
      (Calls Tryf.prog 8 #[.pointer (some ⟨w5.heap.size + 1, 0, none⟩), .string t] wx fun e w' => RetF (look r2 t) e ∧ Below wx.heap.size wx w') := by
  intro wx hb
  have hb5 : Below w5.heap.size w5 wx := (boxes2_below w5 d _ _).trans (hb.mono (by omega))
  have s1 : (w5.alloc (.cells #[.string d, .slice a1 n1 c1] 29)).heap.size = w5.heap.size + 1 := by simp
  have g1 : Below (w5.heap.size + 1) (w5.alloc (.cells #[.string d, .slice a1 n1 c1] 29)) wx :=
    ((Below.refl _ _).alloc (by rw [s1]; exact Nat.le_refl _) _).trans (hb.mono (by omega))
  have g2 : Below (w5.heap.size + 1 + 1) ((w5.alloc (.cells #[.string d, .slice a1 n1 c1] 29)).alloc (.cells #[.string d, .slice a2 n2 c2] 29)) wx := hb
  refine ⟨find_at g1 h1 (hP1.below hb5) t1, ?_⟩
  rw [← s1] at g2 ⊢
  exact find_at g2 h2 (hP2.below hb5) t2

/-- The release that is laid. -/
theorem rel1 (W : World) (x u : ByteArray) (v : Value) : (W.alloc (.cells #[.string x, .string u, v] 39)).cell? ⟨W.heap.size, 1, none⟩ = some (.string u) := by
  simp only [World.cell?, heap_alloc_new]; rfl
end Go.Proofs.Qxb6626483aFmt
