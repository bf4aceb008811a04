import Derived.Test.Qxb6626483aFmtFind
namespace Go.Proofs.Qxb6626483aFmt
open Go.ChangeShapes Go.WideShapes Go.ChangeAt Go.RowKit

theorem look_of_fst {rs : List (Nat × ByteArray)} {ss : List ByteArray} (hm : rs.map (·.2) = ss) {v : ByteArray} {k : Nat} (h : fst? ss v = some k) : k < rs.length ∧ look rs v = some (rs.getD k z0).1 := by
  subst hm
  unfold fst? at h
  rw [List.findIdx?_eq_some_iff_getElem] at h
  obtain ⟨hk, hy, hno⟩ := h
  have hk' : k < rs.length := by rwa [List.length_map] at hk
  refine ⟨hk', look_found hk' ?_ ?_⟩
  · unfold look
    rw [Option.map_eq_none_iff, List.find?_eq_none]
    intro x hx
    obtain ⟨j, hj, rfl⟩ := List.mem_take_iff_getElem.1 hx
    have := hno j (by omega)
    simpa using this
  · rw [snd_get hk']
    exact hy

theorem look_of_none {rs : List (Nat × ByteArray)} {ss : List ByteArray} (hm : rs.map (·.2) = ss) {v : ByteArray} (h : fst? ss v = none) : look rs v = none := by
  subst hm
  unfold fst? at h
  rw [List.findIdx?_eq_none_iff] at h
  unfold look
  rw [Option.map_eq_none_iff, List.find?_eq_none]
  intro x hx
  have := h x.2 (List.mem_map_of_mem hx)
  simpa using this

theorem look_append (a b : List (Nat × ByteArray)) (v : ByteArray) : look (a ++ b) v = (look a v).or (look b v) := by
  unfold look
  rw [List.find?_append]
  cases List.find? (fun r => r.2.toList == v.toList) a <;> rfl

/-- The Payloads that is laid. -/
theorem box0 (W : World) (d : ByteArray) (v : Value) : (W.alloc (.cells #[.string d, v] 29)).cell? ⟨W.heap.size, 0, none⟩ = some (.string d) := by
  simp only [World.cell?, heap_alloc_new]; rfl
theorem box1 (W : World) (d : ByteArray) (v : Value) : (W.alloc (.cells #[.string d, v] 29)).cell? ⟨W.heap.size, 1, none⟩ = some v := by
  simp only [World.cell?, heap_alloc_new]; rfl

/-- Find at a Payloads that was laid at W's end, asked in any later world. -/
theorem find_at {W wx : World} {d t : ByteArray} {ao : Option Addr} {n c : Nat} {rs : List (Nat × ByteArray)} (hb : Below (W.heap.size + 1) (W.alloc (.cells #[.string d, .slice ao n c] 29)) wx) (hn : rs.length = n) (hP : PS wx ao rs) (htb : tb (rs.map (·.2)) ≤ 2097152) :
    Calls Tryf.prog 8 #[.pointer (some ⟨W.heap.size, 0, none⟩), .string t] wx fun e w' => RetF (look rs t) e ∧ Below wx.heap.size wx w' := by
  subst hn
  exact find8 W.heap.size d ao c rs t wx ((hb.cell (p := ⟨W.heap.size, 0, none⟩) (Nat.lt_succ_self _)).trans (box0 W d _)) ((hb.cell (p := ⟨W.heap.size, 1, none⟩) (Nat.lt_succ_self _)).trans (box1 W d _)) hP htb

def boxes3 (w : World) (d : ByteArray) (v1 v2 v3 : Value) : World := ((w.alloc (.cells #[.string d, v1] 29)).alloc (.cells #[.string d, v2] 29)).alloc (.cells #[.string d, v3] 29)
theorem boxes3_size (w : World) (d : ByteArray) (v1 v2 v3 : Value) : (boxes3 w d v1 v2 v3).heap.size = w.heap.size + 3 := by simp [boxes3]
theorem boxes3_below (w : World) (d : ByteArray) (v1 v2 v3 : Value) : Below w.heap.size w (boxes3 w d v1 v2 v3) :=
  (((Below.refl _ _).alloc (Nat.le_refl _) _).alloc (by simp) _).alloc (by simp; omega) _

theorem three_boxes (w5 : World) (d t : ByteArray) (a1 a2 a3 : Option Addr) (n1 c1 n2 c2 n3 c3 : Nat) (r1 r2 r3 : List (Nat × ByteArray)) (hP1 : PS w5 a1 r1) (hP2 : PS w5 a2 r2) (hP3 : PS w5 a3 r3) (h1 : r1.length = n1) (h2 : r2.length = n2) (h3 : r3.length = n3)
    (t1 : tb (r1.map (·.2)) ≤ 2097152) (t2 : tb (r2.map (·.2)) ≤ 2097152) (t3 : tb (r3.map (·.2)) ≤ 2097152) :
    ∀ wx, Below (w5.heap.size + 3) (boxes3 w5 d (.slice a1 n1 c1) (.slice a2 n2 c2) (.slice a3 n3 c3)) wx →
      (Calls Tryf.prog 8 #[.pointer (some ⟨w5.heap.size, 0, none⟩), .string t] wx fun e w' => RetF (look r1 t) e ∧ Below wx.heap.size wx w') ∧
      (Calls Tryf.prog 8 #[.pointer (some ⟨w5.heap.size + 1, 0, none⟩), .string t] wx fun e w' => RetF (look r2 t) e ∧ Below wx.heap.size wx w') ∧
      (Calls Tryf.prog 8 #[.pointer (some ⟨w5.heap.size + 1 + 1, 0, none⟩), .string t] wx fun e w' => RetF (look r3 t) e ∧ Below wx.heap.size wx w') := by
  intro wx hb
  have hb5 : Below w5.heap.size w5 wx := (boxes3_below w5 d _ _ _).trans (hb.mono (by omega))
  have s1 : (w5.alloc (.cells #[.string d, .slice a1 n1 c1] 29)).heap.size = w5.heap.size + 1 := by simp
  have s2 : ((w5.alloc (.cells #[.string d, .slice a1 n1 c1] 29)).alloc (.cells #[.string d, .slice a2 n2 c2] 29)).heap.size = w5.heap.size + 1 + 1 := by simp
  have g1 : Below (w5.heap.size + 1) (w5.alloc (.cells #[.string d, .slice a1 n1 c1] 29)) wx :=
    (((Below.refl _ _).alloc (by rw [s1]; exact Nat.le_refl _) _).alloc (by rw [s2]; omega) _).trans (hb.mono (by omega))
  have g2 : Below (w5.heap.size + 1 + 1) ((w5.alloc (.cells #[.string d, .slice a1 n1 c1] 29)).alloc (.cells #[.string d, .slice a2 n2 c2] 29)) wx :=
    ((Below.refl _ _).alloc (by rw [s2]; exact Nat.le_refl _) _).trans (hb.mono (by omega))
  have g3 : Below (w5.heap.size + 1 + 1 + 1) (((w5.alloc (.cells #[.string d, .slice a1 n1 c1] 29)).alloc (.cells #[.string d, .slice a2 n2 c2] 29)).alloc (.cells #[.string d, .slice a3 n3 c3] 29)) wx := hb
  refine ⟨find_at g1 h1 (hP1.below hb5) t1, ?_, ?_⟩
  · rw [← s1] at g2 ⊢
    exact find_at g2 h2 (hP2.below hb5) t2
  · rw [← s2] at g3 ⊢
    exact find_at g3 h3 (hP3.below hb5) t3
end Go.Proofs.Qxb6626483aFmt
