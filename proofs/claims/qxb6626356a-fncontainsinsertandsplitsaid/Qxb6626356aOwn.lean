import Derived.Test.Qxb6626356aBase
import Derived.Laws.CopyOwn
namespace Go.Proofs.Qxb6626356a
open Go.ChangeShapes Go.WideShapes Go.ChangeAt Go.RowKit

theorem info9 : (Try.prog.info? 9).map (fun i => (i.zero, i.size, i.bytes)) = some (some (.string ByteArray.empty), 1, 16) := by kernel_rfl
theorem size9 : (Try.prog.info? 9).map (·.size) = some 1 := by kernel_rfl

theorem add_none (b off j : Nat) : (⟨b, off, none⟩ : Addr).add j = ⟨b, off + j, none⟩ := by unfold Addr.add; split <;> simp_all

/-- Strings as cells. -/
def cellsOf (ss : List ByteArray) : List Value := ss.map Value.string
theorem cellsOf_length (ss : List ByteArray) : (cellsOf ss).length = ss.length := by simp [cellsOf]
theorem cellsOf_get {ss : List ByteArray} {j : Nat} {u : Value} (h : (cellsOf ss)[j]? = some u) : j < ss.length ∧ u = .string (ss.getD j ByteArray.empty) := by
  unfold cellsOf at h
  rw [List.getElem?_map, Option.map_eq_some_iff] at h
  obtain ⟨s, h1, rfl⟩ := h
  obtain ⟨h2, h3⟩ := List.getElem?_eq_some_iff.1 h1
  exact ⟨h2, by rw [List.getD, h1]; rfl⟩
theorem cellsOf_one (ss : List ByteArray) : ∀ u ∈ cellsOf ss, u.oneCell' = true := by
  intro u hu
  obtain ⟨s, _, rfl⟩ := List.mem_map.1 hu
  rfl
theorem cellsOf_append (a b : List ByteArray) : cellsOf (a ++ b) = cellsOf a ++ cellsOf b := by simp [cellsOf]

theorem SS.below {w w' : World} {ao : Option Addr} {ss : List ByteArray} (h : SS w ao ss) (hb : Below w.heap.size w w') : SS w' ao ss := by
  rcases h with h | ⟨b, off, rfl, hc⟩
  · exact .inl h
  · refine .inr ⟨b, off, rfl, fun k hk => ?_⟩
    have := hc k hk
    rw [hb.cell (p := ⟨b, off + k, none⟩) (World.block_lt_of_cell? w _ this)]
    exact this

theorem SS.cellsAt {w : World} {ao : Option Addr} {ss : List ByteArray} (h : SS w ao ss) (hp : 0 < ss.length) : ∃ ad, ao = some ad ∧ ∀ j v, (cellsOf ss)[j]? = some v → w.cell? (ad.add j) = some v := by
  rcases h with rfl | ⟨b, off, rfl, hc⟩
  · simp at hp
  · refine ⟨_, rfl, fun j v hv => ?_⟩
    obtain ⟨h1, rfl⟩ := cellsOf_get hv
    rw [add_none]
    exact hc j h1

theorem owns_shape {w : World} {base : Nat} {e : TypeId} {v : Value} {n : Nat} {xs : List Value} (h : w.ownsRow base e 1 v n xs) : ∃ ao c, v = .slice ao n c ∧ n ≤ c := by
  rcases h.2 with ⟨rfl, rfl⟩ | ⟨g, cap, cur, rfl, _, _, hc, _⟩
  · exact ⟨_, _, rfl, Nat.le_refl _⟩
  · exact ⟨_, _, rfl, hc⟩

theorem owns_SS {w : World} {base : Nat} {e : TypeId} {ao : Option Addr} {n c : Nat} {ss : List ByteArray} (h : w.ownsRow base e 1 (.slice ao n c) n (cellsOf ss)) : n = ss.length ∧ SS w ao ss := by
  have hl := h.1
  rw [cellsOf_length] at hl
  refine ⟨by omega, ?_⟩
  rcases h.2 with ⟨h1, rfl⟩ | ⟨g, cap, cur, h1, _, _, hc, _⟩
  · exact .inl (List.eq_nil_of_length_eq_zero (by omega))
  · simp only [Value.slice.injEq] at h1
    obtain ⟨rfl, _, rfl⟩ := h1
    refine .inr ⟨g, 0, rfl, fun k hk => ?_⟩
    have := h.cells (g := g) rfl k (.string (ss.getD k ByteArray.empty)) (by
      unfold cellsOf
      rw [List.getElem?_map, List.getElem?_eq_getElem hk]
      simp [hk])
    rw [add_none] at this
    exact this

theorem row_open {w : World} {base : Nat} {e : TypeId} {g n c : Nat} {xs : List Value} (h : w.ownsRow base e 1 (.slice (some ⟨g, 0, none⟩) n c) n xs) :
    base ≤ g ∧ ∃ cur : List Value, w.heap[g]? = some (.cells cur.toArray e (0, 0)) ∧ cur.length = c ∧ c ≤ maxLen := by
  rcases h.2 with ⟨h1, _⟩ | ⟨g', cap, cur, h1, hb, hg, _, hm, hs, _⟩
  · simp at h1
  · simp only [Value.slice.injEq, Option.some.injEq, Addr.mk.injEq, and_true, true_and] at h1
    obtain ⟨rfl, rfl⟩ := h1
    exact ⟨hb, cur.toList, by simpa using hg, by simpa using hs, hm⟩

theorem row_SS {w : World} {g : Nat} {e : TypeId} {cur : List Value} {ss : List ByteArray} (hl : cur.length = ss.length) (h : w.heap[g]? = some (.cells (splice cur 0 (cellsOf ss)).toArray e (0, 0))) :
    SS w (some ⟨g, 0, none⟩) ss := by
  have e1 : splice cur 0 (cellsOf ss) = cellsOf ss := by
    unfold splice
    rw [List.drop_eq_nil_of_le (by rw [cellsOf_length]; omega)]
    simp
  rw [e1] at h
  refine .inr ⟨g, 0, rfl, fun k hk => ?_⟩
  have : (cellsOf ss)[k]? = some (.string (ss.getD k ByteArray.empty)) := by
    unfold cellsOf
    rw [List.getElem?_map, List.getElem?_eq_getElem hk]
    simp [hk]
  simp only [World.cell?, h]
  simpa using this

end Go.Proofs.Qxb6626356a
