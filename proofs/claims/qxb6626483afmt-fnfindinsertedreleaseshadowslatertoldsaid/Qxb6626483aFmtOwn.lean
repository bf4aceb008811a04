import Derived.Test.Qxb6626483aFmtRows
import Derived.WalkKit
import Derived.WalkLawsBesides
import Derived.WalkSpells
import Derived.ProofKit
import Derived.Laws.CopyOwn
namespace Go.Proofs.Qxb6626483aFmt
open Go.ChangeShapes Go.WideShapes Go.ChangeAt Go.RowKit

/-- What the walk is told of a slice of strings: it is empty, or it leads to a row whose first cells hold the strings. -/
def SS (w : World) (ao : Option Addr) (ss : List ByteArray) : Prop :=
  ss = [] ∨ ∃ b off, ao = some ⟨b, off, none⟩ ∧ ∀ k, k < ss.length → w.cell? ⟨b, off + k, none⟩ = some (.string (ss.getD k ByteArray.empty))

/-- The membership that 'Contains' computes. -/
def has (ss : List ByteArray) (t : ByteArray) : Bool := ss.any fun s => s.toList == t.toList

theorem has_take_succ (ss : List ByteArray) (t : ByteArray) (k : Nat) (hk : k < ss.length) :
    has (ss.take (k + 1)) t = (has (ss.take k) t || (ss[k].toList == t.toList)) := by
  unfold has
  rw [List.take_succ_eq_append_getElem hk, List.any_append]
  simp only [List.any_cons, List.any_nil, Bool.or_false]

theorem has_of_take (ss : List ByteArray) (t : ByteArray) (k : Nat) (h : has (ss.take k) t = true) : has ss t = true := by
  unfold has at *
  rw [List.any_eq_true] at *
  obtain ⟨x, hx, hy⟩ := h
  exact ⟨x, List.mem_of_mem_take hx, hy⟩

theorem ret_bool {a b : Bool} (h : a = b) : Ending.returned (.bool a) = .returned (.bool b) := by rw [h]

/-- The call returns some bool. -/
def RetB (e : Ending) : Prop := ∃ r, e = .returned (.bool r)
theorem RetB.mk (r : Bool) : RetB (.returned (.bool r)) := ⟨r, rfl⟩

theorem info9 : (Tryf.prog.info? 9).map (fun i => (i.zero, i.size, i.bytes)) = some (some (.string ByteArray.empty), 1, 16) := by kernel_rfl
theorem size9 : (Tryf.prog.info? 9).map (·.size) = some 1 := by kernel_rfl

theorem add_none (b off j : Nat) : (⟨b, off, none⟩ : Addr).add j = ⟨b, off + j, none⟩ := by unfold Addr.add; split <;> simp_all

/-- Strings as cells. -/
def cellsOf (ss : List ByteArray) : List Value := ss.map Value.string
theorem cellsOf_length (ss : List ByteArray) : (cellsOf ss).length = ss.length := by simp [cellsOf]
theorem cellsOf_get {ss : List ByteArray} {j : Nat} {u : Value} (h : (cellsOf ss)[j]? = some u) : j < ss.length ∧ u = .string (ss.getD j ByteArray.empty) := by
  unfold cellsOf at h
  rw [List.getElem?_map, Option.map_eq_some_iff] at h
  obtain ⟨s, h1, rfl⟩ := h
  obtain ⟨h2, h3⟩ := List.getElem?_eq_some_iff.1 h1
  exact ⟨h2, by rw [List.getD, h1]; rfl⟩
theorem cellsOf_one (ss : List ByteArray) : ∀ u ∈ cellsOf ss, u.oneCell' = true := by
  intro u hu
  obtain ⟨s, _, rfl⟩ := List.mem_map.1 hu
  rfl
theorem cellsOf_append (a b : List ByteArray) : cellsOf (a ++ b) = cellsOf a ++ cellsOf b := by simp [cellsOf]

theorem SS.below {w w' : World} {ao : Option Addr} {ss : List ByteArray} (h : SS w ao ss) (hb : Below w.heap.size w w') : SS w' ao ss := by
  rcases h with h | ⟨b, off, rfl, hc⟩
  · exact .inl h
  · refine .inr ⟨b, off, rfl, fun k hk => ?_⟩
    have := hc k hk
    rw [hb.cell (p := ⟨b, off + k, none⟩) (World.block_lt_of_cell? w _ this)]
    exact this

theorem SS.cellsAt {w : World} {ao : Option Addr} {ss : List ByteArray} (h : SS w ao ss) (hp : 0 < ss.length) : ∃ ad, ao = some ad ∧ ∀ j v, (cellsOf ss)[j]? = some v → w.cell? (ad.add j) = some v := by
  rcases h with rfl | ⟨b, off, rfl, hc⟩
  · simp at hp
  · refine ⟨_, rfl, fun j v hv => ?_⟩
    obtain ⟨h1, rfl⟩ := cellsOf_get hv
    rw [add_none]
    exact hc j h1

theorem owns_shape {w : World} {base : Nat} {e : TypeId} {v : Value} {n : Nat} {xs : List Value} (h : w.ownsRow base e 1 v n xs) : ∃ ao c, v = .slice ao n c ∧ n ≤ c := by
  rcases h.2 with ⟨rfl, rfl⟩ | ⟨g, cap, cur, rfl, _, _, hc, _⟩
  · exact ⟨_, _, rfl, Nat.le_refl _⟩
  · exact ⟨_, _, rfl, hc⟩

theorem owns_SS {w : World} {base : Nat} {e : TypeId} {ao : Option Addr} {n c : Nat} {ss : List ByteArray} (h : w.ownsRow base e 1 (.slice ao n c) n (cellsOf ss)) : n = ss.length ∧ SS w ao ss := by
  have hl := h.1
  rw [cellsOf_length] at hl
  refine ⟨by omega, ?_⟩
  rcases h.2 with ⟨h1, rfl⟩ | ⟨g, cap, cur, h1, _, _, hc, _⟩
  · exact .inl (List.eq_nil_of_length_eq_zero (by omega))
  · simp only [Value.slice.injEq] at h1
    obtain ⟨rfl, _, rfl⟩ := h1
    refine .inr ⟨g, 0, rfl, fun k hk => ?_⟩
    have := h.cells (g := g) rfl k (.string (ss.getD k ByteArray.empty)) (by
      unfold cellsOf
      rw [List.getElem?_map, List.getElem?_eq_getElem hk]
      simp [hk])
    rw [add_none] at this
    exact this

theorem row_open {w : World} {base : Nat} {e : TypeId} {g n c : Nat} {xs : List Value} (h : w.ownsRow base e 1 (.slice (some ⟨g, 0, none⟩) n c) n xs) :
    base ≤ g ∧ ∃ cur : List Value, w.heap[g]? = some (.cells cur.toArray e (0, 0)) ∧ cur.length = c ∧ c ≤ maxLen := by
  rcases h.2 with ⟨h1, _⟩ | ⟨g', cap, cur, h1, hb, hg, _, hm, hs, _⟩
  · simp at h1
  · simp only [Value.slice.injEq, Option.some.injEq, Addr.mk.injEq, and_true, true_and] at h1
    obtain ⟨rfl, rfl⟩ := h1
    exact ⟨hb, cur.toList, by simpa using hg, by simpa using hs, hm⟩

theorem row_SS {w : World} {g : Nat} {e : TypeId} {cur : List Value} {ss : List ByteArray} (hl : cur.length = ss.length) (h : w.heap[g]? = some (.cells (splice cur 0 (cellsOf ss)).toArray e (0, 0))) :
    SS w (some ⟨g, 0, none⟩) ss := by
  have e1 : splice cur 0 (cellsOf ss) = cellsOf ss := by
    unfold splice
    rw [List.drop_eq_nil_of_le (by rw [cellsOf_length]; omega)]
    simp
  rw [e1] at h
  refine .inr ⟨g, 0, rfl, fun k hk => ?_⟩
  have : (cellsOf ss)[k]? = some (.string (ss.getD k ByteArray.empty)) := by
    unfold cellsOf
    rw [List.getElem?_map, List.getElem?_eq_getElem hk]
    simp [hk]
  simp only [World.cell?, h]
  simpa using this


theorem has_append (a b : List ByteArray) (t : ByteArray) : has (a ++ b) t = (has a t || has b t) := by
  unfold has; exact List.any_append

open Go.RowKit in
theorem hide {p : Prop} (h : p) : Hid p := h

theorem SS.take {w : World} {ao : Option Addr} {ss : List ByteArray} (h : SS w ao ss) (j : Nat) : SS w ao (ss.take j) := by
  rcases h with rfl | ⟨b, off, rfl, hc⟩
  · exact .inl (by simp)
  · refine .inr ⟨b, off, rfl, fun k hk => ?_⟩
    rw [List.length_take] at hk
    rw [hc k (by omega)]
    simp [show k < j by omega]

theorem SS.drop {w : World} {ao ad : Option Addr} {b off : Nat} {ss : List ByteArray} (h : SS w ao ss) (hao : ao = some ⟨b, off, none⟩) (j : Nat) (had : j < ss.length → ad = some ⟨b, off + j, none⟩) : SS w ad (ss.drop j) := by
  by_cases hj : j < ss.length
  · rcases h with rfl | ⟨b', off', h1, hc⟩
    · simp at hj
    · rw [hao] at h1
      cases h1
      refine .inr ⟨b, off + j, had hj, fun k hk => ?_⟩
      rw [List.length_drop] at hk
      rw [Nat.add_assoc, hc (j + k) (by omega)]
      simp [List.getElem?_drop]
  · exact .inl (List.drop_eq_nil_of_le (by omega))
theorem SS.at {w : World} {ao : Option Addr} {ss : List ByteArray} (h : SS w ao ss) {k : Nat} (hk : k < ss.length) :
    ∃ b off, ao = some ⟨b, off, none⟩ ∧ w.cell? ⟨b, off + k, none⟩ = some (.string (ss.getD k ByteArray.empty)) := by
  rcases h with rfl | ⟨b, off, rfl, hc⟩
  · simp at hk
  · exact ⟨b, off, rfl, hc k hk⟩
end Go.Proofs.Qxb6626483aFmt
