import Derived.Test.Qxb6626449aGuards
import Derived.SliceStrings
import Derived.Deep.Slices
import Derived.OpenShut
import Derived.ShutString
import Derived.ChangeOld
namespace Go.Proofs.Qxb6626449a
open Go.ChangeShapes Go.WideShapes Go.ChangeAt Go.RowKit

theorem own : ownKnob Try.prog.godebug = none := by kernel_rfl
theorem laidOut : laidOutB Try.prog = true := by kernel_rfl

/-- A slice of strings that came in, as the walk is told of it. -/
theorem open_SS {H : Type} {enc : TypeId × Value → H} {W : World} {base : Nat} {held : Bool} {ao : Option Addr} {len cap fuel : Nat} {x : DataW H × List MemPlace}
    (hf : DataW.trod enc Try.prog W base (fun _ => true) held fuel 25 [.slice ao len cap] = some x) :
    ∃ ss : List ByteArray, ss.length = len ∧ SS W ao ss ∧ (ao = none → ss = []) ∧ len ≤ cap ∧ cap ≤ maxLen := by
  rcases open_strings Try.underlying25 Try.underlying9 (by kernel_rfl) hf with ⟨hcs, _⟩ | ⟨a, l, c, ss, hcs, _, hl, hm, hz, _, hcell, _⟩
  · simp at hcs
    obtain ⟨rfl, rfl, rfl⟩ := hcs
    exact ⟨[], rfl, .inl rfl, fun _ => rfl, Nat.le_refl _, by simp⟩
  · simp at hcs
    obtain ⟨rfl, rfl, rfl⟩ := hcs
    simp only [if_true] at hz
    have hlen : (ss.take len).length = len := by rw [List.length_take]; omega
    refine ⟨ss.take len, hlen, ?_, (fun h => by cases h), hl, hm⟩
    by_cases h0 : len = 0
    · subst h0
      exact .inl (by simp)
    · obtain ⟨b, off, spot⟩ := a
      have hc := hcell 0 (by omega)
      have hspot : spot = none := by simpa [Addr.add] using World.cell?_spot hc
      subst hspot
      refine .inr ⟨b, off, rfl, fun k hk => ?_⟩
      rw [hlen] at hk
      have h1 := hcell k (by omega)
      rw [add_none] at h1
      rw [h1]
      simp [hk]

theorem is_slice {H : Type} {enc : TypeId × Value → H} {W : World} {base : Nat} {held : Bool} {v : Value} {fuel : Nat} {x : DataW H × List MemPlace}
    (hf : DataW.trod enc Try.prog W base (fun _ => true) held fuel 25 [v] = some x) : ∃ ao len cap, v = .slice ao len cap := by
  rcases open_strings Try.underlying25 Try.underlying9 (by kernel_rfl) hf with ⟨hcs, _⟩ | ⟨a, l, c, ss, hcs, _⟩
  · simp at hcs
    exact ⟨_, _, _, hcs⟩
  · simp at hcs
    exact ⟨_, _, _, hcs⟩

theorem choose_list {P : Nat → List ByteArray → Prop} : ∀ n, (∀ i, i < n → ∃ r, P i r) → ∃ rs : List (List ByteArray), rs.length = n ∧ ∀ i, i < n → P i (rs.getD i [])
  | 0, _ => ⟨[], rfl, fun i hi => by omega⟩
  | n + 1, h => by
    obtain ⟨rs, hl, hr⟩ := choose_list n fun i hi => h i (by omega)
    obtain ⟨r, hr'⟩ := h n (by omega)
    refine ⟨rs ++ [r], by simp [hl], fun i hi => ?_⟩
    by_cases e : i < n
    · have : (rs ++ [r]).getD i [] = rs.getD i [] := by unfold List.getD; rw [List.getElem?_append_left (by omega)]
      rw [this]
      exact hr i e
    · obtain rfl : i = n := by omega
      have : (rs ++ [r]).getD i [] = r := by unfold List.getD; rw [List.getElem?_append_right (by omega)]; simp [hl]
      rw [this]
      exact hr'

/-- A slice of slices of strings that came in, as the walk is told of it. -/
theorem open_RR {H : Type} {enc : TypeId × Value → H} {W : World} {base : Nat} {held : Bool} {ao : Option Addr} {len cap fuel : Nat} {x : DataW H × List MemPlace}
    (hf : DataW.trod enc Try.prog W base (fun _ => true) held fuel 22 [.slice ao len cap] = some x) :
    ∃ rs : List (List ByteArray), rs.length = len ∧ RR W ao rs ∧ len ≤ cap ∧ cap ≤ maxLen := by
  rcases Deep.open_slice1 Try.underlying22 (by kernel_rfl) hf with ⟨hcs, _⟩ | ⟨a, l, c, m, n, V, D, Pl, hcs, _, hl, hm, hmm, _, hx⟩
  · simp at hcs
    obtain ⟨rfl, rfl, rfl⟩ := hcs
    exact ⟨[], rfl, .inl rfl, Nat.le_refl _, by simp⟩
  · simp at hcs
    obtain ⟨rfl, rfl, rfl⟩ := hcs
    simp only [if_true] at hmm
    subst hmm
    obtain ⟨rs, hrl, hrs⟩ := choose_list (P := fun i r => ∃ ai ci, W.cell? (a.add i) = some (.slice ai r.length ci) ∧ SS W ai r ∧ r.length ≤ maxLen) len fun i hi => by
      obtain ⟨h1, h2⟩ := hx i (by omega)
      obtain ⟨ai, li, ci, hv⟩ := is_slice h2
      rw [hv] at h1 h2
      obtain ⟨ss, hsl, hS, _, h3, h4⟩ := open_SS h2
      exact ⟨ss, ai, ci, by rw [hsl]; exact h1, hS, by omega⟩
    refine ⟨rs, hrl, ?_, hl, hm⟩
    by_cases h0 : len = 0
    · subst h0
      exact .inl (List.eq_nil_of_length_eq_zero hrl)
    · obtain ⟨b, off, spot⟩ := a
      have hc := (hx 0 (by omega)).1
      have hspot : spot = none := by simpa [Addr.add] using World.cell?_spot hc
      subst hspot
      refine .inr ⟨b, off, rfl, fun k hk => ?_⟩
      have := hrs k (by omega)
      rw [add_none] at this
      exact this
end Go.Proofs.Qxb6626449a
