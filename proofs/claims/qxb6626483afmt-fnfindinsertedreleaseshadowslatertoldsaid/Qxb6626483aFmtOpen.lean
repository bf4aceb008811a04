import Derived.Test.Qxb6626483aFmtOwn
import Derived.SliceStrings
import Derived.OpenShut
import Derived.ShutString
import Derived.ChangeOld
namespace Go.Proofs.Qxb6626483aFmt
open Go.ChangeShapes Go.WideShapes Go.ChangeAt Go.RowKit

theorem own : ownKnob Tryf.prog.godebug = none := by kernel_rfl
theorem laidOut : laidOutB Tryf.prog = true := by kernel_rfl

/-- A slice of strings that came in, as the walk is told of it. -/
theorem open_SS {H : Type} {enc : TypeId × Value → H} {W : World} {base : Nat} {held : Bool} {ao : Option Addr} {len cap fuel : Nat} {x : DataW H × List MemPlace}
    (hf : DataW.trod enc Tryf.prog W base (fun _ => true) held fuel 22 [.slice ao len cap] = some x) :
    ∃ ss : List ByteArray, ss.length = len ∧ SS W ao ss ∧ (ao = none → ss = []) ∧ len ≤ cap ∧ cap ≤ maxLen := by
  rcases open_strings Tryf.underlying22 Tryf.underlying9 (by kernel_rfl) hf with ⟨hcs, _⟩ | ⟨a, l, c, ss, hcs, _, hl, hm, hz, _, hcell, _⟩
  · simp at hcs
    obtain ⟨rfl, rfl, rfl⟩ := hcs
    exact ⟨[], rfl, .inl rfl, fun _ => rfl, Nat.le_refl _, by simp⟩
  · simp at hcs
    obtain ⟨rfl, rfl, rfl⟩ := hcs
    simp only [if_true] at hz
    have hlen : (ss.take len).length = len := by rw [List.length_take]; omega
    refine ⟨ss.take len, hlen, ?_, (fun h => by cases h), hl, hm⟩
    by_cases h0 : len = 0
    · subst h0
      exact .inl (by simp)
    · obtain ⟨b, off, spot⟩ := a
      have hc := hcell 0 (by omega)
      have hspot : spot = none := by simpa [Addr.add] using World.cell?_spot hc
      subst hspot
      refine .inr ⟨b, off, rfl, fun k hk => ?_⟩
      rw [hlen] at hk
      have h1 := hcell k (by omega)
      rw [add_none] at h1
      rw [h1]
      simp [hk]
end Go.Proofs.Qxb6626483aFmt
