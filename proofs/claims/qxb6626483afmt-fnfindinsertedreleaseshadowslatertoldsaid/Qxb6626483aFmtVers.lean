import Derived.Test.Qxb6626483aFmtRels
import Derived.Test.Qxb6626483aFmtShelf
import Derived.Sort.OwnSorted
namespace Go.Proofs.Qxb6626483aFmt
open Go.ChangeShapes Go.WideShapes Go.ChangeAt Go.RowKit Go.Sort

theorem tb_perm {a b : List ByteArray} (h : a.Perm b) : tb a = tb b := by
  induction h with
  | nil => rfl
  | cons x _ ih => simp only [tb, ih]
  | swap x y l => simp only [tb]; omega
  | trans _ _ ih1 ih2 => rw [ih1, ih2]

theorem lens_tb (us : List ByteArray) : Lib.lens (us.map (·.data.toList)) + 16 * us.length = tb us := by
  induction us with
  | nil => rfl
  | cons x xs ih =>
    simp only [Lib.lens, List.map_cons, List.sum_cons, List.length_cons, tb] at *
    have e : x.data.toList.length = x.size := rfl
    omega

theorem back (vs : List ByteArray) : (vs.map (·.data.toList)).map (fun l => (⟨l.toArray⟩ : ByteArray)) = vs := by
  rw [List.map_map]
  conv => rhs; rw [← List.map_id vs]
  apply List.map_congr_left
  intro x _
  cases x
  simp

theorem cellsOf_enc (vs : List ByteArray) : cellsOf vs = (vs.map (·.data.toList)).map encStr := by
  unfold cellsOf
  rw [List.map_map]
  apply List.map_congr_left
  intro x _
  cases x
  simp [encStr]

theorem sort15 {base : Nat} {ao : Option Addr} {c : Nat} {vs : List ByteArray} {w : World} (hown : w.ownsRow base 9 1 (.slice ao vs.length c) vs.length (cellsOf vs)) (hlen : vs.length ≤ 131072) (hbw : base ≤ w.heap.size) :
    Calls Tryf.prog 15 #[.slice ao vs.length c] w fun e w' => e = .returned (.tuple #[]) ∧ ∃ us : List ByteArray, us.length = vs.length ∧ tb us = tb vs ∧ w'.ownsRow base 9 1 (.slice ao vs.length c) vs.length (cellsOf us) ∧ Below base w w' := by
  rcases hown.2 with ⟨h1, h2⟩ | ⟨g, cap, cur, h1, hbase, hb, hn, hcm, hcs, ht⟩
  · simp only [Value.slice.injEq] at h1
    obtain ⟨rfl, _, rfl⟩ := h1
    have h := Tryf.slices_Sort_string_none none 0 w
    rw [h2]
    refine h.mono fun e w' ⟨he, hw⟩ => ⟨he, vs, h2, rfl, ?_, ?_⟩
    · rw [hw]; rw [h2] at hown; exact hown
    · rw [hw]; exact Below.refl _ _
  · simp only [Value.slice.injEq] at h1
    obtain ⟨rfl, _, rfl⟩ := h1
    obtain ⟨ls, hls⟩ : ∃ ls, vs.map (·.data.toList) = ls := ⟨_, rfl⟩
    have hll : ls.length = vs.length := by rw [← hls, List.length_map]
    have hH : Holds encStr w g 0 ls.toArray := holds_of_block hb (by rw [hll, ← hls, ← cellsOf_enc]; simpa using ht)
    have hg : g < w.heap.size := (Array.getElem?_eq_some_iff.1 hb).1
    have h := Tryf.slices_Sort_string g 0 c ls w hH hg (by omega)
    rw [hll] at h
    refine h.mono fun e w' ⟨he, n, os, hw⟩ => ?_
    have hsl : (ls.mergeSort fun x y => decide (x ≤ y)).length = ls.length := List.length_mergeSort ls
    refine ⟨he, (ls.mergeSort fun x y => decide (x ≤ y)).map (fun l => (⟨l.toArray⟩ : ByteArray)), by rw [List.length_map, hsl, hll], ?_, ?_, ?_⟩
    · have hp := (List.mergeSort_perm ls fun x y => decide (x ≤ y)).map (fun l => (⟨l.toArray⟩ : ByteArray))
      rw [tb_perm hp, ← hls, back]
    · have ho := ownsRow_sorted (n := n) (os := os) (e := 9) (ss := ls) (ts := ls.mergeSort fun x y => decide (x ≤ y)) hsl hbase hb (by omega) hcm hcs
      rw [hw]
      rw [hll] at ho
      have e1 : cellsOf ((ls.mergeSort fun x y => decide (x ≤ y)).map (fun l => (⟨l.toArray⟩ : ByteArray))) = (ls.mergeSort fun x y => decide (x ≤ y)).map encStr := by
        unfold cellsOf
        rw [List.map_map]
        rfl
      rw [e1]
      exact ho
    · rw [hw]
      exact (Below.refl _ _).grown (grownBy_sorted _) hbw (fun j hj => by cases hj; exact hbase)

theorem join16 {base : Nat} {ao : Option Addr} {n c : Nat} {us : List ByteArray} {w : World} (sep : ByteArray) (hsep : sep.size ≤ 16) (hown : w.ownsRow base 9 1 (.slice ao n c) n (cellsOf us)) (htb : tb us ≤ 2097152) :
    Calls Tryf.prog 16 #[.slice ao n c, .string sep] w fun e w' => (∃ s, e = .returned (.string s)) ∧ Below w.heap.size w w' := by
  obtain ⟨hn, hS⟩ := owns_SS hown
  have hlen := tb_len us
  rcases hS with h0 | ⟨b, off, rfl, hc⟩
  · subst h0
    obtain rfl : n = 0 := hn
    exact (Tryf.strings_Join_none ao c sep w).mono fun e w' ⟨he, hw⟩ => ⟨⟨_, he⟩, by rw [hw]; exact Below.refl _ _⟩
  · subst hn
    rcases hown.2 with ⟨h1, h2⟩ | ⟨g, cap, cur, h1, hbase, hb, hnc, hcm, hcs, ht⟩
    · cases h1
    · cases h1
      have hg : b < w.heap.size := (Array.getElem?_eq_some_iff.1 hb).1
      have hl := lens_tb us
      refine (Tryf.strings_Join b 0 c us sep w (fun j x hx => ?_) hg (by omega) hnc ?_).mono fun e w' ⟨he, hw⟩ => ⟨⟨_, he⟩, hw⟩
      · obtain ⟨hj, e1⟩ := List.getElem?_eq_some_iff.1 hx
        have := hc j hj
        have e2 : us.getD j ByteArray.empty = x := by rw [List.getD, hx]; rfl
        rw [e2] at this
        exact this
      · cases us with
        | nil => simp [Lib.join]
        | cons x xs =>
          rw [List.map_cons, Lib.join_length]
          have e3 : sep.data.toList.length = sep.size := rfl
          rw [e3, List.length_map]
          rw [List.map_cons] at hl
          simp only [List.length_cons] at hlen hl
          have : sep.size * xs.length ≤ 16 * xs.length := Nat.mul_le_mul_right _ hsep
          omega
end Go.Proofs.Qxb6626483aFmt
