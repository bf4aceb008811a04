import Derived.Test.Qxb6626483aFmtGuards
namespace Go.Proofs.Qxb6626483aFmt
open Go.ChangeShapes Go.WideShapes Go.ChangeAt Go.RowKit

/-- A release: the block that it lies in, and its version. -/
def z0 : Nat × ByteArray := (0, ByteArray.empty)

/-- What the walk is told of a slice of pointers to releases. -/
def PS (w : World) (ao : Option Addr) (rs : List (Nat × ByteArray)) : Prop :=
  rs = [] ∨ ∃ b off, ao = some ⟨b, off, none⟩ ∧ ∀ k, k < rs.length → w.cell? ⟨b, off + k, none⟩ = some (.pointer (some ⟨(rs.getD k z0).1, 0, none⟩)) ∧ w.cell? ⟨(rs.getD k z0).1, 1, none⟩ = some (.string (rs.getD k z0).2)

theorem PS.at {w : World} {ao : Option Addr} {rs : List (Nat × ByteArray)} (h : PS w ao rs) {k : Nat} (hk : k < rs.length) :
    ∃ b off, ao = some ⟨b, off, none⟩ ∧ w.cell? ⟨b, off + k, none⟩ = some (.pointer (some ⟨(rs.getD k z0).1, 0, none⟩)) ∧ w.cell? ⟨(rs.getD k z0).1, 1, none⟩ = some (.string (rs.getD k z0).2) := by
  rcases h with rfl | ⟨b, off, rfl, hc⟩
  · simp at hk
  · exact ⟨b, off, rfl, hc k hk⟩

theorem PS.below {w w' : World} {ao : Option Addr} {rs : List (Nat × ByteArray)} (h : PS w ao rs) (hb : Below w.heap.size w w') : PS w' ao rs := by
  rcases h with h | ⟨b, off, rfl, hc⟩
  · exact .inl h
  · refine .inr ⟨b, off, rfl, fun k hk => ?_⟩
    obtain ⟨h1, h2⟩ := hc k hk
    rw [hb.cell (p := ⟨b, off + k, none⟩) (World.block_lt_of_cell? w _ h1), hb.cell (World.block_lt_of_cell? w _ h2)]
    exact ⟨h1, h2⟩

/-- The pointers as cells. -/
def ptrs (rs : List (Nat × ByteArray)) : List Value := rs.map fun r => .pointer (some ⟨r.1, 0, none⟩)
theorem ptrs_length (rs : List (Nat × ByteArray)) : (ptrs rs).length = rs.length := by simp [ptrs]
theorem ptrs_append (a b : List (Nat × ByteArray)) : ptrs (a ++ b) = ptrs a ++ ptrs b := by simp [ptrs]
theorem ptrs_one (rs : List (Nat × ByteArray)) : ∀ u ∈ ptrs rs, u.oneCell' = true := by
  intro u hu
  obtain ⟨s, _, rfl⟩ := List.mem_map.1 hu
  rfl
theorem ptrs_get (rs : List (Nat × ByteArray)) (k : Nat) (hk : k < rs.length) : (ptrs rs)[k]? = some (.pointer (some ⟨(rs.getD k z0).1, 0, none⟩)) := by
  unfold ptrs
  rw [List.getElem?_map, List.getElem?_eq_getElem hk]
  simp [hk]

/-- The releases themselves: each lies in its block. -/
def Lie (w : World) (rs : List (Nat × ByteArray)) : Prop := ∀ r ∈ rs, w.cell? ⟨r.1, 1, none⟩ = some (.string r.2)
theorem Lie.below {w w' : World} {rs : List (Nat × ByteArray)} (h : Lie w rs) (hb : Below w.heap.size w w') : Lie w' rs := fun r hr => by
  rw [hb.cell (World.block_lt_of_cell? w _ (h r hr))]
  exact h r hr
theorem Lie.append {w : World} {a b : List (Nat × ByteArray)} (h1 : Lie w a) (h2 : Lie w b) : Lie w (a ++ b) := fun r hr => by
  rcases List.mem_append.1 hr with h | h
  · exact h1 r h
  · exact h2 r h

theorem PS.lie {w : World} {ao : Option Addr} {rs : List (Nat × ByteArray)} (h : PS w ao rs) : Lie w rs := by
  intro r hr
  obtain ⟨k, hk, rfl⟩ := List.mem_iff_getElem.1 hr
  obtain ⟨b, off, _, _, h2⟩ := h.at hk
  simpa [hk] using h2

theorem getD_mem {rs : List (Nat × ByteArray)} {k : Nat} (hk : k < rs.length) : rs.getD k z0 ∈ rs := by
  have : rs.getD k z0 = rs[k] := by simp [hk]
  rw [this]
  exact List.getElem_mem hk

/-- An owned row of pointers leads to the releases. -/
theorem owns_PS {w : World} {base : Nat} {e : TypeId} {ao : Option Addr} {n c : Nat} {rs : List (Nat × ByteArray)} (h : w.ownsRow base e 1 (.slice ao n c) n (ptrs rs)) (hl : Lie w rs) : n = rs.length ∧ PS w ao rs := by
  have hn := h.1
  rw [ptrs_length] at hn
  refine ⟨by omega, ?_⟩
  rcases h.2 with ⟨h1, rfl⟩ | ⟨g, cap, cur, h1, _, _, hc, _⟩
  · exact .inl (List.eq_nil_of_length_eq_zero (by omega))
  · simp only [Value.slice.injEq] at h1
    obtain ⟨rfl, _, rfl⟩ := h1
    refine .inr ⟨g, 0, rfl, fun k hk => ⟨?_, hl _ (getD_mem hk)⟩⟩
    have := h.cells (g := g) rfl k _ (ptrs_get rs k hk)
    rw [add_none] at this
    exact this

theorem PS.cellsAt {w : World} {ao : Option Addr} {rs : List (Nat × ByteArray)} (h : PS w ao rs) : ∀ ad, ao = some ad → ∀ j u, (ptrs rs)[j]? = some u → w.cell? (ad.add j) = some u := by
  intro ad had j u hu
  have hj : j < rs.length := by
    have := (List.getElem?_eq_some_iff.1 hu).1
    rwa [ptrs_length] at this
  obtain ⟨b, off, e, h1, _⟩ := h.at hj
  rw [had] at e
  cases e
  rw [ptrs_get rs j hj] at hu
  cases hu
  rw [add_none]
  exact h1

theorem info30 : (Tryf.prog.info? 30).map (fun i => (i.zero, i.size, i.bytes)) = some (some (.pointer none), 1, 8) := by kernel_rfl

theorem set_ptrs (rs : List (Nat × ByteArray)) (n : Nat) (g : Nat) (s : ByteArray) (h : rs.length < n) :
    (ptrs rs ++ List.replicate (n - rs.length) (Value.pointer none)).set rs.length (.pointer (some ⟨g, 0, none⟩)) = ptrs (rs ++ [(g, s)]) ++ List.replicate (n - (rs.length + 1)) (Value.pointer none) := by
  have e : n - rs.length = (n - (rs.length + 1)) + 1 := by omega
  rw [List.set_append_right _ _ (by rw [ptrs_length]; omega), ptrs_length, Nat.sub_self, e, List.replicate_succ, List.set_cons_zero, ptrs_append, List.append_assoc]
  rfl

theorem rels_step {w wr : World} {rs : List (Nat × ByteArray)} {ss : List ByteArray} (hlt : rs.length < ss.length) (hmap : rs.map (·.2) = ss.take rs.length)
    (hown : wr.ownsRow w.heap.size 30 1 (.slice (some ⟨w.heap.size, 0, none⟩) ss.length ss.length) ss.length (ptrs rs ++ List.replicate (ss.length - rs.length) (Value.pointer none)))
    (hL : Lie wr rs) (hgt : ∀ r ∈ rs, w.heap.size < r.1) (hbr : Below w.heap.size w wr) (hwr : w.heap.size < wr.heap.size) (x : ByteArray) :
    ∃ rs' : List (Nat × ByteArray), rs'.length = rs.length + 1 ∧ rs'.map (·.2) = ss.take rs'.length ∧
      ((wr.setCell ⟨w.heap.size, rs.length, none⟩ (.pointer (some ⟨wr.heap.size, 0, none⟩))).alloc (.cells #[.string x, .string ss[rs.length], .slice none 0 0] 39)).ownsRow w.heap.size 30 1 (.slice (some ⟨w.heap.size, 0, none⟩) ss.length ss.length) ss.length (ptrs rs' ++ List.replicate (ss.length - rs'.length) (Value.pointer none)) ∧
      Lie ((wr.setCell ⟨w.heap.size, rs.length, none⟩ (.pointer (some ⟨wr.heap.size, 0, none⟩))).alloc (.cells #[.string x, .string ss[rs.length], .slice none 0 0] 39)) rs' ∧ (∀ r ∈ rs', w.heap.size < r.1) ∧
      Below w.heap.size w ((wr.setCell ⟨w.heap.size, rs.length, none⟩ (.pointer (some ⟨wr.heap.size, 0, none⟩))).alloc (.cells #[.string x, .string ss[rs.length], .slice none 0 0] 39)) := by
  have hsz : (wr.setCell ⟨w.heap.size, rs.length, none⟩ (.pointer (some ⟨wr.heap.size, 0, none⟩))).heap.size = wr.heap.size := by simp
  have hb1 : Below (w.heap.size) w (wr.setCell ⟨w.heap.size, rs.length, none⟩ (.pointer (some ⟨wr.heap.size, 0, none⟩))) := hbr.setCell (Nat.le_refl _) _
  refine ⟨rs ++ [(wr.heap.size, ss[rs.length])], by simp, ?_, ?_, ?_, ?_, hb1.alloc (by rw [hsz]; omega) _⟩
  · rw [List.map_append, hmap, List.length_append]
    exact (List.take_succ_eq_append_getElem hlt).symm
  · have h1 := (hown.stored rs.length (.pointer (some ⟨wr.heap.size, 0, none⟩))).1
    rw [set_ptrs rs ss.length wr.heap.size ss[rs.length] hlt] at h1
    have h2 := h1.alloc (.cells #[.string x, .string ss[rs.length], .slice none 0 0] 39)
    rw [List.length_append]
    exact h2
  · intro r hr
    have hbn : Below wr.heap.size (wr.setCell ⟨w.heap.size, rs.length, none⟩ (.pointer (some ⟨wr.heap.size, 0, none⟩))) ((wr.setCell ⟨w.heap.size, rs.length, none⟩ (.pointer (some ⟨wr.heap.size, 0, none⟩))).alloc (.cells #[.string x, .string ss[rs.length], .slice none 0 0] 39)) := (Below.refl _ _).alloc (by rw [hsz]; exact Nat.le_refl _) _
    rcases List.mem_append.1 hr with h | h
    · have hc := hL r h
      rw [hbn.cell (p := ⟨r.1, 1, none⟩) (World.block_lt_of_cell? wr _ hc)]
      have hne := hgt r h
      rw [World.cell?_of_block (w := wr) (a := ⟨r.1, 1, none⟩) (Below.heap_setCell wr _ _ _ (by show r.1 ≠ w.heap.size; omega))]
      exact hc
    · simp at h
      subst h
      have := heap_alloc_new (wr.setCell ⟨w.heap.size, rs.length, none⟩ (.pointer (some ⟨wr.heap.size, 0, none⟩))) (.cells #[.string x, .string ss[rs.length], .slice none 0 0] 39)
      rw [hsz] at this
      simp only [World.cell?, this]
      rfl
  · intro r hr
    rcases List.mem_append.1 hr with h | h
    · exact hgt r h
    · simp at h
      subst h
      exact hwr

set_option maxHeartbeats 1000000 in
set_option maxRecDepth 100000 in
theorem rels7 (ao : Option Addr) (c : Nat) (ss : List ByteArray) (w : World) (hs : SS w ao ss) (hm : ss.length ≤ 65536) :
    Calls Tryf.prog 7 #[.slice ao ss.length c] w fun e w' => ∃ rs : List (Nat × ByteArray), rs.map (·.2) = ss ∧ e = .returned (.slice (some ⟨w.heap.size, 0, none⟩) ss.length ss.length) ∧ PS w' (some ⟨w.heap.size, 0, none⟩) rs ∧ Below w.heap.size w w' := by
  obtain ⟨i0, hi, hz0, hz1, hz2⟩ := info_parts info30
  go_enter Tryf.func7, Tryf.ntmps7
  go_wp2_with (at_make; refine wpList_make_full _ rfl (.tmp 6) (.tmp 6) 25 rfl w.heap.size 30 i0 (.pointer none) 1 Tryf.underlying25 hi hz0 hz1 .i64 .i64 _ _ ss.length rfl rfl rfl rfl (by rw [hz2]; omega) (by unfold maxLen; omega) (Nat.le_refl _) ?_)
  intro w1 hown1 hg1
  have hb1 : Below w.heap.size w w1 := (Below.refl _ _).grown hg1 (Nat.le_refl _) (fun k hk => by cases hk)
  have hown2 : w1.ownsRow w.heap.size 30 1 (.slice (some ⟨w.heap.size, 0, none⟩) ss.length ss.length) ss.length (ptrs [] ++ List.replicate (ss.length - 0) (Value.pointer none)) := by
    have e := toList_madeCells_one (.pointer none) ss.length
    have h2 : w1.ownsRow w.heap.size 30 1 (.slice (some ⟨w.heap.size, 0, none⟩) ss.length ss.length) ss.length (madeCells #[.pointer none] ss.length).toList := by simpa [Value.cells] using hown1
    rw [e] at h2
    simpa [ptrs] using h2
  clear hown1 hg1
  go_wp2_with fail
  go_loopw [4] (fun i wr => ∃ rs : List (Nat × ByteArray), rs.length ≤ ss.length ∧ i = .int .i64 rs.length ∧ rs.map (·.2) = ss.take rs.length ∧ wr.ownsRow w.heap.size 30 1 (.slice (some ⟨w.heap.size, 0, none⟩) ss.length ss.length) ss.length (ptrs rs ++ List.replicate (ss.length - rs.length) (Value.pointer none)) ∧ Lie wr rs ∧ (∀ r ∈ rs, w.heap.size < r.1) ∧ Below w.heap.size w wr) (fun i _ => ss.length - (intOf i).toNat)
  case atStart => exact ⟨[], Nat.zero_le _, rfl, by simp, hown2, (fun r hr => by cases hr), (fun r hr => by cases hr), hb1⟩
  case round =>
    obtain ⟨rs, hk, rfl, hmap, hown, hL, hgt, hbr⟩ := hrel
    have hwr : w.heap.size < wr.heap.size := (hown.lt _ rfl).2
    by_cases hlt : rs.length < ss.length
    · obtain ⟨b, off, rfl, h1⟩ := hs.at hlt
      have hcx := (hbr.cell (p := ⟨b, off + rs.length, none⟩) (World.block_lt_of_cell? w _ h1)).trans h1
      have hfz := hown.frozenAt rs.length
      have hold : wr.cell? ⟨w.heap.size, rs.length, none⟩ = some (.pointer none) := by
        rw [hown.cellAt rs.length (by omega), List.getElem?_append_right (by rw [ptrs_length]; omega), ptrs_length, Nat.sub_self]
        have e : ss.length - rs.length = (ss.length - (rs.length + 1)) + 1 := by omega
        rw [e, List.replicate_succ]
        rfl
      obtain ⟨rs', hl', hm', ho', hL', hg', hb'⟩ := rels_step hlt hmap hown hL hgt hbr hwr ⟨#[]⟩
      have HL : Hid (rs'.length = rs.length + 1) := hl'
      clear hl' hmap hown hL hgt hbr
      go_wp2_with fail
      go_roundw
      case rel => exact ⟨rs', by rw [HL.out]; omega, by rw [HL.out]; go_num, hm', ho', hL', hg', hb'⟩
      case measure => simp [intOf]; omega
    · obtain he : rs.length = ss.length := by omega
      have hS := (owns_PS (rs := rs) (by simpa [he] using hown) hL).2
      have hmap' : rs.map (·.2) = ss := by rw [hmap, he, List.take_length]
      clear hown hmap he
      go_wp2_with fail
      go_ret
      exact ⟨rs, hmap', rfl, hS, hbr⟩
end Go.Proofs.Qxb6626483aFmt
