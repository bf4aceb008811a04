import Derived.Test.Qxb6626449aGuards
namespace Go.Proofs.Qxb6626449a
open Go.ChangeShapes Go.WideShapes Go.ChangeAt Go.RowKit

/-- The zero Route, as a value. -/
def zRoute : Value := .agg #[.slice none 0 0, .string ByteArray.empty, .map none, .pointer none, .int .i64 0, .pointer none, .pointer none]
theorem info36 : (Try.prog.info? 36).map (fun i => (i.zero, i.size, i.bytes)) = some (some zRoute, 7, 80) := by kernel_rfl

/-- The six fields behind Models are zero in each of n Routes that lie in a row. -/
def Zeros (n : Nat) (xs : List Value) : Prop := ∀ j f, j < n → 1 ≤ f → f < 7 → xs[j * 7 + f]? = zRoute.cells[f]?
/-- The first k Routes list the rows' strings. -/
def Listing (w : World) (rs : List (List ByteArray)) (k : Nat) (xs : List Value) : Prop :=
  ∀ j, j < k → ∃ ai ci, xs[j * 7]? = some (.slice ai (rs.getD j []).length ci) ∧ SS w ai (rs.getD j []) ∧ (rs.getD j []).length ≤ maxLen

theorem zeros_made (n : Nat) : Zeros n (madeCells zRoute.cells (n * 7)).toList := by
  intro j f hj h1 h7
  have h : j * 7 + f < n * 7 := by omega
  have e : (j * 7 + f) % 7 = f := by omega
  have hz : zRoute.cells.size = 7 := by simp [zRoute, Value.cells]
  unfold madeCells
  rw [Array.getElem?_toList, Array.getElem?_map, Array.getElem?_range, if_pos h]
  simp only [Option.map_some, hz, e]
  rw [getElem!_pos _ _ (by omega), Array.getElem?_eq_getElem (by omega)]

theorem zeros_set {n : Nat} {xs : List Value} (h : Zeros n xs) (k : Nat) (u : Value) : Zeros n (xs.set (k * 7) u) := by
  intro j f hj h1 h7
  rw [List.getElem?_set_ne (by omega)]
  exact h j f hj h1 h7

theorem listing_zero (w : World) (rs : List (List ByteArray)) (xs : List Value) : Listing w rs 0 xs := fun j hj => by omega

theorem listing_set {w : World} {rs : List (List ByteArray)} {k : Nat} {xs : List Value} (h : Listing w rs k xs) (hk : k * 7 < xs.length) {ai : Option Addr} {ci : Nat}
    (hs : SS w ai (rs.getD k [])) (hl : (rs.getD k []).length ≤ maxLen) : Listing w rs (k + 1) (xs.set (k * 7) (.slice ai (rs.getD k []).length ci)) := by
  intro j hj
  by_cases e : j = k
  · subst e
    exact ⟨ai, ci, by rw [List.getElem?_set_self hk], hs, hl⟩
  · rw [List.getElem?_set_ne (by omega)]
    exact h j (by omega)

/-- A configuration whose routes list just the rows' strings. -/
def Cfg (w : World) (g : Nat) (rs : List (List ByteArray)) : Prop :=
  ∃ b2 c2, w.cell? ⟨g, 9, none⟩ = some (.slice (some ⟨b2, 0, none⟩) rs.length c2) ∧
    ∀ k, k < rs.length → (∃ ai ci, w.cell? ⟨b2, k * 7, none⟩ = some (.slice ai (rs.getD k []).length ci) ∧ SS w ai (rs.getD k []) ∧ (rs.getD k []).length ≤ maxLen) ∧
      ∀ f, 1 ≤ f → f < 7 → w.cell? ⟨b2, k * 7 + f, none⟩ = zRoute.cells[f]?

/-- 'make([]config.Route, n)': n zero Routes in a row of the call's own. -/
theorem wpList_make36 (w : World) {ops : Array Oper} {rest : List Oper} {o : Oper} {a : Act} {Q : Exit → Act → World → Prop}
    (hg : o.guard = none) (l : Operand) (hop : o.op = Op.makeSlice 32 l l) (L : Int) (n : Nat) (hl : a.eval l = .int .i64 L) (hL : L = (n : Int)) (hn : n ≤ 43690)
    (hK : ∀ w' xs, w'.ownsRow w.heap.size 36 7 (.slice (some ⟨w.heap.size, 0, none⟩) n n) n xs → Zeros n xs → Below w.heap.size w w' → wpList Try.prog ops Q rest (a.put o.dst (.slice (some ⟨w.heap.size, 0, none⟩) n n)) w') :
    wpList Try.prog ops Q (o :: rest) a w := by
  obtain ⟨i0, hi, hz0, hz1, hz2⟩ := info_parts info36
  refine wpList_make_full w hg l l 32 hop w.heap.size 36 i0 zRoute 7 Try.underlying32 hi hz0 hz1 .i64 .i64 L L n hl hl hL hL (by rw [hz2]; omega) (by unfold maxLen; omega) (Nat.le_refl _) ?_
  intro w' hown hgr
  exact hK w' _ hown (zeros_made n) ((Below.refl _ _).grown hgr (Nat.le_refl _) (fun k hk => by cases hk))

theorem cfg_of {w wr : World} {rs : List (List ByteArray)} {xs : List Value} {arr : Array Value}
    (hown : wr.ownsRow w.heap.size 36 7 (.slice (some ⟨w.heap.size, 0, none⟩) rs.length rs.length) rs.length xs) (hZ : Zeros rs.length xs) (hL : Listing w rs rs.length xs) (hb : Below w.heap.size w wr)
    (h9 : arr[9]? = some (.slice (some ⟨w.heap.size, 0, none⟩) rs.length rs.length)) : Cfg (wr.alloc (.cells arr 42)) wr.heap.size rs := by
  have hn : Below wr.heap.size wr (wr.alloc (.cells arr 42)) := (Below.refl _ _).alloc (Nat.le_refl _) _
  have hlt : w.heap.size < wr.heap.size := (hown.lt _ rfl).2
  have hcell : ∀ p, p < rs.length * 7 → (wr.alloc (.cells arr 42)).cell? ⟨w.heap.size, p, none⟩ = xs[p]? := fun p hp => by
    rw [hn.cell (p := ⟨w.heap.size, p, none⟩) hlt]
    exact hown.cellAt p hp
  refine ⟨w.heap.size, rs.length, ?_, fun k hk => ⟨?_, fun f h1 h7 => ?_⟩⟩
  · rw [← h9]
    simp only [World.cell?, heap_alloc_new]
    rfl
  · obtain ⟨ai, ci, h1, h2, h3⟩ := hL k hk
    exact ⟨ai, ci, by rw [hcell _ (by omega)]; exact h1, h2.below (hb.trans (hn.mono (by omega))), h3⟩
  · rw [hcell _ (by omega)]
    exact hZ k f hk h1 h7

set_option maxHeartbeats 1000000 in
set_option maxRecDepth 100000 in
theorem build7 (ao : Option Addr) (c : Nat) (rs : List (List ByteArray)) (w : World) (hs : RR w ao rs) (hm : rs.length ≤ 43690) :
    Calls Try.prog 7 #[.slice ao rs.length c] w fun e w' => ∃ g, e = .returned (.pointer (some ⟨g, 0, none⟩)) ∧ Cfg w' g rs ∧ Below w.heap.size w w' := by
  rcases hs with rfl | ⟨b, off, rfl, hc⟩
  · go_enter Try.func7, Try.ntmps7
    go_wp2_with (at_make; refine wpList_make36 _ rfl (.tmp 6) rfl _ 0 rfl rfl (by omega) ?_)
    intro w1 xs1 hx1 hZ1 hb1
    go_wp2_with fail
    go_loop [4] (fun i => i = .int .i64 0) (fun _ => 0)
    case atStart => rfl
    case round =>
      subst hrel
      have hwr : w.heap.size ≤ w1.heap.size := hb1.size
      go_wp2_with fail
      go_ret
      exact ⟨_, rfl, cfg_of (rs := []) hx1 hZ1 (listing_zero _ _ _) hb1 rfl, hb1.alloc hwr _⟩
  · go_enter Try.func7, Try.ntmps7
    go_wp2_with (at_make; refine wpList_make36 _ rfl (.tmp 6) rfl _ rs.length rfl rfl hm ?_)
    intro w1 xs1 hx1 hZ1 hb1
    go_wp2_with fail
    go_loopw [4] (fun i wr => ∃ k : Nat, ∃ xs : List Value, k ≤ rs.length ∧ i = .int .i64 k ∧ wr.ownsRow w.heap.size 36 7 (.slice (some ⟨w.heap.size, 0, none⟩) rs.length rs.length) rs.length xs ∧ Zeros rs.length xs ∧ Listing w rs k xs ∧ Below w.heap.size w wr) (fun i _ => rs.length - (intOf i).toNat)
    case atStart => exact ⟨0, _, Nat.zero_le _, rfl, hx1, hZ1, listing_zero _ _ _, hb1⟩
    case round =>
      obtain ⟨k, xs, hk, rfl, hown, hZ, hL, hbr⟩ := hrel
      by_cases hlt : k < rs.length
      · obtain ⟨ai, ci, h1, h2, h3⟩ := hc k hlt
        have hcx := (hbr.cell (p := ⟨b, off + k, none⟩) (World.block_lt_of_cell? w _ h1)).trans h1
        have hxl : xs.length = rs.length * 7 := hown.1
        have hfz := hown.frozenAt (k * 7)
        have hold : wr.cell? ⟨w.heap.size, k * 7, none⟩ = some (xs[k * 7]'(by omega)) := by
          rw [hown.cellAt (k * 7) (by omega)]
          exact List.getElem?_eq_getElem _
        have hS := (hown.stored (k * 7) (.slice ai (rs.getD k []).length ci)).1
        have hZ' := zeros_set hZ k (.slice ai (rs.getD k []).length ci)
        have hL' := listing_set hL (by omega) h2 h3 (ci := ci)
        generalize rs.getD k [] = row at *
        generalize xs[k * 7] = old at *
        have HR : Hid _ := And.intro hS (And.intro hZ' hL')
        clear hS hZ' hL' hZ hL h2 h3 h1 hc
        go_wp2_with fail
        go_roundw
        case rel => exact ⟨k + 1, _, by omega, by go_num, HR.out.1, HR.out.2.1, HR.out.2.2, hbr.setCell (Nat.le_refl _) _⟩
        case measure => simp [intOf]; omega
      · obtain rfl : k = rs.length := by omega
        have hwr : w.heap.size ≤ wr.heap.size := hbr.size
        go_wp2_with fail
        go_ret
        exact ⟨_, rfl, cfg_of hown hZ hL hbr rfl, hbr.alloc hwr _⟩

/-- Add a string behind the list, where it is not yet in it. -/
def add (acc : List ByteArray) (m : ByteArray) : List ByteArray := if has acc m then acc else acc ++ [m]
/-- What Models gathers. -/
def models (rs : List (List ByteArray)) : List ByteArray := rs.flatten.foldl add []
theorem add_le (acc : List ByteArray) (m : ByteArray) : (add acc m).length ≤ acc.length + 1 := by unfold add; split <;> simp
theorem foldl_le (xs acc : List ByteArray) : (xs.foldl add acc).length ≤ acc.length + xs.length := by
  induction xs generalizing acc with
  | nil => simp
  | cons x xs ih =>
    rw [List.foldl_cons]
    have h1 := ih (add acc x)
    have h2 := add_le acc x
    simp only [List.length_cons]
    omega

/-- What is gathered behind k whole rows and j strings of the next. -/
def sofar (rs : List (List ByteArray)) (k j : Nat) : List ByteArray := ((rs.take k).flatten ++ (rs.getD k []).take j).foldl add []
theorem sofar_zero (rs : List (List ByteArray)) : sofar rs 0 0 = [] := by simp [sofar]
theorem sofar_row (rs : List (List ByteArray)) (k : Nat) (hk : k < rs.length) : sofar rs (k + 1) 0 = sofar rs k (rs.getD k []).length := by
  unfold sofar
  rw [List.take_succ_eq_append_getElem hk, List.flatten_append]
  simp [hk]
theorem sofar_end (rs : List (List ByteArray)) : sofar rs rs.length 0 = models rs := by simp [sofar, models]
theorem sofar_step (rs : List (List ByteArray)) (k j : Nat) (row : List ByteArray) (hr : rs.getD k [] = row) (hj : j < row.length) : sofar rs k (j + 1) = add (sofar rs k j) row[j] := by
  subst hr
  unfold sofar
  rw [List.take_succ_eq_append_getElem hj, ← List.append_assoc, List.foldl_append]
  rfl
theorem sofar_hit (rs : List (List ByteArray)) (k j : Nat) (row : List ByteArray) (hr : rs.getD k [] = row) (hj : j < row.length) (h : has (sofar rs k j) row[j] = true) : sofar rs k (j + 1) = sofar rs k j := by
  rw [sofar_step rs k j row hr hj]; simp [add, h]
theorem sofar_new (rs : List (List ByteArray)) (k j : Nat) (row : List ByteArray) (hr : rs.getD k [] = row) (hj : j < row.length) (h : has (sofar rs k j) row[j] = false) : sofar rs k (j + 1) = sofar rs k j ++ [row[j]] := by
  rw [sofar_step rs k j row hr hj]; simp [add, h]
theorem sofar_le (rs : List (List ByteArray)) (k j : Nat) (hk : k < rs.length) : (sofar rs k j).length ≤ rs.flatten.length := by
  have h1 := foldl_le ((rs.take k).flatten ++ (rs.getD k []).take j) []
  have e : rs.flatten = (rs.take k).flatten ++ (rs.getD k [] ++ (rs.drop (k + 1)).flatten) := by
    have h2 : rs = rs.take k ++ rs.drop k := (List.take_append_drop k rs).symm
    have h3 : rs.drop k = rs[k] :: rs.drop (k + 1) := List.drop_eq_getElem_cons hk
    have h4 : rs.getD k [] = rs[k] := by simp [hk]
    rw [h4]
    have h6 : rs.flatten = (rs.take k ++ rs[k] :: rs.drop (k + 1)).flatten := by rw [← h3, ← h2]
    rw [h6, List.flatten_append, List.flatten_cons]
  have h5 : ((rs.getD k []).take j).length ≤ (rs.getD k []).length := by rw [List.length_take]; omega
  unfold sofar
  rw [e]
  simp only [List.length_append, List.length_nil] at *
  omega

set_option maxHeartbeats 1000000 in
set_option maxRecDepth 100000 in
theorem models8 (g : Nat) (rs : List (List ByteArray)) (w : World) (hs : Cfg w g rs) (hm : rs.length ≤ 43690) (hf : rs.flatten.length ≤ 4096) :
    Calls Try.prog 8 #[.pointer (some ⟨g, 0, none⟩)] w fun e w' => ∃ a c, e = .returned (.slice a (models rs).length c) ∧ SS w' a (models rs) ∧ Below w.heap.size w w' := by
  obtain ⟨b2, c2, h9, hc⟩ := hs
  obtain ⟨i0, hi, hz0, hz1, hz2⟩ := info_parts info9
  have hg : g < w.heap.size := World.block_lt_of_cell? w _ h9
  go_enter Try.func8, Try.ntmps8
  go_wp2_with fail
  go_loopw [3, 13] (fun v i wr => ∃ k : Nat, ∃ a3 c3, k ≤ rs.length ∧ i = .int .i64 k ∧ v = .slice a3 (sofar rs k 0).length c3 ∧ wr.ownsRow w.heap.size 9 1 v (sofar rs k 0).length (cellsOf (sofar rs k 0)) ∧ Below w.heap.size w wr) (fun _ i _ => rs.length - (intOf i).toNat)
  case atStart => exact ⟨0, _, _, Nat.zero_le _, rfl, by rw [sofar_zero]; rfl, by rw [sofar_zero]; exact World.ownsRow_nil _ _ _ _, Below.refl _ _⟩
  case round =>
    obtain ⟨k, a3, c3, hk, rfl, rfl, hown, hbr⟩ := hrel
    by_cases hlt : k < rs.length
    · obtain ⟨⟨ai, ci, h1, h2, h3⟩, h4⟩ := hc k hlt
      have hb2 : b2 < w.heap.size := World.block_lt_of_cell? w _ h1
      have hcx := (hbr.cell (p := ⟨b2, k * 7, none⟩) hb2).trans h1
      have hcf : ∀ f, 1 ≤ f → f < 7 → wr.cell? ⟨b2, k * 7 + f, none⟩ = zRoute.cells[f]? := fun f q1 q2 => (hbr.cell (p := ⟨b2, k * 7 + f, none⟩) hb2).trans (h4 f q1 q2)
      have f1 : wr.cell? ⟨b2, k * 7 + 1, none⟩ = some (.string ByteArray.empty) := hcf 1 (by omega) (by omega)
      have f2 : wr.cell? ⟨b2, k * 7 + 2, none⟩ = some (.map none) := hcf 2 (by omega) (by omega)
      have f3 : wr.cell? ⟨b2, k * 7 + 3, none⟩ = some (.pointer none) := hcf 3 (by omega) (by omega)
      have f4 : wr.cell? ⟨b2, k * 7 + 4, none⟩ = some (.int .i64 0) := hcf 4 (by omega) (by omega)
      have f5 : wr.cell? ⟨b2, k * 7 + 5, none⟩ = some (.pointer none) := hcf 5 (by omega) (by omega)
      have f6 : wr.cell? ⟨b2, k * 7 + 6, none⟩ = some (.pointer none) := hcf 6 (by omega) (by omega)
      have hle := fun j => sofar_le rs k j hlt
      have HRow : Hid (sofar rs (k + 1) 0 = sofar rs k (rs.getD k []).length) := sofar_row rs k hlt
      have hwr : w.heap.size ≤ wr.heap.size := hbr.size
      obtain ⟨row, hrow⟩ : ∃ row, rs.getD k [] = row := ⟨_, rfl⟩
      rw [hrow] at h1 h2 h3 hcx HRow
      have Hrow := hide hrow
      have h3' : row.length ≤ 9223372036854775807 := h3
      clear hc h4 hcf hrow h3
      rcases h2 with rfl | ⟨b', off', rfl, hd⟩
      · go_wp2_with fail
        go_loopw [3, 20] (fun v i wx => v = .slice a3 (sofar rs k 0).length c3 ∧ i = .int .i64 0 ∧ wx.ownsRow w.heap.size 9 1 v (sofar rs k 0).length (cellsOf (sofar rs k 0)) ∧ Below w.heap.size w wx) (fun _ _ _ => 0)
        case atStart => exact ⟨rfl, rfl, hown.alloc _, hbr.alloc hwr _⟩
        case round =>
          obtain ⟨rfl, rfl, ho, hb⟩ := hrel
          clear hown hbr
          go_wp2_with fail
          go_roundw
          case rel => exact ⟨k + 1, a3, c3, by omega, by go_num, by rw [HRow.out]; rfl, by rw [HRow.out]; exact ho, hb⟩
          case measure => simp [intOf]; omega
      · go_wp2_with fail
        go_loopw [3, 20] (fun v i wx => ∃ j : Nat, ∃ a4 c4, j ≤ row.length ∧ i = .int .i64 j ∧ v = .slice a4 (sofar rs k j).length c4 ∧ wx.ownsRow w.heap.size 9 1 v (sofar rs k j).length (cellsOf (sofar rs k j)) ∧ Below w.heap.size w wx) (fun _ i _ => row.length - (intOf i).toNat)
        case atStart => exact ⟨0, a3, c3, Nat.zero_le _, rfl, rfl, hown.alloc _, hbr.alloc hwr _⟩
        case round =>
          obtain ⟨j, a4, c4, hj, rfl, rfl, ho, hb⟩ := hrel
          clear hown hbr hcx f1 f2 f3 f4 f5 f6
          have hwx : w.heap.size ≤ wr.heap.size := hb.size
          by_cases hlt2 : j < row.length
          · have hdx := (hb.cell (p := ⟨b', off' + j, none⟩) (World.block_lt_of_cell? w _ (hd j hlt2))).trans (hd j hlt2)
            have hl2 := hle j
            have c13 := contains13 a4 c4 (sofar rs k j) row[j] wr (owns_SS ho).2 (by unfold maxLen; omega)
            clear hd hle
            cases hh : has (sofar rs k j) row[j] with
            | true =>
              rw [hh] at c13
              have HN : Hid (sofar rs k (j + 1) = sofar rs k j) := sofar_hit rs k j row Hrow.out hlt2 hh
              clear hh
              go_wp2_with fail
              refine c13.mono ?_
              rintro e w5 ⟨rfl, hw5⟩
              rw [hw5]
              clear hw5 c13
              go_wp2
              go_roundw
              case rel => exact ⟨j + 1, a4, c4, by omega, by go_num, by rw [HN.out], by rw [HN.out]; exact ho, hb⟩
              case measure => simp [intOf]; omega
            | false =>
              rw [hh] at c13
              have HN : Hid (sofar rs k (j + 1) = sofar rs k j ++ [row[j]]) := sofar_new rs k j row Hrow.out hlt2 hh
              clear hh
              go_wp2_with fail
              refine c13.mono ?_
              rintro e w5 ⟨rfl, hw5⟩
              rw [hw5]
              clear hw5 c13
              go_wp2_with (at_builtin; refine wpList_append_own _ rfl (.tmp 28) (.tmp 30) 25 rfl w.heap.size 9 i0 (.string ByteArray.empty) 1 16 Try.underlying25 hi hz0 hz1 hz2 rfl (by decide) _ _ _ rfl (ho.alloc _) ⟨wr.heap.size, 0, none⟩ 1 1 [.string row[j]] rfl rfl (cell_one_new _ _ _) (by intro u hu; simp at hu; subst hu; rfl) (by unfold maxLen; omega) (by omega) (by simp; omega) ?_)
              intro v6 w6 hown6 hg6 _
              have hb6 : Below w.heap.size w w6 := (hb.alloc hwx _).grown hg6 (by simp; omega) (fun k hk => (ho.lt k hk).1)
              have ho6 : w6.ownsRow w.heap.size 9 1 v6 (sofar rs k (j + 1)).length (cellsOf (sofar rs k (j + 1))) := by rw [HN.out, cellsOf_append, List.length_append]; exact hown6
              obtain ⟨a6, c6, hv6, _⟩ := owns_shape ho6
              have HV := hide hv6
              clear hv6 hown6 hg6 ho
              go_wp2
              go_roundw
              case rel => exact ⟨j + 1, a6, c6, by omega, by go_num, HV.out, ho6, hb6⟩
              case measure => simp [intOf]; omega
          · obtain rfl : j = row.length := by omega
            clear hd hle
            go_wp2_with fail
            go_roundw
            case rel => exact ⟨k + 1, a4, c4, by omega, by go_num, by rw [HRow.out], by rw [HRow.out]; exact ho, hb⟩
            case measure => simp [intOf]; omega
    · go_wp2_with fail
      go_ret
      obtain rfl : k = rs.length := by omega
      rw [sofar_end] at *
      exact ⟨_, _, rfl, (owns_SS hown).2, hbr⟩
end Go.Proofs.Qxb6626449a
