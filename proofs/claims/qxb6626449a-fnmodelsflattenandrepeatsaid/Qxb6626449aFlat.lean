import Derived.Test.Qxb6626449aPlain
namespace Go.Proofs.Qxb6626449a
open Go.ChangeShapes Go.WideShapes Go.ChangeAt Go.RowKit

theorem RR.at {w : World} {ao : Option Addr} {rs : List (List ByteArray)} (h : RR w ao rs) {k : Nat} (hk : k < rs.length) :
    ∃ b off, ao = some ⟨b, off, none⟩ ∧ ∃ ai ci, w.cell? ⟨b, off + k, none⟩ = some (.slice ai (rs.getD k []).length ci) ∧ SS w ai (rs.getD k []) ∧ (rs.getD k []).length ≤ maxLen := by
  rcases h with rfl | ⟨b, off, rfl, hc⟩
  · simp at hk
  · exact ⟨b, off, rfl, hc k hk⟩
theorem SS.at {w : World} {ao : Option Addr} {ss : List ByteArray} (h : SS w ao ss) {k : Nat} (hk : k < ss.length) :
    ∃ b off, ao = some ⟨b, off, none⟩ ∧ w.cell? ⟨b, off + k, none⟩ = some (.string (ss.getD k ByteArray.empty)) := by
  rcases h with rfl | ⟨b, off, rfl, hc⟩
  · simp at hk
  · exact ⟨b, off, rfl, hc k hk⟩

theorem cnt_le (rs : List (List ByteArray)) (k : Nat) : cnt rs k ≤ rs.flatten.length := by
  have e : rs.flatten = (rs.take k).flatten ++ (rs.drop k).flatten := by rw [← List.flatten_append, List.take_append_drop]
  unfold cnt
  rw [e, List.length_append]
  omega

theorem info25 : (Try.prog.info? 25).map (fun i => (i.zero, i.size, i.bytes)) = some (some (.slice none 0 0), 1, 24) := by kernel_rfl

/-- A row g of slices of one string each, each in a block of its own behind g. -/
def Flat (w : World) (g : Nat) (vals : List Value) (fs : List ByteArray) : Prop :=
  vals.length = fs.length ∧ ∀ j, j < fs.length → ∃ bj, g < bj ∧ vals[j]? = some (.slice (some ⟨bj, 0, none⟩) 1 1) ∧ w.cell? ⟨bj, 0, none⟩ = some (.string (fs.getD j ByteArray.empty))

theorem Flat.nil (w : World) (g : Nat) : Flat w g [] [] := ⟨rfl, fun j hj => by simp at hj⟩

theorem Flat.step {wr w3 : World} {g : Nat} {vals : List Value} {fs : List ByteArray} {s : ByteArray} (hF : Flat wr g vals fs) (hg : g < wr.heap.size)
    (hgr : ((wr.alloc (.cells #[.string s] 9)).alloc (.cells #[.slice (some ⟨wr.heap.size, 0, none⟩) 1 1] 25)).grownBy w3 (some g)) :
    Flat w3 g (vals ++ [.slice (some ⟨wr.heap.size, 0, none⟩) 1 1]) (fs ++ [s]) := by
  obtain ⟨hl, hc⟩ := hF
  refine ⟨by simp [hl], fun j hj => ?_⟩
  have hb1 : Below wr.heap.size wr ((wr.alloc (.cells #[.string s] 9)).alloc (.cells #[.slice (some ⟨wr.heap.size, 0, none⟩) 1 1] 25)) :=
    ((Below.refl _ _).alloc (Nat.le_refl _) _).alloc (by simp) _
  simp only [List.length_append, List.length_cons, List.length_nil] at hj
  by_cases e : j < fs.length
  · obtain ⟨bj, h1, h2, h3⟩ := hc j e
    refine ⟨bj, h1, by rw [List.getElem?_append_left (by omega)]; exact h2, ?_⟩
    have e1 : (fs ++ [s]).getD j ByteArray.empty = fs.getD j ByteArray.empty := by unfold List.getD; rw [List.getElem?_append_left e]
    rw [e1]
    refine hgr.cell ?_ (by simp; omega)
    rw [hb1.cell (p := ⟨bj, 0, none⟩) (World.block_lt_of_cell? wr _ h3)]
    exact h3
  · obtain rfl : j = fs.length := by omega
    refine ⟨wr.heap.size, hg, by rw [List.getElem?_append_right (by omega)]; simp [hl], ?_⟩
    have e1 : (fs ++ [s]).getD fs.length ByteArray.empty = s := by simp
    rw [e1]
    refine hgr.cell ?_ (by simp; omega)
    have hb2 : Below (wr.alloc (.cells #[.string s] 9)).heap.size (wr.alloc (.cells #[.string s] 9)) ((wr.alloc (.cells #[.string s] 9)).alloc (.cells #[.slice (some ⟨wr.heap.size, 0, none⟩) 1 1] 25)) := (Below.refl _ _).alloc (Nat.le_refl _) _
    rw [hb2.cell (p := ⟨wr.heap.size, 0, none⟩) (by simp)]
    simp only [World.cell?, heap_alloc_new]
    rfl

theorem Flat.rows {w : World} {base g n c : Nat} {vals : List Value} {fs : List ByteArray} (hF : Flat w g vals fs) (hown : w.ownsRow base 25 1 (.slice (some ⟨g, 0, none⟩) n c) n vals) :
    RR w (some ⟨g, 0, none⟩) (fs.map fun s => [s]) := by
  obtain ⟨hl, hc⟩ := hF
  refine .inr ⟨g, 0, rfl, fun k hk => ?_⟩
  rw [List.length_map] at hk
  obtain ⟨bj, h1, h2, h3⟩ := hc k hk
  have e : (fs.map fun s => [s]).getD k [] = [fs.getD k ByteArray.empty] := by simp [hk]
  have hx := hown.cells (g := g) rfl k _ h2
  rw [add_none] at hx
  refine ⟨some ⟨bj, 0, none⟩, 1, by rw [e]; exact hx, ?_, by rw [e]; simp [maxLen]⟩
  rw [e]
  refine .inr ⟨bj, 0, rfl, fun i hi => ?_⟩
  obtain rfl : i = 0 := by simp at hi; exact hi
  exact h3

/-- What is flat behind k whole rows and j strings of the next. -/
def fl (rs : List (List ByteArray)) (k j : Nat) : List ByteArray := (rs.take k).flatten ++ (rs.getD k []).take j
theorem fl_zero (rs : List (List ByteArray)) : fl rs 0 0 = [] := by simp [fl]
theorem fl_row (rs : List (List ByteArray)) (k : Nat) (hk : k < rs.length) : fl rs (k + 1) 0 = fl rs k (rs.getD k []).length := by
  unfold fl
  rw [List.take_succ_eq_append_getElem hk, List.flatten_append]
  simp [hk]
theorem fl_end (rs : List (List ByteArray)) : fl rs rs.length 0 = rs.flatten := by simp [fl]
theorem fl_step (rs : List (List ByteArray)) (k j : Nat) (row : List ByteArray) (hr : rs.getD k [] = row) (hj : j < row.length) : fl rs k (j + 1) = fl rs k j ++ [row[j]] := by
  subst hr
  unfold fl
  rw [List.take_succ_eq_append_getElem hj, ← List.append_assoc]
theorem fl_lt (rs : List (List ByteArray)) (k j : Nat) (row : List ByteArray) (hr : rs.getD k [] = row) (hk : k < rs.length) (hj : j < row.length) : (fl rs k j).length + 1 ≤ rs.flatten.length := by
  have h2 : rs = rs.take k ++ rs.drop k := (List.take_append_drop k rs).symm
  have h3 : rs.drop k = rs[k] :: rs.drop (k + 1) := List.drop_eq_getElem_cons hk
  have h4 : rs.getD k [] = rs[k] := by simp [hk]
  have h6 : rs.flatten = (rs.take k ++ rs[k] :: rs.drop (k + 1)).flatten := by rw [← h3, ← h2]
  subst hr
  rw [h6, List.flatten_append, List.flatten_cons, ← h4]
  unfold fl
  simp only [List.length_append, List.length_take]
  omega

/-- The one row that the gathered list is put into. -/
theorem one_row {w : World} {a : Option Addr} {c : Nat} {ss : List ByteArray} (hs : SS w a ss) (hl : ss.length ≤ maxLen) :
    RR (w.alloc (.cells #[.slice a ss.length c] 25)) (some ⟨w.heap.size, 0, none⟩) [ss] := by
  refine .inr ⟨w.heap.size, 0, rfl, fun k hk => ?_⟩
  obtain rfl : k = 0 := by simp at hk; exact hk
  refine ⟨a, c, ?_, hs.below ((Below.refl _ _).alloc (Nat.le_refl _) _), hl⟩
  simp only [World.cell?, heap_alloc_new]
  rfl

theorem same10b (ao bo : Option Addr) (n m c d : Nat) (ss : List ByteArray) (w : World) (hn : ss.length = n) (hn' : ss.length = m) (hs : SS w ao ss) (ht : SS w bo ss) (hm : ss.length ≤ maxLen) :
    Calls Try.prog 10 #[.slice ao n c, .slice bo m d] w fun e w' => e = .returned (.bool true) ∧ Below w.heap.size w w' := by
  subst hn; subst hn'
  exact (same10 ao bo c d ss w hs ht hm).mono fun e w' ⟨h1, n, h2⟩ => ⟨h1, by rw [h2]; exact below_drewN (Below.refl _ _) n⟩
theorem build7_len (ao : Option Addr) (n c : Nat) (rs : List (List ByteArray)) (w : World) (hn : rs.length = n) (hs : RR w ao rs) (hm : rs.length ≤ 43690) :
    Calls Try.prog 7 #[.slice ao n c] w fun e w' => ∃ g, e = .returned (.pointer (some ⟨g, 0, none⟩)) ∧ Cfg w' g rs ∧ Below w.heap.size w w' := by
  subst hn
  exact build7 ao c rs w hs hm
/-- What the search for the first listed string knows behind k rows. -/
def Seen (rs : List (List ByteArray)) (k : Nat) (f x : Value) : Prop := (f = .bool false ∧ (rs.take k).flatten = []) ∨ (f = .bool true ∧ ∃ s, x = .string s ∧ rs.flatten.head? = some s)
theorem seen_skip {rs : List (List ByteArray)} {k : Nat} {x' : Value} (hk : k < rs.length) (h : (rs.take k).flatten = []) (hr : rs.getD k [] = []) : Seen rs (k + 1) (.bool false) x' := by
  refine .inl ⟨rfl, ?_⟩
  have h4 : rs.getD k [] = rs[k] := by simp [hk]
  rw [List.take_succ_eq_append_getElem hk, List.flatten_append, h, ← h4, hr]
  rfl
theorem seen_hit {rs : List (List ByteArray)} {k : Nat} (hk : k < rs.length) (h : (rs.take k).flatten = []) {row : List ByteArray} (hr : rs.getD k [] = row) (h0 : 0 < row.length) : Seen rs (k + 1) (.bool true) (.string row[0]) := by
  refine .inr ⟨rfl, _, rfl, ?_⟩
  have h2 : rs = rs.take k ++ rs.drop k := (List.take_append_drop k rs).symm
  have h3 : rs.drop k = rs[k] :: rs.drop (k + 1) := List.drop_eq_getElem_cons hk
  have h4 : rs.getD k [] = rs[k] := by simp [hk]
  have h6 : rs.flatten = (rs.take k ++ rs[k] :: rs.drop (k + 1)).flatten := by rw [← h3, ← h2]
  rw [h6, List.flatten_append, h, List.flatten_cons, ← h4, hr, List.nil_append, List.head?_append]
  cases row with
  | nil => simp at h0
  | cons y ys => rfl
theorem models_none {rs : List (List ByteArray)} (h : rs.flatten = []) : (models rs).length = 0 := by
  have := models_le rs
  rw [h] at this
  simpa using this
theorem models_first {rs : List (List ByteArray)} {s : ByteArray} (h : rs.flatten.head? = some s) : ∃ h0 : 0 < (models rs).length, (models rs)[0] = s := by
  have := models_head rs
  rw [h] at this
  cases hm : models rs with
  | nil => rw [hm] at this; cases this
  | cons y ys =>
    rw [hm] at this
    simp at this
    exact ⟨by simp, by simpa using this⟩

theorem RR.drop' {w : World} {ao ad : Option Addr} {rs : List (List ByteArray)} (h : RR w ao rs) (j : Nat) (had : j < rs.length → ad = Option.map (fun x => x.add j) ao) : RR w ad (rs.drop j) := by
  by_cases hj : j < rs.length
  · obtain ⟨b, off, rfl, _⟩ := h.at hj
    exact h.drop rfl j fun _ => by rw [had hj, Option.map_some, add_none]
  · exact .inl (List.drop_eq_nil_of_le (by omega))

/-- What is merged behind j strings of the second part. -/
def mg (P Q : List ByteArray) (j : Nat) : List ByteArray := (Q.take j).foldl add P
theorem mg_zero (P Q : List ByteArray) : mg P Q 0 = P := rfl
theorem mg_end (P Q : List ByteArray) : mg P Q Q.length = Q.foldl add P := by simp [mg]
theorem mg_step (P Q : List ByteArray) (j : Nat) (hj : j < Q.length) : mg P Q (j + 1) = add (mg P Q j) Q[j] := by
  unfold mg
  rw [List.take_succ_eq_append_getElem hj, List.foldl_append]
  rfl
theorem mg_hit {P Q : List ByteArray} {j : Nat} (hj : j < Q.length) (h : has (mg P Q j) Q[j] = true) : mg P Q (j + 1) = mg P Q j := by
  rw [mg_step P Q j hj]; simp [add, h]
theorem mg_new {P Q : List ByteArray} {j : Nat} (hj : j < Q.length) (h : has (mg P Q j) Q[j] = false) : mg P Q (j + 1) = mg P Q j ++ [Q[j]] := by
  rw [mg_step P Q j hj]; simp [add, h]
theorem mg_le (P Q : List ByteArray) (j : Nat) : (mg P Q j).length ≤ P.length + Q.length := by
  have := foldl_le (Q.take j) P
  unfold mg
  rw [List.length_take] at this
  omega
theorem take_succ' {ss : List ByteArray} {j : Nat} (hj : j < ss.length) : ss.take (j + 1) = ss.take j ++ [ss[j]] := List.take_succ_eq_append_getElem hj
theorem has_of_mem {ss : List ByteArray} {s : ByteArray} (h : s ∈ ss) : has ss s = true := (has_iff _ _).2 ⟨s, h, rfl⟩
theorem mem_flatten_get {rs : List (List ByteArray)} {i j : Nat} (hi : i < rs.length) {row : List ByteArray} (hr : rs.getD i [] = row) (hj : j < row.length) : row[j] ∈ rs.flatten := by
  have h4 : rs.getD i [] = rs[i] := by simp [hi]
  rw [List.mem_flatten]
  refine ⟨row, ?_, List.getElem_mem hj⟩
  rw [← hr, h4]
  exact List.getElem_mem hi
theorem has_listed {rs : List (List ByteArray)} {i : Nat} (hi : i < (models rs).length) : listed rs (models rs)[i] = true := by
  rw [listed_flatten, ← has_models]
  exact has_of_mem (List.getElem_mem hi)
theorem has9_len (ao : Option Addr) (n c : Nat) (ss : List ByteArray) (t : ByteArray) (w : World) (hn : ss.length = n) (hs : SS w ao ss) (hm : ss.length ≤ maxLen) :
    Calls Try.prog 9 #[.slice ao n c, .string t] w fun e w' => e = .returned (.bool (has ss t)) ∧ w' = w := by
  subst hn
  exact has9 ao c ss t w hs hm
theorem flat_take_le (rs : List (List ByteArray)) (m : Nat) : (rs.take m).flatten.length ≤ rs.flatten.length ∧ (rs.drop m).flatten.length ≤ rs.flatten.length := by
  have e : rs.flatten = (rs.take m).flatten ++ (rs.drop m).flatten := by rw [← List.flatten_append, List.take_append_drop]
  have h : rs.flatten.length = (rs.take m).flatten.length + (rs.drop m).flatten.length := by rw [e, List.length_append]
  omega
theorem flatten_cons_nil (rs : List (List ByteArray)) : (rs.flatten.map fun s => [s]).flatten = rs.flatten := by
  induction rs.flatten with
  | nil => rfl
  | cons x xs ih => rw [List.map_cons, List.flatten_cons, ih]; rfl
end Go.Proofs.Qxb6626449a
