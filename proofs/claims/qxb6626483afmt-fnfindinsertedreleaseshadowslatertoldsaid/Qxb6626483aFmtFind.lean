import Derived.Test.Qxb6626483aFmtVers
import Derived.Test.Qxb6626483aFmtErr
import Derived.Deep.RegionWith
namespace Go.Proofs.Qxb6626483aFmt
open Go.ChangeShapes Go.WideShapes Go.ChangeAt Go.RowKit

def RetS (e : Ending) : Prop := ∃ s, e = .returned (.string s)
theorem RetS.mk (s : ByteArray) : RetS (.returned (.string s)) := ⟨s, rfl⟩

theorem snd_get {rs : List (Nat × ByteArray)} {k : Nat} (hk : k < rs.length) : (rs.getD k z0).2 = (rs.map (·.2))[k]'(by rw [List.length_map]; exact hk) := by simp [hk]

theorem take_succ' {ss : List ByteArray} {j : Nat} (hj : j < ss.length) : ss.take (j + 1) = ss.take j ++ [ss[j]] := List.take_succ_eq_append_getElem hj

set_option maxHeartbeats 1000000 in
set_option maxRecDepth 100000 in
theorem versions12 (g : Nat) (ao : Option Addr) (c : Nat) (rs : List (Nat × ByteArray)) (w : World) (hg1 : w.cell? ⟨g, 1, none⟩ = some (.slice ao rs.length c)) (hP : PS w ao rs) (htb : tb (rs.map (·.2)) ≤ 2097152) :
    Calls Tryf.prog 12 #[.pointer (some ⟨g, 0, none⟩)] w fun e w' => RetS e ∧ Below w.heap.size w w' := by
  obtain ⟨i0, hi, hz0, hz1, hz2⟩ := info_parts info9
  have hlen := tb_len (rs.map (·.2))
  obtain ⟨vs, hvs⟩ : ∃ vs, rs.map (·.2) = vs := ⟨_, rfl⟩
  have hl : vs.length = rs.length := by rw [← hvs, List.length_map]
  have hget : ∀ k (_ : k < rs.length) (hk' : k < vs.length), (rs.getD k z0).2 = vs[k] := fun k hk _ => by subst hvs; exact snd_get hk
  rw [hvs] at htb hlen
  have Hget := hide hget
  have hn16 : rs.length ≤ 131072 := by omega
  have Hl := hide hl
  clear hvs hlen hget hl
  go_enter Tryf.func12, Tryf.ntmps12
  go_wp2_with fail
  go_loopw [3, 11] (fun v i wr => ∃ k : Nat, ∃ a3 c3, k ≤ rs.length ∧ i = .int .i64 k ∧ v = .slice a3 k c3 ∧ wr.ownsRow w.heap.size 9 1 v k (cellsOf (vs.take k)) ∧ Below w.heap.size w wr) (fun _ i _ => rs.length - (intOf i).toNat)
  case atStart => exact ⟨0, _, _, Nat.zero_le _, rfl, rfl, World.ownsRow_nil _ _ _ _, Below.refl _ _⟩
  case round =>
    obtain ⟨k, a3, c3, hk, rfl, rfl, hown, hbr⟩ := hrel
    have hwr : w.heap.size ≤ wr.heap.size := hbr.size
    by_cases hlt : k < rs.length
    · obtain ⟨b, off, rfl, h1, h2⟩ := (hP.below hbr).at hlt
      have hkv : k < vs.length := by rw [Hl.out]; exact hlt
      rw [Hget.out k hlt hkv] at h2
      have HK := hide (take_succ' hkv)
      generalize (rs.getD k z0).1 = gr at h1 h2
      go_wp2_with (at_builtin; refine wpList_append_own _ rfl (.tmp 15) (.tmp 20) 22 rfl w.heap.size 9 i0 (.string ByteArray.empty) 1 16 Tryf.underlying22 hi hz0 hz1 hz2 rfl (by decide) _ _ _ rfl (hown.alloc _) ⟨wr.heap.size, 0, none⟩ 1 1 [.string vs[k]] rfl rfl (cell_one_new _ _ _) (by intro u hu; simp at hu; subst hu; rfl) (by unfold maxLen; omega) (by omega) (by simp; omega) ?_)
      intro v' w3 hown3 hg3 _
      have hb3 : Below w.heap.size w w3 := (hbr.alloc hwr _).grown hg3 (by simp; omega) (fun k hk => (hown.lt k hk).1)
      have ho4 : w3.ownsRow w.heap.size 9 1 v' (k + 1) (cellsOf (vs.take (k + 1))) := by rw [HK.out, cellsOf_append]; exact hown3
      obtain ⟨a4, c4, hv4, _⟩ := owns_shape ho4
      have HV := hide hv4
      clear hv4 hown3 hg3 hown
      go_wp2
      go_roundw
      case rel => exact ⟨k + 1, a4, c4, by omega, by go_num, HV.out, ho4, hb3⟩
      case measure => simp [intOf]; omega
    obtain rfl : k = rs.length := by omega
    have ho5 : wr.ownsRow w.heap.size 9 1 (.slice a3 vs.length c3) vs.length (cellsOf vs) := by
      have := hown
      rw [← Hl.out, List.take_length] at this
      exact this
    have h15 := sort15 ho5 (by rw [Hl.out]; exact hn16) hwr
    rw [Hl.out] at h15
    clear hown ho5
    go_wp2_with fail
    refine h15.mono ?_
    rintro e w5 ⟨rfl, us, hul, hut, ho6, hb5⟩
    have h16 := join16 ⟨#[44, 32]⟩ (by decide) ho6 (by omega)
    have hB5 : Below w.heap.size w w5 := hbr.trans hb5
    clear h15 hb5 ho6
    go_wp2_with fail
    refine h16.mono ?_
    rintro e w6 ⟨⟨s, rfl⟩, hb6⟩
    have hB6 : Below w.heap.size w w6 := hB5.trans (hb6.mono hB5.size)
    clear h16 hb6
    go_wp2_with fail
    go_ret
    exact ⟨RetS.mk _, hB6⟩

theorem errorfAt (x0 x1 x2 : ByteArray) (W : World) :
    Calls Tryf.prog 11 #[.string ⟨#[110, 111, 32, 112, 97, 121, 108, 111, 97, 100, 32, 105, 110, 32, 37, 115, 32, 104, 97, 115, 32, 118, 101, 114, 115, 105, 111, 110, 32, 37, 115, 59, 32, 116, 104, 101, 32, 118, 101, 114, 115, 105, 111, 110, 115, 32, 116, 104, 101, 114, 101, 32, 97, 114, 101, 32, 37, 115]⟩, .slice (some ⟨W.heap.size, 0, none⟩) 3 3] (W.alloc (.cells #[.iface 9 (.string x0), .iface 9 (.string x1), .iface 9 (.string x2)] 20)) fun e w' => (∃ g, e = .returned (.iface 47 (.pointer (some ⟨g, 0, none⟩)))) ∧ Below W.heap.size W w' := by
  have hn := heap_alloc_new W (.cells #[.iface 9 (.string x0), .iface 9 (.string x1), .iface 9 (.string x2)] 20)
  have hb : Below W.heap.size W (W.alloc (.cells #[.iface 9 (.string x0), .iface 9 (.string x1), .iface 9 (.string x2)] 20)) := (Below.refl _ _).alloc (Nat.le_refl _) _
  exact (errorf11 W.heap.size 3 x0 x1 x2 _ (by simp only [World.cell?, hn]; rfl) (by simp only [World.cell?, hn]; rfl) (by simp only [World.cell?, hn]; rfl)).mono fun e w' ⟨he, hw⟩ => ⟨he, hb.trans (hw.mono hb.size)⟩

/-- The release that Find finds: the block of the first one that carries the version. -/
def look (rs : List (Nat × ByteArray)) (t : ByteArray) : Option Nat := (rs.find? fun r => r.2.toList == t.toList).map (·.1)
def ptrOf : Option Nat → Value
  | some g => .pointer (some ⟨g, 0, none⟩)
  | none => .pointer none

theorem look_found {rs : List (Nat × ByteArray)} {t : ByteArray} {k : Nat} (hk : k < rs.length) (hno : look (rs.take k) t = none) (hy : ((rs.getD k z0).2.toList == t.toList) = true) : look rs t = some (rs.getD k z0).1 := by
  unfold look at *
  rw [Option.map_eq_none_iff] at hno
  have e : rs.getD k z0 = rs[k] := by simp [hk]
  have h2 : rs = rs.take k ++ rs[k] :: rs.drop (k + 1) := by
    rw [← List.drop_eq_getElem_cons hk, List.take_append_drop]
  have h4 : (rs.take k ++ rs[k] :: rs.drop (k + 1)).find? (fun r => r.2.toList == t.toList) = some rs[k] := by
    rw [List.find?_append, hno, Option.none_or, List.find?_cons, ← e, hy]
  rw [← h2] at h4
  rw [h4, e]
  rfl
theorem look_step {rs : List (Nat × ByteArray)} {t : ByteArray} {k : Nat} (hk : k < rs.length) (hno : look (rs.take k) t = none) (hy : ((rs.getD k z0).2.toList == t.toList) = false) : look (rs.take (k + 1)) t = none := by
  unfold look at *
  rw [Option.map_eq_none_iff] at *
  have e : rs.getD k z0 = rs[k] := by simp [hk]
  rw [List.take_succ_eq_append_getElem hk, List.find?_append, hno, Option.none_or, List.find?_cons, ← e, hy]
  rfl

/-- What Find hands back. -/
def RetF (o : Option Nat) (e : Ending) : Prop := ∃ x, e = .returned (.tuple #[ptrOf o, x]) ∧ (o.isSome = true → x = .nilIface) ∧ (o.isSome = false → ∃ T u, x = .iface T u)

set_option maxHeartbeats 2000000 in
set_option maxRecDepth 100000 in
theorem find8 (g : Nat) (d : ByteArray) (ao : Option Addr) (c : Nat) (rs : List (Nat × ByteArray)) (t : ByteArray) (w : World) (hg0 : w.cell? ⟨g, 0, none⟩ = some (.string d)) (hg1 : w.cell? ⟨g, 1, none⟩ = some (.slice ao rs.length c)) (hP : PS w ao rs) (htb : tb (rs.map (·.2)) ≤ 2097152) :
    Calls Tryf.prog 8 #[.pointer (some ⟨g, 0, none⟩), .string t] w fun e w' => RetF (look rs t) e ∧ Below w.heap.size w w' := by
  have hlen := tb_len (rs.map (·.2))
  rw [List.length_map] at hlen
  have hn16 : rs.length ≤ 131072 := by omega
  have hgb : g < w.heap.size := World.block_lt_of_cell? w _ hg0
  have h12 : ∀ wx, Below w.heap.size w wx → Calls Tryf.prog 12 #[.pointer (some ⟨g, 0, none⟩)] wx fun e w' => RetS e ∧ Below wx.heap.size wx w' := fun wx hb =>
    versions12 g ao c rs wx ((hb.cell (p := ⟨g, 1, none⟩) hgb).trans hg1) (hP.below hb) htb
  clear hlen
  go_enter Tryf.func8, Tryf.ntmps8
  go_wp2_with fail
  go_loop [13] (fun i => ∃ k : Nat, k ≤ rs.length ∧ i = .int .i64 k ∧ look (rs.take k) t = none) (fun i => rs.length - (intOf i).toNat)
  case atStart => exact ⟨0, Nat.zero_le _, rfl, rfl⟩
  case round =>
    obtain ⟨k, hk, rfl, hno⟩ := hrel
    have HN := hide hno
    clear hno
    by_cases hlt : k < rs.length
    · obtain ⟨b, off, rfl, h1, h2⟩ := hP.at hlt
      have HF := hide (look_found (t := t) hlt HN.out)
      have HS := hide (look_step (t := t) hlt HN.out)
      have h12' := hide h12
      clear h12
      generalize (rs.getD k z0).1 = gr at *
      generalize (rs.getD k z0).2 = vr at *
      cases hq : (vr.toList == t.toList) with
      | true =>
        have HL := hide (HF.out hq)
        go_wp2_with fail
        go_ret2
        rw [HL.out]
        exact ⟨⟨_, rfl, (fun _ => rfl), (fun h => by cases h)⟩, Below.refl _ _⟩
      | false =>
        have HL := hide (HS.out hq)
        go_wp2_with fail
        go_round
        case rel => exact ⟨k + 1, by omega, by go_num, HL.out⟩
        case measure => simp [intOf]; omega
    · have hno' : look rs t = none := by rw [← HN.out, List.take_of_length_le (by omega)]
      have H12 := hide h12
      have HL := hide hno'
      clear h12 hno'
      go_wp2_with fail
      go_region_with (first
        | (go_at_call 12; refine (H12.out _ ?_).mono ?_; (repeat (first | exact Below.refl _ _ | refine Below.drew ?_)); rintro e w5 ⟨⟨s, rfl⟩, hb5⟩; have hc5 : w5.cell? ⟨g, 0, none⟩ = some (.string d) := (hb5.cell (p := ⟨g, 0, none⟩) hgb).trans hg0)
        | (go_at_call 11; refine (errorfAt _ _ _ _).mono ?_; rintro e w6 ⟨⟨g6, rfl⟩, hb6⟩))
      all_goals
        have hB : Below w.heap.size w w6 := ((Below.refl w.heap.size w).drew.trans hb5).trans (hb6.mono hb5.size)
        clear hb5 hb6 H12
        go_wp2_with fail
        go_ret2
        rw [HL.out]
        exact ⟨⟨_, rfl, (fun h => by cases h), (fun _ => ⟨_, _, rfl⟩)⟩, hB⟩
end Go.Proofs.Qxb6626483aFmt
