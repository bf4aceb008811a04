import Derived.Test.Qxb6626483aFmtPlain4
import Derived.Test.Qxb6626483aFmtWalk3
import Derived.Deep.DeepCutAuto
import Derived.Deep.QuietTactic
import Derived.BigQuiet
namespace Go.Proofs.Qxb6626483aFmt
open Go.ChangeShapes Go.WideShapes Go.ChangeAt Go.RowKit

set_option maxHeartbeats 4000000 in
set_option maxRecDepth 100000 in
theorem walk4 (d : ByteArray) (ao : Option Addr) (c : Nat) (ss : List ByteArray) (kk : Int) (u v : ByteArray) (w : World) (hs : SS w ao ss) (hm : ss.length ≤ maxLen) (hd : d.size ≤ maxLen) (hu : u.size ≤ maxLen) (hv : v.size ≤ maxLen) :
    Calls Tryf.prog 4 #[.string d, .slice ao ss.length c, .int .i64 kk, .string u, .string v] w fun e w' => e = .returned (.bool true) ∧ Below w.heap.size w w' := by
  have h5 := bytes10 d ao c ss kk u v w hs hm hd hu hv
  obtain ⟨i0, hi, hz0, hz1, hz2⟩ := info_parts info30
  go_enter Tryf.func4, Tryf.ntmps4
  go_wp2_with fail
  refine h5.mono ?_
  rintro e w1 ⟨⟨r, rfl⟩, hw1⟩
  rw [hw1]
  clear h5 hw1 w1
  cases r
  · go_wp2_with fail
    go_ret
    exact ⟨rfl, Below.refl _ _⟩
  by_cases hd1 : 1048576 < (d.size : Int)
  · go_wp2_with fail
    go_ret
    exact ⟨rfl, Below.refl _ _⟩
  by_cases hu1 : 1048576 < (u.size : Int)
  · go_wp2_with fail
    go_ret
    exact ⟨rfl, Below.refl _ _⟩
  by_cases hv1 : 1048576 < (v.size : Int)
  · go_wp2_with fail
    go_ret
    exact ⟨rfl, Below.refl _ _⟩
  have h6 := add6 ((d.size : Int) + (u.size : Int) + (v.size : Int)) ao c ss w (by omega) (by omega) hs hm
  go_wp2_with fail
  refine h6.mono ?_
  rintro e w1 ⟨⟨r, rfl, hr⟩, hw1⟩
  rw [hw1]
  clear h6 hw1 w1
  by_cases hr1 : 1048576 < r
  · go_wp2_with fail
    go_ret
    exact ⟨rfl, Below.refl _ _⟩
  have hsum : u.size + tb ss ≤ 1048576 := by have := hr (by omega); omega
  have la := tb_len ss
  have la' : ss.length ≤ 65536 := by omega
  clear hr la hm hd hu hv
  by_cases hk1 : kk < 0
  · go_wp2_with fail
    go_ret
    exact ⟨rfl, Below.refl _ _⟩
  by_cases hk2 : (ss.length : Int) < kk
  · go_wp2_with fail
    go_ret
    exact ⟨rfl, Below.refl _ _⟩
  obtain ⟨m, rfl⟩ := Int.eq_ofNat_of_zero_le (show 0 ≤ kk by omega)
  have hmn : m ≤ ss.length := by omega
  clear hk1 hk2
  have h7 := rels7 ao c ss w hs la'
  go_wp2_with fail
  refine h7.mono ?_
  rintro e w1 ⟨rsA, hmA, rfl, hPA, hb1⟩
  have hlA : rsA.length = ss.length := by rw [← hmA, List.length_map]
  have HA := hide hmA
  have HlA := hide hlA
  clear h7 hmA hlA
  go_upto_region 11 with fail
  go_cut [13] (fun v13 wx => v13 = .pointer (some ⟨w1.heap.size, 0, none⟩) ∧ wx.cell? ⟨w1.heap.size, 1, none⟩ = some (.string u) ∧ Below w1.heap.size w1 wx)
  case first =>
    go_wp2_with fail
    go_meet
    case rel => exact ⟨rfl, rel1 w1 _ u _, (Below.refl _ _).alloc (Nat.le_refl _) _⟩
  case rest =>
  obtain ⟨rfl, hins, hbc⟩ := hcut
  obtain ⟨wI, hwI⟩ : ∃ x, x = wc := ⟨_, rfl⟩
  subst hwI
  have hPc := hPA.below hbc
  have hBc : Below w.heap.size w wI := hb1.trans (hbc.mono hb1.size)
  have HI := hide hins
  clear hPA hbc hb1 hins
  go_wp2_with (at_make; refine wpList_make_own _ rfl (.const (.int .i64 0)) (.tmp 70) 25 rfl wI.heap.size 30 i0 (.pointer none) 1 Tryf.underlying25 hi hz0 hz1 .i64 .i64 _ (ss.length + 1) rfl rfl (by omega) (by rw [hz2]; omega) (by unfold maxLen; omega) (Nat.le_refl _) ?_)
  intro w3 hown3 hg3
  have hb3 : Below wI.heap.size wI w3 := (Below.refl _ _).grown hg3 (Nat.le_refl _) (fun k hk => by cases hk)
  have hP3 := (hPc.below hb3).take m
  have hl3 : (rsA.take m).length = m := by rw [List.length_take, HlA.out]; omega
  clear hg3
  go_wp2_with (at_builtin; refine wpList_append_fits _ rfl (.tmp 72) (.tmp 75) 25 rfl wI.heap.size 30 i0 1 Tryf.underlying25 hi hz1 wI.heap.size _ (ss.length + 1) _ rfl hown3 ⟨w.heap.size, 0, none⟩ m ss.length (ptrs (rsA.take m)) rfl (by rw [ptrs_length, hl3, Nat.mul_one]) (hP3.cellsAt _ rfl) (ptrs_one _) (by omega) ?_)
  intro w4 hown4 hg4
  have hb4 : Below wI.heap.size wI w4 := hb3.grown hg4 hb3.size (fun k hk => by cases hk; exact Nat.le_refl _)
  have hw4 : wI.heap.size ≤ w4.heap.size := hb4.size
  clear hg4 hown3 hb3 hP3
  go_wp2_with (at_builtin; refine wpList_append_fits _ rfl (.tmp 77) (.tmp 79) 25 rfl wI.heap.size 30 i0 1 Tryf.underlying25 hi hz1 wI.heap.size _ (ss.length + 1) _ rfl (hown4.alloc _) ⟨w4.heap.size, 0, none⟩ 1 1 [.pointer (some ⟨w1.heap.size, 0, none⟩)] rfl rfl (cell_one_new _ _ _) (by intro u hu; simp at hu; subst hu; rfl) (by omega) ?_)
  intro w5 hown5 hg5
  have hb5 : Below wI.heap.size wI w5 := (hb4.alloc hw4 _).grown hg5 (by simp; omega) (fun k hk => by cases hk; exact Nat.le_refl _)
  have hP5 := hPc.below hb5
  have HD : Hid (∀ (ad : Addr), (m < ss.length → ad = ⟨w.heap.size, m, none⟩) → ∀ j x, (ptrs (rsA.drop m))[j]? = some x → w5.cell? (ad.add j) = some x) := fun ad had j x hx =>
    (hP5.drop (ad := some ad) rfl m (fun h => by rw [had (by rw [← HlA.out]; exact h), Nat.zero_add])).cellsAt ad rfl j x hx
  have hl5 : (ptrs (rsA.drop m)).length = ss.length - m := by rw [ptrs_length, List.length_drop, HlA.out]
  have HL5 := hide hl5
  have hlist : ptrs (rsA.take m) ++ (Value.pointer (some ⟨w1.heap.size, 0, none⟩) :: ptrs (rsA.drop m)) = ptrs (insAt rsA m (w1.heap.size, u)) := by
    unfold insAt
    rw [ptrs_append, ptrs_append, List.append_assoc]
    rfl
  have HLI := hide hlist
  clear hlist hl5
  clear hown4 hg5 hb4 hw4
  go_upto_region 15 with fail
  go_cut [2, 12, 14] (fun v2 v12 v14 wx => v2 = .int .i64 m ∧ v12 = .slice (some ⟨w.heap.size, 0, none⟩) ss.length ss.length ∧ v14 = .slice (some ⟨wI.heap.size, 0, none⟩) (ss.length + 1) (ss.length + 1) ∧ wx.ownsRow wI.heap.size 30 1 v14 (ss.length + 1) (ptrs (insAt rsA m (w1.heap.size, u))) ∧ Below wI.heap.size wI wx)
  case first =>
    by_cases hme : m < ss.length
    · have hne : ¬ ss.length = m := by omega
      have HC := HD.out ⟨w.heap.size, m, none⟩ (fun _ => rfl)
      have HC' := hide HC
      clear HC
      go_wp2_with (at_builtin; refine wpList_append_fits _ rfl (.tmp 81) (.tmp 84) 25 rfl wI.heap.size 30 i0 1 Tryf.underlying25 hi hz1 wI.heap.size _ (ss.length + 1) _ rfl hown5 ⟨w.heap.size, m, none⟩ (ss.length - m) _ (ptrs (rsA.drop m)) rfl (by rw [HL5.out, Nat.mul_one]) HC'.out (ptrs_one _) (by omega) ?_)
      intro w6 hown6 hg6
      have e6 : m + 1 + (ss.length - m) = ss.length + 1 := by omega
      have hb6 : Below wI.heap.size wI w6 := hb5.grown hg6 hb5.size (fun k hk => by cases hk; exact Nat.le_refl _)
      rw [e6, HLI.out] at hown6
      rw [e6]
      clear e6 hg6 hown5 hb5 hP5 hPc
      go_wp2_with fail
      go_meet
      case rel => exact ⟨rfl, rfl, rfl, hown6, hb6⟩
    · obtain rfl : m = ss.length := by omega
      have hdrop : rsA.drop ss.length = [] := List.drop_eq_nil_of_le (by rw [HlA.out]; exact Nat.le_refl _)
      have hown6 : w5.ownsRow wI.heap.size 30 1 (.slice (some ⟨wI.heap.size, 0, none⟩) (ss.length + 1) (ss.length + 1)) (ss.length + 1) (ptrs (insAt rsA ss.length (w1.heap.size, u))) := by
        rw [← HLI.out, hdrop]
        exact hown5
      clear hown5 hdrop
      go_wp2_with fail
      go_meet
      case rel => exact ⟨rfl, rfl, rfl, hown6, hb5⟩
  case rest =>
  obtain ⟨rfl, rfl, rfl, hownG, hbG⟩ := hcut
  have hPG := hPc.below hbG
  have hLI : Lie wc (insAt rsA m (w1.heap.size, u)) := by
    have h1 : Lie wc [(w1.heap.size, u)] := fun r hr => by
      simp at hr
      subst hr
      exact (hbG.cell (p := ⟨w1.heap.size, 1, none⟩) (World.block_lt_of_cell? wI _ HI.out)).trans HI.out
    exact ((hPG.take m).lie.append h1).append (fun r hr => hPG.lie r (List.mem_of_mem_drop hr))
  have hPins := (owns_PS hownG hLI).2
  have hBG : Below w.heap.size w wc := hBc.trans (hbG.mono hBc.size)
  have H2 := hide (two_boxes wc d v (some ⟨w.heap.size, 0, none⟩) (some ⟨wI.heap.size, 0, none⟩) ss.length ss.length (ss.length + 1) (ss.length + 1) rsA (insAt rsA m (w1.heap.size, u)) hPG hPins HlA.out (by rw [insAt_length, HlA.out]) (by rw [HA.out]; omega) (by rw [tb_insAt, HA.out]; show tb ss + (16 + u.size) ≤ 2097152; omega))
  have hbB := hide (boxes2_below wc d (.slice (some ⟨w.heap.size, 0, none⟩) ss.length ss.length) (.slice (some ⟨wI.heap.size, 0, none⟩) (ss.length + 1) (ss.length + 1)))
  have hszB := hide (boxes2_size wc d (.slice (some ⟨w.heap.size, 0, none⟩) ss.length ss.length) (.slice (some ⟨wI.heap.size, 0, none⟩) (ss.length + 1) (ss.length + 1)))
  clear hPins hLI hownG hbG hBc HI HLI HL5 HD hP5 hb5 hown5 hPc
  go_wp2_with fail
  refine ((H2.out _ (Below.refl _ _)).1).mono ?_
  rintro e w6 ⟨⟨x1, rfl, hx1, hx1'⟩, hb6⟩
  have hb6' : Below (wc.heap.size + 2) (boxes2 wc d (.slice (some ⟨w.heap.size, 0, none⟩) ss.length ss.length) (.slice (some ⟨wI.heap.size, 0, none⟩) (ss.length + 1) (ss.length + 1))) w6 := by rw [← hszB.out]; exact hb6
  have hB6 : Below wc.heap.size wc w6 := hbB.out.trans (hb6'.mono (by omega))
  have Hx1 := hide hx1
  have Hx1' := hide hx1'
  clear hb6 hbB hszB hx1 hx1'
  go_wp2_with fail
  refine ((H2.out w6 hb6').2).mono ?_
  rintro e w7 ⟨⟨x2, rfl, hx2, hx2'⟩, hb7⟩
  have hB7 : Below wc.heap.size wc w7 := hB6.trans (hb7.mono hB6.size)
  have hW7 : Below w.heap.size w w7 := hBG.trans (hB7.mono hBG.size)
  have hP7 := hPG.below hB7
  have h9 := first9 ao c ss v w7 (hs.below hW7) (by unfold maxLen; omega)
  have Hx2 := hide hx2
  have Hx2' := hide hx2'
  clear hb6' hb7 hB6 hB7 hBG hPG H2 hx2 hx2'
  go_wp2_with fail
  refine h9.mono ?_
  rintro e w8 ⟨rfl, hw8⟩
  rw [hw8]
  clear hw8 h9
  have hep := eql_ptr
  cases hfa : fst? ss v with
  | some k =>
    obtain ⟨hkA, hLA⟩ := look_of_fst HA.out hfa
    have e1 : x1 = .nilIface := Hx1.out (by rw [hLA]; rfl)
    have e3 : fstI ss v = (k : Int) := by simp [fstI, hfa]
    obtain ⟨b, off, e4, hc1, _⟩ := hP7.at hkA
    cases e4
    rw [Nat.zero_add] at hc1
    rw [HlA.out] at hkA
    rw [e1, e3, hLA]
    cases hq : (u.toList == v.toList) with
    | false =>
      have hLG : look (insAt rsA m (w1.heap.size, u)) v = some (rsA.getD k z0).1 := by rw [look_ne rsA m (w1.heap.size, u) v hq]; exact hLA
      have e2 : x2 = .nilIface := Hx2.out (by rw [hLG]; rfl)
      rw [e2, hLG]
      generalize (rsA.getD k z0).1 = gk at *
      clear hfa hLA hLG e1 e2 e3 Hx1 Hx1' Hx2 Hx2' HA HlA hP7
      simp only [ptrOf]
      go_wp2
      go_quiet (fail)
      go_wp2
      all_goals
        go_ret
        exact ⟨rfl, below_drewN hW7 _⟩
    | true =>
      by_cases hmk : m ≤ k
      · have hLG : look (insAt rsA m (w1.heap.size, u)) v = some w1.heap.size := look_ins rsA m (w1.heap.size, u) v hq (look_take_none HA.out hfa hmk)
        have e2 : x2 = .nilIface := Hx2.out (by rw [hLG]; rfl)
        rw [e2, hLG]
        generalize (rsA.getD k z0).1 = gk at *
        clear hfa hLA hLG e1 e2 e3 Hx1 Hx1' Hx2 Hx2' HA HlA hP7
        simp only [ptrOf]
        go_wp2
        all_goals
          go_ret
          exact ⟨rfl, hW7⟩
      · have hLG : look (insAt rsA m (w1.heap.size, u)) v = some (rsA.getD k z0).1 := look_early rsA m (w1.heap.size, u) v (look_take_some HA.out hfa (by omega))
        have e2 : x2 = .nilIface := Hx2.out (by rw [hLG]; rfl)
        rw [e2, hLG]
        generalize (rsA.getD k z0).1 = gk at *
        clear hfa hLA hLG e1 e2 e3 Hx1 Hx1' Hx2 Hx2' HA HlA hP7
        simp only [ptrOf]
        go_wp2
        all_goals
          go_ret
          exact ⟨rfl, hW7⟩
  | none =>
    have hLA := look_of_none HA.out hfa
    have e3 : fstI ss v = -1 := by simp [fstI, hfa]
    obtain ⟨T1, y1, e1⟩ := Hx1'.out (by rw [hLA]; rfl)
    rw [e1, e3, hLA]
    cases hq : (u.toList == v.toList) with
    | false =>
      have hLG : look (insAt rsA m (w1.heap.size, u)) v = none := by rw [look_ne rsA m (w1.heap.size, u) v hq]; exact hLA
      obtain ⟨T2, y2, e2⟩ := Hx2'.out (by rw [hLG]; rfl)
      rw [e2, hLG]
      clear hfa hLA hLG e1 e2 e3 Hx1 Hx1' Hx2 Hx2' HA HlA hP7
      simp only [ptrOf]
      go_wp2
      go_quiet (fail)
      go_wp2
      all_goals
        go_ret
        exact ⟨rfl, below_drewN hW7 _⟩
    | true =>
      have hLG : look (insAt rsA m (w1.heap.size, u)) v = some w1.heap.size := look_ins rsA m (w1.heap.size, u) v hq (look_take_none' HA.out m hfa)
      have e2 : x2 = .nilIface := Hx2.out (by rw [hLG]; rfl)
      rw [e2, hLG]
      clear hfa hLA hLG e1 e2 e3 Hx1 Hx1' Hx2 Hx2' HA HlA hP7
      simp only [ptrOf]
      go_wp2
      all_goals
        go_ret
        exact ⟨rfl, hW7⟩
end Go.Proofs.Qxb6626483aFmt
