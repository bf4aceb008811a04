import Derived.Test.Qxb6626356aInsert
import Derived.Deep.DeepCutAuto
namespace Go.Proofs.Qxb6626356a
open Go.ChangeShapes Go.WideShapes Go.ChangeAt Go.RowKit

set_option maxHeartbeats 400000 in
set_option maxRecDepth 100000 in
theorem walk3 (ao : Option Addr) (c : Nat) (ss : List ByteArray) (cut : Int) (t : ByteArray) (w : World) (hs : SS w ao ss) (hnone : ao = none → ss = []) (hnc : ss.length ≤ c) (hcm : c ≤ maxLen) (ht : t.size ≤ maxLen) :
    Calls Try.prog 3 #[.slice ao ss.length c, .int .i64 cut, .string t] w fun e w' => e = .returned (.bool true) ∧ Below w.heap.size w w' := by
  have hm : ss.length ≤ maxLen := Nat.le_trans hnc hcm
  have hb7 := bytes5_any ao c ss cut t w hs hm ht
  have hneq := fun (a : Option Addr) (n c : Nat) (wx : World) => run_neq_slice_nil_any (P := Try.prog) wx 22 9 a n c 0 0 Try.underlying22
  unfold maxLen at hm ht hcm
  obtain ⟨i0, hi, hz0, hz1, hz2⟩ := info_parts info9
  go_enter Try.func3, Try.ntmps3
  go_wp2_with fail
  refine hb7.mono ?_
  rintro e w1 ⟨⟨r, rfl⟩, hw1⟩
  rw [hw1]
  clear hb7 hw1 w1
  cases r
  · go_wp2_with fail
    go_ret
    exact ⟨rfl, Below.refl _ _⟩
  go_upto_if 29 with fail
  · go_ret
    exact ⟨rfl, Below.refl _ _⟩
  · go_ret
    exact ⟨rfl, Below.refl _ _⟩
  have hl : (ss.length : Int) ≤ 65536 := by assumption
  have hts : (t.size : Int) ≤ 1048576 := by assumption
  go_cut [0] (fun v0 wx => ∃ a1 c1, v0 = .slice a1 ss.length c1 ∧ SS wx a1 ss ∧ ss.length ≤ c1 ∧ c1 ≤ 9223372036854775807 ∧ Below w.heap.size w wx)
  case first =>
    cases ao with
    | none =>
      obtain rfl := hnone rfl
      go_wp2
      go_meet
      case rel => exact ⟨_, _, rfl, hs, hnc, hcm, Below.refl _ _⟩
    | some ad =>
      go_wp2_with (at_make; refine wpList_make_full _ rfl (.tmp 31) (.tmp 31) 22 rfl w.heap.size 9 i0 (.string ByteArray.empty) 1 Try.underlying22 hi hz0 hz1 .i64 .i64 _ _ ss.length rfl rfl rfl rfl ?b2 ?b3 ?b4 ?_)
      case b2 => rw [hz2]; omega
      case b3 => unfold maxLen; omega
      case b4 => exact Nat.le_refl _
      intro w1 hown1 hg1
      have hb1 : Below w.heap.size w w1 := (Below.refl _ _).grown hg1 (Nat.le_refl _) (fun k hk => by cases hk)
      obtain ⟨hBg, cur, hcur, hcl, _⟩ := row_open hown1
      have hsrc : ∀ wx, Below w.heap.size w wx → SS wx (some ad) ss := fun wx h => hs.below h
      clear hown1 hg1
      go_wp2_with (refine wpList_copy_splice rfl (.tmp 33) (.tmp 34) 22 22 rfl 9 Try.underlying22 size9 _ _ _ _ _ _ rfl rfl w.heap.size 0 cur 9 hcur (cellsOf ss) ?hn ?hpos ?hfit (cellsOf_one ss) w.heap.size w hb1 hBg ?_)
      case hn => rw [cellsOf_length]; simp
      case hpos => intro hp; rw [cellsOf_length] at hp; obtain ⟨ad', e1, h2⟩ := (hsrc w1 hb1).cellsAt hp; cases e1; first | exact h2 | exact ⟨rfl, h2⟩
      case hfit => rw [cellsOf_length]; omega
      intro w2 hrow2 hb2
      have hS2 : SS w2 (some ⟨w.heap.size, 0, none⟩) ss := row_SS hcl hrow2.out
      clear hrow2 hcur hb1 hsrc
      go_wp2
      go_meet
      case rel => exact ⟨_, _, rfl, hS2, Nat.le_refl _, by omega, hb2⟩
  case rest =>
    obtain ⟨a1, c1, rfl, hS, hn1, hc1, hbel⟩ := hcut
    have hS0 : Hid (SS wc a1 ss) := hS
    have hBw : w.heap.size ≤ wc.heap.size := hbel.size
    clear hs hnone hneq
    rcases hS with rfl | ⟨b, off, rfl, hc⟩
    · go_wp2_with fail
      go_loop [8, 9] (fun z i => ∃ q : Int, i = .int .i64 0 ∧ z = .int .i64 q) (fun _ i => 0)
      case atStart => exact ⟨_, rfl, rfl⟩
      case round =>
        obtain ⟨q, rfl, rfl⟩ := hrel
        by_cases h1 : cut < 0
        · go_wp2
          go_ret
          exact ⟨rfl, hbel⟩
        by_cases h2 : 0 < cut
        · go_wp2
          go_ret
          exact ⟨rfl, hbel⟩
        obtain rfl : cut = 0 := by omega
        go_wp2_with (at_make; refine wpList_make_own _ rfl (.const (.int .i64 0)) (.tmp 70) 22 rfl wc.heap.size 9 i0 (.string ByteArray.empty) 1 Try.underlying22 hi hz0 hz1 .i64 .i64 _ 1 rfl rfl (by omega) (by rw [hz2]; omega) (by unfold maxLen; omega) (Nat.le_refl _) ?_)
        intro w2 hown2 hg2
        have hb2 : Below wc.heap.size wc w2 := (Below.refl _ _).grown hg2 (Nat.le_refl _) (fun k hk => by cases hk)
        have hw2 : wc.heap.size ≤ w2.heap.size := hb2.size
        clear hg2
        go_wp2_with fail
        go_loop [10, 11] (fun v i => v = .slice (some ⟨wc.heap.size, 0, none⟩) 0 1 ∧ i = .int .i64 0) (fun _ i => 0)
        case atStart => exact ⟨rfl, rfl⟩
        case round =>
          obtain ⟨rfl, rfl⟩ := hrel
          go_wp2_with (at_builtin; refine wpList_append_own _ rfl (.tmp 84) (.tmp 86) 22 rfl wc.heap.size 9 i0 (.string ByteArray.empty) 1 16 Try.underlying22 hi hz0 hz1 hz2 rfl (by decide) _ _ _ rfl (hown2.alloc _) ⟨w2.heap.size, 0, none⟩ 1 1 [.string t] rfl rfl (cell_one_new _ _ _) (by intro u hu; simp at hu; subst hu; rfl) (by unfold maxLen; omega) (by omega) (by simp; omega) ?_)
          intro v' w3 hown3 hg3 _
          have hb3 : Below wc.heap.size wc w3 := (hb2.alloc hw2 _).grown hg3 (by simp; omega) (fun k hk => (hown2.lt k hk).1)
          have ho4 : w3.ownsRow wc.heap.size 9 1 v' 1 (cellsOf [t]) := hown3
          have hF : Below w.heap.size w w3 := hbel.trans (hb3.mono hBw)
          clear hown3 hg3 hown2 hb2
          obtain ⟨a3, c3, rfl, _⟩ := owns_shape ho4
          have hS4 := (owns_SS ho4).2
          have cx := contains_len a3 1 c3 [t] t w3 rfl hS4 (by simp [maxLen])
          have ht4 : has [t] t = true := by simp [has]
          rw [ht4] at cx
          clear ho4 hb3 hS4 ht4
          go_wp2_with fail
          go_loop [10, 12] (fun v i => v = .slice a3 1 c3 ∧ i = .int .i64 0) (fun _ i => 0)
          case atStart => exact ⟨rfl, rfl⟩
          case round =>
            obtain ⟨rfl, rfl⟩ := hrel
            go_wp2_with fail
            refine (contains_empty _ _ _ _).mono ?_
            rintro e w4 ⟨rfl, hw4⟩
            rw [hw4]
            clear hw4
            go_wp2_with fail
            refine (contains_empty _ _ _ _).mono ?_
            rintro e w4 ⟨rfl, hw4⟩
            rw [hw4]
            clear hw4
            go_wp2_with fail
            refine (contains_empty _ _ _ _).mono ?_
            rintro e w4 ⟨rfl, hw4⟩
            rw [hw4]
            clear hw4
            go_wp2_with fail
            refine cx.mono ?_
            rintro e w4 ⟨rfl, hw4⟩
            rw [hw4]
            clear hw4 cx
            go_wp2
            go_ret
            exact ⟨rfl, hF⟩
    · go_wp2_with fail
      · go_ret
        exact ⟨rfl, hbel⟩
      go_loop [8, 9] (fun z i => ∃ k : Nat, ∃ q : Int, k ≤ ss.length ∧ i = .int .i64 k ∧ z = .int .i64 q) (fun _ i => ss.length - (intOf i).toNat)
      case atStart => exact ⟨0, _, Nat.zero_le _, rfl, rfl⟩
      case round =>
        obtain ⟨k, q, hk, rfl, rfl⟩ := hrel
        by_cases hlt : k < ss.length
        · have hcx := hc k hlt
          clear hc
          go_wp2
          · go_ret
            exact ⟨rfl, hbel⟩
          · go_round
            case rel => exact ⟨k + 1, _, by omega, by go_num, rfl⟩
            case measure => simp [intOf]; omega
        by_cases h1 : cut < 0
        · go_wp2
          go_ret
          exact ⟨rfl, hbel⟩
        by_cases h2 : (ss.length : Int) < cut
        · go_wp2
          go_ret
          exact ⟨rfl, hbel⟩
        obtain ⟨m, rfl⟩ := Int.eq_ofNat_of_zero_le (show 0 ≤ cut by omega)
        have hmn : m ≤ ss.length := by omega
        clear h1 h2
        go_wp2_with (at_make; refine wpList_make_own _ rfl (.const (.int .i64 0)) (.tmp 70) 22 rfl wc.heap.size 9 i0 (.string ByteArray.empty) 1 Try.underlying22 hi hz0 hz1 .i64 .i64 _ (ss.length + 1) rfl rfl (by omega) (by rw [hz2]; omega) (by unfold maxLen; omega) (Nat.le_refl _) ?_)
        intro w2 hown2 hg2
        have hb2 : Below wc.heap.size wc w2 := (Below.refl _ _).grown hg2 (Nat.le_refl _) (fun k hk => by cases hk)
        clear hg2
        go_wp2_with fail
        go_loopw [10, 11] (fun v i wr => ∃ j : Nat, ∃ a2 c2, j ≤ m ∧ i = .int .i64 j ∧ v = .slice a2 j c2 ∧ wr.ownsRow wc.heap.size 9 1 v j (cellsOf (ss.take j)) ∧ Below wc.heap.size wc wr) (fun _ i _ => m - (intOf i).toNat)
        case atStart => exact ⟨0, _, _, Nat.zero_le _, rfl, rfl, hown2, hb2⟩
        case round =>
          obtain ⟨j, a2, c2, hj, rfl, rfl, hownr, hbr⟩ := hrel
          have hwr : wc.heap.size ≤ wr.heap.size := hbr.size
          by_cases hjm : j < m
          · have hjl : j < ss.length := by omega
            have hcx := (hbr.cell (p := ⟨b, off + j, none⟩) (World.block_lt_of_cell? wc _ (hc j (by omega)))).trans (hc j (by omega))
            have K := take_step hjl
            have HK : Hid (ss.take (j + 1) = ss.take j ++ [ss[j]]) := K
            clear K hc hown2
            go_wp2_with (at_builtin; refine wpList_append_own _ rfl (.tmp 77) (.tmp 82) 22 rfl wc.heap.size 9 i0 (.string ByteArray.empty) 1 16 Try.underlying22 hi hz0 hz1 hz2 rfl (by decide) _ _ _ rfl (hownr.alloc _) ⟨wr.heap.size, 0, none⟩ 1 1 [.string ss[j]] rfl rfl (cell_one_new _ _ _) (by intro u hu; simp at hu; subst hu; rfl) (by unfold maxLen; omega) (by omega) (by simp; omega) ?_)
            intro v' w3 hown3 hg3 _
            have hb3 : Below wc.heap.size wc w3 := (hbr.alloc hwr _).grown hg3 (by simp; omega) (fun k hk => (hownr.lt k hk).1)
            have ho4 : w3.ownsRow wc.heap.size 9 1 v' (j + 1) (cellsOf (ss.take (j + 1))) := by rw [HK.out, cellsOf_append]; exact hown3
            obtain ⟨a3, c3, hv3, _⟩ := owns_shape ho4
            have HV : Hid (v' = .slice a3 (j + 1) c3) := hv3
            clear hv3 hown3 hg3 hownr
            go_wp2
            go_roundw
            case rel => exact ⟨j + 1, a3, c3, by omega, by go_num, HV.out, ho4, hb3⟩
            case measure => simp [intOf]; omega
          obtain rfl : j = m := by omega
          go_wp2_with (at_builtin; refine wpList_append_own _ rfl (.tmp 84) (.tmp 86) 22 rfl wc.heap.size 9 i0 (.string ByteArray.empty) 1 16 Try.underlying22 hi hz0 hz1 hz2 rfl (by decide) _ _ _ rfl (hownr.alloc _) ⟨wr.heap.size, 0, none⟩ 1 1 [.string t] rfl rfl (cell_one_new _ _ _) (by intro u hu; simp at hu; subst hu; rfl) (by unfold maxLen; omega) (by omega) (by simp; omega) ?_)
          intro v' w3 hown3 hg3 _
          have hb3 : Below wc.heap.size wc w3 := (hbr.alloc hwr _).grown hg3 (by simp; omega) (fun k hk => (hownr.lt k hk).1)
          have ho4 : w3.ownsRow wc.heap.size 9 1 v' (j + 1) (cellsOf (ins ss t j j)) := by rw [ins_start ss t j hmn, cellsOf_append]; exact hown3
          obtain ⟨a3, c3, hv3, _⟩ := owns_shape ho4
          have HV : Hid (v' = .slice a3 (j + 1) c3) := hv3
          clear hv3 hown3 hg3 hownr hown2 hbr hb2 hwr
          go_wp2_with fail
          go_loopw [10, 12] (fun v i wr => ∃ k : Nat, ∃ a2 c2, j ≤ k ∧ k ≤ ss.length ∧ i = .int .i64 k ∧ v = .slice a2 (k + 1) c2 ∧ wr.ownsRow wc.heap.size 9 1 v (k + 1) (cellsOf (ins ss t j k)) ∧ Below wc.heap.size wc wr) (fun _ i _ => ss.length - (intOf i).toNat)
          case atStart => exact ⟨j, _, _, Nat.le_refl _, hmn, rfl, HV.out, ho4, hb3⟩
          case round =>
            obtain ⟨x, a4, c4, hjx, hxn, rfl, rfl, hownr, hbr⟩ := hrel
            have hwr : wc.heap.size ≤ wr.heap.size := hbr.size
            by_cases hxl : x < ss.length
            · have hcx := (hbr.cell (p := ⟨b, off + x, none⟩) (World.block_lt_of_cell? wc _ (hc x (by omega)))).trans (hc x (by omega))
              have K := ins_step t hjx hxl
              have HK : Hid (ins ss t j (x + 1) = ins ss t j x ++ [ss[x]]) := K
              clear K hc ho4 hb3
              go_wp2_with (at_builtin; refine wpList_append_own _ rfl (.tmp 95) (.tmp 100) 22 rfl wc.heap.size 9 i0 (.string ByteArray.empty) 1 16 Try.underlying22 hi hz0 hz1 hz2 rfl (by decide) _ _ _ rfl (hownr.alloc _) ⟨wr.heap.size, 0, none⟩ 1 1 [.string ss[x]] rfl rfl (cell_one_new _ _ _) (by intro u hu; simp at hu; subst hu; rfl) (by unfold maxLen; omega) (by omega) (by simp; omega) ?_)
              intro v5 w5 hown5 hg5 _
              have hb5 : Below wc.heap.size wc w5 := (hbr.alloc hwr _).grown hg5 (by simp; omega) (fun k hk => (hownr.lt k hk).1)
              have ho6 : w5.ownsRow wc.heap.size 9 1 v5 (x + 1 + 1) (cellsOf (ins ss t j (x + 1))) := by rw [HK.out, cellsOf_append]; exact hown5
              obtain ⟨a5, c5, hv5, _⟩ := owns_shape ho6
              have HV5 : Hid (v5 = .slice a5 (x + 1 + 1) c5) := hv5
              clear hv5 hown5 hg5 hownr
              go_wp2
              go_roundw
              case rel => exact ⟨x + 1, a5, c5, by omega, by omega, by go_num, HV5.out, ho6, hb5⟩
              case measure => simp [intOf]; omega
            obtain rfl : x = ss.length := by omega
            have hF : Below w.heap.size w wr := hbel.trans (hbr.mono hBw)
            have hS1 : SS wr (some ⟨b, off, none⟩) ss := hS0.out.below hbr
            have cA := contains_any _ c1 ss t wr hS1 (by unfold maxLen; omega)
            rw [has_split ss t j] at cA
            have cL := contains_len (some ⟨b, off, none⟩) j c1 (ss.take j) t wr (by rw [List.length_take]; omega) (hS1.take j) (by rw [List.length_take]; unfold maxLen; omega)
            have cR : ∀ (ad : Option Addr) (n c : Nat), n = ss.length - j → (j < ss.length → ad = some ⟨b, off + j, none⟩) → Calls Try.prog 6 #[.slice ad n c, .string t] wr fun e w' => e = .returned (.bool (has (ss.drop j) t)) ∧ w' = wr := fun ad n c h1 h2 => contains_len ad n c (ss.drop j) t wr (by rw [List.length_drop, h1]) (hS1.drop rfl j h2) (by rw [List.length_drop]; unfold maxLen; omega)
            have HR := hide cR
            clear cR
            have cB := contains_len a4 (ss.length + 1) c4 _ t wr (ins_length t hjx hxn) (owns_SS hownr).2 (by rw [ins_length t hjx hxn]; unfold maxLen; omega)
            rw [has_ins] at cB
            clear ho4 hb3 hc hownr hbr
            go_wp2_with fail
            refine cA.mono ?_
            rintro e w4 ⟨rfl, hw4⟩
            rw [hw4]
            clear hw4 cA
            go_wp2_with fail
            refine cL.mono ?_
            rintro e w4 ⟨rfl, hw4⟩
            rw [hw4]
            clear hw4 cL
            go_wp2_with fail
            all_goals
              refine (HR.out _ _ _ rfl (by intro h; first | rfl | (exfalso; omega))).mono ?_
              rintro e w4 ⟨rfl, hw4⟩
              rw [hw4]
              clear hw4 HR
              go_wp2_with fail
              refine cB.mono ?_
              rintro e w4 ⟨rfl, hw4⟩
              rw [hw4]
              clear hw4 cB
              generalize has (ss.take j) t = p1
              generalize has (ss.drop j) t = p2
              cases p1 <;> cases p2
              all_goals
                go_wp2
                go_ret
                exact ⟨rfl, hF⟩
end Go.Proofs.Qxb6626356a
