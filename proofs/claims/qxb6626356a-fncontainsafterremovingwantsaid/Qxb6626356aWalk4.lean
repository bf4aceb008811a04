import Derived.Test.Qxb6626356aKept
import Derived.Deep.DeepCutAuto
namespace Go.Proofs.Qxb6626356a
open Go.ChangeShapes Go.WideShapes Go.ChangeAt Go.RowKit

set_option maxHeartbeats 400000 in
set_option maxRecDepth 100000 in
theorem walk4 (ao : Option Addr) (c : Nat) (ss : List ByteArray) (t : ByteArray) (w : World) (hs : SS w ao ss) (hnone : ao = none → ss = []) (hm : ss.length ≤ maxLen) (ht : t.size ≤ maxLen) :
    Calls Try.prog 4 #[.slice ao ss.length c, .string t] w fun e w' => e = .returned (.bool true) ∧ Below w.heap.size w w' := by
  have hb7 := bytes7_any ao c ss t w hs hm ht
  have hneq := fun (a : Option Addr) (n c : Nat) (wx : World) => run_neq_slice_nil_any (P := Try.prog) wx 22 9 a n c 0 0 Try.underlying22
  unfold maxLen at hm ht
  obtain ⟨i0, hi, hz0, hz1, hz2⟩ := info_parts info9
  go_enter Try.func4, Try.ntmps4
  go_wp2_with fail
  refine hb7.mono ?_
  rintro e w1 ⟨⟨r, rfl⟩, hw1⟩
  rw [hw1]
  clear hb7 hw1 w1
  cases r
  · go_wp2_with fail
    go_ret
    exact ⟨rfl, Below.refl _ _⟩
  go_upto_if 23 with fail
  · go_ret
    exact ⟨rfl, Below.refl _ _⟩
  · go_ret
    exact ⟨rfl, Below.refl _ _⟩
  have hl : (ss.length : Int) ≤ 65536 := by assumption
  have hts : (t.size : Int) ≤ 1048576 := by assumption
  go_cut [0] (fun v0 wx => ∃ a1 c1, v0 = .slice a1 ss.length c1 ∧ SS wx a1 ss ∧ Below w.heap.size w wx)
  case first =>
    cases ao with
    | none =>
      obtain rfl := hnone rfl
      go_wp2
      go_meet
      case rel => exact ⟨_, _, rfl, hs, Below.refl _ _⟩
    | some ad =>
      go_wp2_with (at_make; refine wpList_make_full _ rfl (.tmp 25) (.tmp 25) 22 rfl w.heap.size 9 i0 (.string ByteArray.empty) 1 Try.underlying22 hi hz0 hz1 .i64 .i64 _ _ ss.length rfl rfl rfl rfl ?b2 ?b3 ?b4 ?_)
      case b2 => rw [hz2]; omega
      case b3 => unfold maxLen; omega
      case b4 => exact Nat.le_refl _
      intro w1 hown1 hg1
      have hb1 : Below w.heap.size w w1 := (Below.refl _ _).grown hg1 (Nat.le_refl _) (fun k hk => by cases hk)
      obtain ⟨hBg, cur, hcur, hcl, _⟩ := row_open hown1
      have hsrc : ∀ wx, Below w.heap.size w wx → SS wx (some ad) ss := fun wx h => hs.below h
      clear hown1 hg1
      go_wp2_with (refine wpList_copy_splice rfl (.tmp 27) (.tmp 28) 22 22 rfl 9 Try.underlying22 size9 _ _ _ _ _ _ rfl rfl w.heap.size 0 cur 9 hcur (cellsOf ss) ?hn ?hpos ?hfit (cellsOf_one ss) w.heap.size w hb1 hBg ?_)
      case hn => rw [cellsOf_length]; simp
      case hpos => intro hp; rw [cellsOf_length] at hp; obtain ⟨ad', e1, h2⟩ := (hsrc w1 hb1).cellsAt hp; cases e1; first | exact h2 | exact ⟨rfl, h2⟩
      case hfit => rw [cellsOf_length]; omega
      intro w2 hrow2 hb2
      have hS2 : SS w2 (some ⟨w.heap.size, 0, none⟩) ss := row_SS hcl hrow2.out
      clear hrow2 hcur hb1 hsrc
      go_wp2
      go_meet
      case rel => exact ⟨_, _, rfl, hS2, hb2⟩
  case rest =>
    obtain ⟨a1, c1, rfl, hS, hbel⟩ := hcut
    have hS0 : Hid (SS wc a1 ss) := hS
    have hBw : w.heap.size ≤ wc.heap.size := hbel.size
    clear hs hnone hneq
    rcases hS with rfl | ⟨b, off, rfl, hc⟩
    · go_wp2_with fail
      go_loop [6, 7] (fun z i => ∃ q : Int, i = .int .i64 0 ∧ z = .int .i64 q) (fun _ i => 0)
      case atStart => exact ⟨_, rfl, rfl⟩
      case round =>
        obtain ⟨q, rfl, rfl⟩ := hrel
        go_wp2_with (at_make; refine wpList_make_own _ rfl (.const (.int .i64 0)) (.tmp 55) 22 rfl wc.heap.size 9 i0 (.string ByteArray.empty) 1 Try.underlying22 hi hz0 hz1 .i64 .i64 _ 0 rfl rfl rfl (by simp) (by simp) (Nat.le_refl _) ?_)
        intro w2 hown hg2
        have hb2 : Below wc.heap.size wc w2 := (Below.refl _ _).grown hg2 (Nat.le_refl _) (fun k hk => by cases hk)
        have hfin : Below w.heap.size w w2 := hbel.trans (hb2.mono hBw)
        clear hown hg2 hb2
        go_wp2_with fail
        go_loop [8, 9] (fun v i => v = .slice (some ⟨wc.heap.size, 0, none⟩) 0 0 ∧ i = .int .i64 (-1)) (fun _ i => 0)
        case atStart => exact ⟨rfl, rfl⟩
        case round =>
          obtain ⟨rfl, rfl⟩ := hrel
          go_wp2_with fail
          refine (contains_empty _ _ _ _).mono ?_
          rintro e w3 ⟨rfl, rfl⟩
          go_wp2_with fail
          refine (contains_empty _ _ _ _).mono ?_
          rintro e w4 ⟨rfl, rfl⟩
          go_wp2
          go_ret
          exact ⟨rfl, hfin⟩
    · go_wp2_with fail
      · go_ret
        exact ⟨rfl, hbel⟩
      go_loop [6, 7] (fun z i => ∃ k : Nat, ∃ q : Int, k ≤ ss.length ∧ i = .int .i64 k ∧ z = .int .i64 q) (fun _ i => ss.length - (intOf i).toNat)
      case atStart => exact ⟨0, _, Nat.zero_le _, rfl, rfl⟩
      case round =>
        obtain ⟨k, q, hk, rfl, rfl⟩ := hrel
        by_cases hlt : k < ss.length
        · have hcx := hc k hlt
          clear hc
          go_wp2
          · go_ret
            exact ⟨rfl, hbel⟩
          · go_round
            case rel => exact ⟨k + 1, _, by omega, by go_num, rfl⟩
            case measure => simp [intOf]; omega
        · go_wp2_with (at_make; refine wpList_make_own _ rfl (.const (.int .i64 0)) (.tmp 55) 22 rfl wc.heap.size 9 i0 (.string ByteArray.empty) 1 Try.underlying22 hi hz0 hz1 .i64 .i64 _ ss.length rfl rfl rfl (by rw [hz2]; omega) (by unfold maxLen; omega) (Nat.le_refl _) ?_)
          intro w2 hown hg2
          have hb2 : Below wc.heap.size wc w2 := (Below.refl _ _).grown hg2 (Nat.le_refl _) (fun k hk => by cases hk)
          clear hg2
          go_wp2_with fail
          go_loopw [8, 9] (fun v i wr => ∃ k : Nat, ∃ a2 c2, k ≤ ss.length ∧ i = .int .i64 ((k : Int) - 1) ∧ v = .slice a2 (kp ss t k).length c2 ∧ wr.ownsRow wc.heap.size 9 1 v (kp ss t k).length (cellsOf (kp ss t k)) ∧ Below wc.heap.size wc wr) (fun _ i _ => (intOf i + 1).toNat)
          case atStart => exact ⟨ss.length, _, _, Nat.le_refl _, rfl, by rw [kp_end]; rfl, by rw [kp_end]; exact hown, hb2⟩
          case round =>
            obtain ⟨k, a2, c2, hk2, rfl, rfl, hownr, hbr⟩ := hrel
            have hle := kp_le ss t k
            cases k with
            | zero =>
              have hA := kp_after ss t
              have hF : Below w.heap.size w wr := hbel.trans (hbr.mono hBw)
              have hS1 : SS wr (some ⟨b, off, none⟩) ss := hS0.out.below hbr
              have hS2 : SS wr a2 (kp ss t 0) := (owns_SS hownr).2
              have c1' := contains_any a2 c2 (kp ss t 0) t wr hS2 (by unfold maxLen; omega)
              have c2' := contains_any _ c1 ss t wr hS1 (by unfold maxLen; omega)
              rw [hA] at c1'
              clear hown hownr hbr hc hA hS1 hS2
              go_wp2_with fail
              refine c1'.mono ?_
              rintro e w3 ⟨rfl, hw3⟩
              rw [hw3]
              clear hw3
              go_wp2_with fail
              refine c2'.mono ?_
              rintro e w4 ⟨rfl, hw4⟩
              rw [hw4]
              clear hw4 c1' c2'
              cases hB : has ss t with
              | true =>
                have h1 : ((kp ss t 0).length : Int) < (ss.length : Int) := by have := kp_before ss t hB; omega
                clear hB
                go_wp2
                go_ret
                exact ⟨rfl, hF⟩
              | false =>
                have h1 : ((kp ss t 0).length : Int) = (ss.length : Int) := by have := kp_none ss t hB; omega
                have h2 : ¬ ((kp ss t 0).length : Int) < (ss.length : Int) := by omega
                clear hB h1
                go_wp2
                go_ret
                exact ⟨ret_bool (by simp; omega), hF⟩
            | succ j =>
              have ej : (((j + 1 : Nat) : Int) - 1) = (j : Int) := by omega
              rw [ej]
              have hjl : j < ss.length := by omega
              have hcx := (hbr.cell (p := ⟨b, off + j, none⟩) (World.block_lt_of_cell? wc _ (hc j (by omega)))).trans (hc j (by omega))
              have hwr : wc.heap.size ≤ wr.heap.size := hbr.size
              clear hown hc ej
              cases hEq : (ss[j].toList == t.toList) with
              | true =>
                have K := kp_miss hjl hEq
                have HK : Hid (kp ss t j = kp ss t (j + 1)) := K
                clear K
                go_wp2
                go_roundw
                case rel => exact ⟨j, a2, c2, by omega, rfl, by rw [HK.out], by rw [HK.out]; exact hownr, hbr⟩
                case measure => simp [intOf]
              | false =>
                have K := kp_hit hjl hEq
                have HK : Hid (kp ss t j = kp ss t (j + 1) ++ [ss[j]]) := K
                clear K
                go_wp2_with (at_builtin; refine wpList_append_own _ rfl (.tmp 70) (.tmp 75) 22 rfl wc.heap.size 9 i0 (.string ByteArray.empty) 1 16 Try.underlying22 hi hz0 hz1 hz2 rfl (by decide) _ _ _ rfl (hownr.alloc _) ⟨wr.heap.size, 0, none⟩ 1 1 [.string ss[j]] rfl rfl (cell_one_new _ _ _) (by intro u hu; simp at hu; subst hu; rfl) (by unfold maxLen; omega) (by omega) (by simp; omega) ?_)
                intro v' w3 hown3 hg3 _
                have hb3 : Below wc.heap.size wc w3 := (hbr.alloc hwr _).grown hg3 (by simp; omega) (fun k hk => (hownr.lt k hk).1)
                have ho4 : w3.ownsRow wc.heap.size 9 1 v' (kp ss t j).length (cellsOf (kp ss t j)) := by rw [HK.out, cellsOf_append, List.length_append]; exact hown3
                obtain ⟨a3, c3, hv3, _⟩ := owns_shape ho4
                have HV : Hid (v' = .slice a3 (kp ss t j).length c3) := hv3
                clear hv3 hown3 hg3 hownr
                go_wp2
                go_roundw
                case rel => exact ⟨j, a3, c3, by omega, rfl, HV.out, ho4, hb3⟩
                case measure => simp [intOf]
end Go.Proofs.Qxb6626356a
