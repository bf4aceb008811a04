import Derived.Test.Qxb6626449aFlat
import Derived.Deep.DeepCutAuto
import Derived.Deep.QuietTactic
import Derived.BigQuiet
namespace Go.Proofs.Qxb6626449a
open Go.ChangeShapes Go.WideShapes Go.ChangeAt Go.RowKit

set_option maxHeartbeats 4000000 in
set_option maxRecDepth 100000 in
theorem walk3 (ao : Option Addr) (c : Nat) (rs : List (List ByteArray)) (kk : Int) (w : World) (hs : RR w ao rs) (hlc : rs.length ≤ c) (hcm : c ≤ maxLen) :
    Calls Try.prog 3 #[.slice ao rs.length c, .int .i64 kk] w fun e w' => e = .returned (.bool true) ∧ Below w.heap.size w w' := by
  have hm : rs.length ≤ maxLen := Nat.le_trans hlc hcm
  have h12 := bytes5 ao c rs kk w hs hm
  have h6 := size6 ao c rs w hs hm
  obtain ⟨i0, hi, hz0, hz1, hz2⟩ := info_parts info9
  unfold maxLen at hm hcm
  go_enter Try.func3, Try.ntmps3
  go_wp2_with fail
  refine h12.mono ?_
  rintro e w1 ⟨⟨r, rfl⟩, hw1⟩
  rw [hw1]
  clear h12 hw1 w1
  cases r
  · go_wp2_with fail
    go_ret
    exact ⟨rfl, Below.refl _ _⟩
  go_wp2_with fail
  refine h6.mono ?_
  rintro e w1 ⟨⟨r, rfl, hbd⟩, hw1⟩
  rw [hw1]
  clear h6 hw1 w1
  cases r
  · go_wp2_with fail
    go_ret
    exact ⟨rfl, Below.refl _ _⟩
  obtain ⟨hf, hr⟩ := hbd rfl
  by_cases hk1 : kk < 0
  · go_wp2_with fail
    go_ret
    exact ⟨rfl, Below.refl _ _⟩
  by_cases hk2 : (rs.length : Int) < kk
  · go_wp2_with fail
    go_ret
    exact ⟨rfl, Below.refl _ _⟩
  obtain ⟨m, rfl⟩ := Int.eq_ofNat_of_zero_le (show 0 ≤ kk by omega)
  have hmn : m ≤ rs.length := by omega
  clear hk1 hk2
  have h7 := build7 ao c rs w hs hr
  clear hbd
  go_wp2_with fail
  refine h7.mono ?_
  rintro e w1 ⟨g1, rfl, hcfg, hb1⟩
  have h8 := models8 g1 rs w1 hcfg hr hf
  clear h7 hcfg
  go_wp2_with fail
  refine h8.mono ?_
  rintro e w2 ⟨aW, cW, rfl, hSW, hb2⟩
  have hB2 : Below w.heap.size w w2 := hb1.trans (hb2.mono hb1.size)
  have hR2 : RR w2 ao rs := hs.below hB2
  clear h8 hb1 hb2 
  have Hs := hide hs
  clear hs
  obtain ⟨hft, hfd⟩ := flat_take_le rs m
  have hlt1 : (rs.take m).length = m := by rw [List.length_take]; omega
  have hld1 : (rs.drop m).length = rs.length - m := List.length_drop
  have h7 := build7_len ao m c (rs.take m) w2 hlt1 (hR2.take m) (by omega)
  go_wp2_with fail
  refine h7.mono ?_
  rintro e w3 ⟨g3, rfl, hcfg, hb3⟩
  have h8 := models8 g3 (rs.take m) w3 hcfg (by omega) (by omega)
  clear h7 hcfg
  go_wp2_with fail
  refine h8.mono ?_
  rintro e w4 ⟨aP, cP, rfl, hSP, hb4⟩
  have hb34 : Below w2.heap.size w2 w4 := hb3.trans (hb4.mono hb3.size)
  have hB4 : Below w.heap.size w w4 := hB2.trans (hb34.mono hB2.size)
  have hR4 : RR w4 ao rs := hR2.below hb34
  have hSW4 : SS w4 aW (models rs) := hSW.below hb34
  clear h8 hb3 hb4 hb34 hR2 hSW hB2
  go_upto_region 9 with fail
  go_cut [0, 7] (fun v0 v7 wx => ∃ c0 aQ cQ, v0 = .slice ao rs.length c0 ∧ v7 = .slice aQ (models (rs.drop m)).length cQ ∧ SS wx aQ (models (rs.drop m)) ∧ Below w4.heap.size w4 wx)
  case first =>
    have h7 := fun (ad : Option Addr) (cc : Nat) (had : m < rs.length → ad = Option.map (fun x => x.add m) ao) => build7_len ad (rs.length - m) cc (rs.drop m) w4 hld1 (hR4.drop' m had) (by omega)
    have H7 := hide h7
    clear h7
    go_wp2_with fail
    all_goals
      refine (H7.out _ _ (by intro h; first | rfl | (exfalso; omega))).mono ?_
      rintro e w5 ⟨g5, rfl, hcfg, hb5⟩
      have h8 := models8 g5 (rs.drop m) w5 hcfg (by omega) (by omega)
      clear H7 hcfg
      go_wp2_with fail
      refine h8.mono ?_
      rintro e w6 ⟨aQ, cQ, rfl, hSQ, hb6⟩
      go_wp2_with fail
      go_meet
      case rel => exact ⟨_, aQ, cQ, rfl, rfl, hSQ, hb5.trans (hb6.mono hb5.size)⟩
  case rest =>
    obtain ⟨c0, aQ, cQ, rfl, rfl, hSQ, hb5⟩ := hcut
    have hB5 : Below w.heap.size w wc := hB4.trans (hb5.mono hB4.size)
    have hSP5 := hSP.below hb5
    have hSW5 := hSW4.below hb5
    have hR5 := hR4.below hb5
    have hMP := models_le (rs.take m)
    have hMQ := models_le (rs.drop m)
    have hMW := models_le rs
    have HM : Hid (models rs = (models (rs.drop m)).foldl add (models (rs.take m))) := models_split rs m
    have Hlist : Hid (∀ i (hi : i < (models rs).length), listed rs (models rs)[i] = true) := fun i hi => has_listed hi
    have Hhas : Hid (∀ s, s ∈ rs.flatten → has (models rs) s = true) := fun s hx => by rw [has_models]; exact has_of_mem hx
    have Honce := hide (once_models rs)
    generalize models (rs.take m) = P at *
    generalize models (rs.drop m) = Q at *
    generalize models rs = M at *
    have hP4 : P.length ≤ 4096 := by omega
    have hQ4 : Q.length ≤ 4096 := by omega
    have hM4 : M.length ≤ 4096 := by omega
    clear hMP hMQ hMW hft hfd hlt1 hld1 hb5 hB4 hSP hSW4 hR4 hf Hs
    go_wp2_with fail
    go_loopw [8, 9] (fun v i wr => ∃ j : Nat, ∃ a2 c2, j ≤ P.length ∧ i = .int .i64 j ∧ v = .slice a2 j c2 ∧ wr.ownsRow wc.heap.size 9 1 v j (cellsOf (P.take j)) ∧ Below wc.heap.size wc wr) (fun _ i _ => P.length - (intOf i).toNat)
    case atStart => exact ⟨0, _, _, Nat.zero_le _, rfl, rfl, World.ownsRow_nil _ _ _ _, Below.refl _ _⟩
    case round =>
      obtain ⟨j, a2, c2, hj, rfl, rfl, hown, hbr⟩ := hrel
      have hwr : wc.heap.size ≤ wr.heap.size := hbr.size
      by_cases hjl : j < P.length
      · obtain ⟨b, off, rfl, h1⟩ := (hSP5.below hbr).at hjl
        have HK := hide (take_succ' hjl)
        go_wp2_with (at_builtin; refine wpList_append_own _ rfl (.tmp 49) (.tmp 54) 25 rfl wc.heap.size 9 i0 (.string ByteArray.empty) 1 16 Try.underlying25 hi hz0 hz1 hz2 rfl (by decide) _ _ _ rfl (hown.alloc _) ⟨wr.heap.size, 0, none⟩ 1 1 [.string P[j]] rfl rfl (cell_one_new _ _ _) (by intro u hu; simp at hu; subst hu; rfl) (by unfold maxLen; omega) (by omega) (by simp; omega) ?_)
        intro v' w3 hown3 hg3 _
        have hb3 : Below wc.heap.size wc w3 := (hbr.alloc hwr _).grown hg3 (by simp; omega) (fun k hk => (hown.lt k hk).1)
        have ho4 : w3.ownsRow wc.heap.size 9 1 v' (j + 1) (cellsOf (P.take (j + 1))) := by rw [HK.out, cellsOf_append]; exact hown3
        obtain ⟨a3, c3, hv3, _⟩ := owns_shape ho4
        have HV := hide hv3
        clear hv3 hown3 hg3 hown
        go_wp2
        go_roundw
        case rel => exact ⟨j + 1, a3, c3, by omega, by go_num, HV.out, ho4, hb3⟩
        case measure => simp [intOf]; omega
      obtain rfl : j = P.length := by omega
      rw [List.take_length] at hown
      go_wp2_with fail
      go_loopw [8, 10] (fun v i wr => ∃ j : Nat, ∃ a2 c2, j ≤ Q.length ∧ i = .int .i64 j ∧ v = .slice a2 (mg P Q j).length c2 ∧ wr.ownsRow wc.heap.size 9 1 v (mg P Q j).length (cellsOf (mg P Q j)) ∧ Below wc.heap.size wc wr) (fun _ i _ => Q.length - (intOf i).toNat)
      case atStart => exact ⟨0, a2, c2, Nat.zero_le _, rfl, rfl, hown, hbr⟩
      case round =>
        clear hown hbr hwr
        obtain ⟨x, a3, c3, hx, rfl, rfl, hown, hbr⟩ := hrel
        have hwr : wc.heap.size ≤ wr.heap.size := hbr.size
        have hmg := mg_le P Q x
        by_cases hxl : x < Q.length
        · obtain ⟨b, off, rfl, h1⟩ := (hSQ.below hbr).at hxl
          have h9 := has9 a3 c3 (mg P Q x) Q[x] wr (owns_SS hown).2 (by unfold maxLen; omega)
          cases hh : has (mg P Q x) Q[x] with
          | true =>
            rw [hh] at h9
            have HN := hide (mg_hit hxl hh)
            clear hh
            go_wp2_with fail
            refine h9.mono ?_
            rintro e w5 ⟨rfl, hw5⟩
            rw [hw5]
            clear hw5 h9
            go_wp2
            go_roundw
            case rel => exact ⟨x + 1, a3, c3, by omega, by go_num, by rw [HN.out], by rw [HN.out]; exact hown, hbr⟩
            case measure => simp [intOf]; omega
          | false =>
            rw [hh] at h9
            have HN := hide (mg_new hxl hh)
            clear hh
            go_wp2_with fail
            refine h9.mono ?_
            rintro e w5 ⟨rfl, hw5⟩
            rw [hw5]
            clear hw5 h9
            go_wp2_with (at_builtin; refine wpList_append_own _ rfl (.tmp 69) (.tmp 74) 25 rfl wc.heap.size 9 i0 (.string ByteArray.empty) 1 16 Try.underlying25 hi hz0 hz1 hz2 rfl (by decide) _ _ _ rfl (hown.alloc _) ⟨wr.heap.size, 0, none⟩ 1 1 [.string Q[x]] rfl rfl (cell_one_new _ _ _) (by intro u hu; simp at hu; subst hu; rfl) (by unfold maxLen; omega) (by omega) (by simp; omega) ?_)
            intro v6 w6 hown6 hg6 _
            have hb6 : Below wc.heap.size wc w6 := (hbr.alloc hwr _).grown hg6 (by simp; omega) (fun k hk => (hown.lt k hk).1)
            have ho6 : w6.ownsRow wc.heap.size 9 1 v6 (mg P Q (x + 1)).length (cellsOf (mg P Q (x + 1))) := by rw [HN.out, cellsOf_append, List.length_append]; exact hown6
            obtain ⟨a6, c6, hv6, _⟩ := owns_shape ho6
            have HV := hide hv6
            clear hv6 hown6 hg6 hown
            go_wp2
            go_roundw
            case rel => exact ⟨x + 1, a6, c6, by omega, by go_num, HV.out, ho6, hb6⟩
            case measure => simp [intOf]; omega
        obtain rfl : x = Q.length := by omega
        have hSW6 := hSW5.below hbr
        have hSM := (owns_SS hown).2
        have HMM : Hid (mg P Q Q.length = M) := by rw [HM.out]; exact mg_end P Q
        have hB6 : Below w.heap.size w wr := hB5.trans (hbr.mono hB5.size)
        have hR6 := hR5.below hbr
        rw [HMM.out] at hSM
        have h10 := same10b aW a3 _ _ cW c3 M wr rfl (congrArg List.length HMM.out.symm) hSW6 hSM (by unfold maxLen; omega)
        clear hSW5 hSM hown hbr hR5 hB5 hSP5 hSQ hmg hwr
        go_wp2_with fail
        refine h10.mono ?_
        rintro e w7 ⟨rfl, hb7⟩
        have hB7 : Below w.heap.size w w7 := hB6.trans (hb7.mono hB6.size)
        have hSW7 := hSW6.below hb7
        have hR7 := hR6.below hb7
        clear h10 hb7 hB6 hSW6 hR6
        go_wp2_with fail
        go_loop [11] (fun i => ∃ k : Nat, k ≤ rs.length ∧ i = .int .i64 k) (fun i => rs.length - (intOf i).toNat)
        case atStart => exact ⟨0, Nat.zero_le _, rfl⟩
        case round =>
          obtain ⟨k, hk, rfl⟩ := hrel
          by_cases hlt : k < rs.length
          · obtain ⟨b, off, rfl, ai, ci, h1, hS, hl⟩ := hR7.at hlt
            obtain ⟨row, hrow⟩ : ∃ row, rs.getD k [] = row := ⟨_, rfl⟩
            rw [hrow] at h1 hS hl
            have Hmem : Hid (∀ j (hj : j < row.length), has M row[j] = true) := fun j hj => Hhas.out _ (mem_flatten_get hlt hrow hj)
            unfold maxLen at hl
            clear hrow hR7
            go_wp2_with fail
            go_loop [12] (fun i => ∃ j : Nat, j ≤ row.length ∧ i = .int .i64 j) (fun i => row.length - (intOf i).toNat)
            case atStart => exact ⟨0, Nat.zero_le _, rfl⟩
            case round =>
              obtain ⟨j, hj, rfl⟩ := hrel
              by_cases hjl : j < row.length
              · obtain ⟨b', off', rfl, h2⟩ := hS.at hjl
                have h9 := has9 aW cW M row[j] w7 hSW7 (by unfold maxLen; omega)
                rw [Hmem.out j hjl] at h9
                go_wp2_with fail
                refine h9.mono ?_
                rintro e w8 ⟨rfl, hw8⟩
                rw [hw8]
                clear hw8 h9
                go_wp2
                go_round
                case rel => exact ⟨j + 1, by omega, by go_num⟩
                case measure => simp [intOf]; omega
              · go_wp2
                go_round
                case rel => exact ⟨k + 1, by omega, by go_num⟩
                case measure => simp [intOf]; omega
          go_wp2_with fail
          go_loopw [13] (fun i wr => ∃ y : Nat, y ≤ M.length ∧ i = .int .i64 y ∧ Below w7.heap.size w7 wr) (fun i _ => M.length - (intOf i).toNat)
          case atStart => exact ⟨0, Nat.zero_le _, rfl, Below.refl _ _⟩
          case round =>
            obtain ⟨y, hy, rfl, hbr⟩ := hrel
            by_cases hyl : y < M.length
            · have h11 := listed11 ao c0 rs M[y] wr (hR7.below hbr) (by unfold maxLen; omega)
              rw [Hlist.out y hyl] at h11
              have hSWr := hSW7.below hbr
              obtain ⟨b, off, rfl, h1⟩ := hSWr.at hyl
              have h1' := (hSW7.at hyl)
              go_wp2_with fail
              refine h11.mono ?_
              rintro e w8 ⟨rfl, hw8⟩
              rw [hw8]
              clear hw8 h11 h1 h1'
              go_wp2_with fail
              go_loopw [14] (fun i wr => ∃ z : Nat, y < z ∧ z ≤ M.length ∧ i = .int .i64 z ∧ Below w7.heap.size w7 wr) (fun i _ => M.length - (intOf i).toNat)
              case atStart => exact ⟨y + 1, by omega, by omega, by go_num, hbr⟩
              case round =>
                clear hbr hSWr
                obtain ⟨z, hyz, hz, rfl, hbr⟩ := hrel
                have hSWr := hSW7.below hbr
                by_cases hzl : z < M.length
                · rcases hSWr with h0 | ⟨b2, off2, e2, hc⟩
                  · rw [h0] at hzl; simp at hzl
                  cases e2
                  have hcy := hc y hyl
                  have hcz := hc z hzl
                  have ho := Honce.out y z hyl hzl hyz
                  clear hc
                  go_wp2
                  go_quiet (fail)
                  go_wp2
                  go_roundw
                  case rel => exact ⟨z + 1, by omega, by omega, by go_num, below_drewN hbr _⟩
                  case measure => simp [intOf]; omega
                · go_wp2
                  go_roundw
                  case rel => exact ⟨y + 1, by omega, by go_num, hbr⟩
                  case measure => simp [intOf]; omega
            · go_wp2_with fail
              go_ret
              exact ⟨rfl, hB7.trans (hbr.mono hB7.size)⟩
end Go.Proofs.Qxb6626449a
