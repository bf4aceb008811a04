import Derived.Test.Qxb6626449aFlat
namespace Go.Proofs.Qxb6626449a
open Go.ChangeShapes Go.WideShapes Go.ChangeAt Go.RowKit

set_option maxHeartbeats 4000000 in
set_option maxRecDepth 100000 in
theorem walk4 (ao : Option Addr) (c : Nat) (rs : List (List ByteArray)) (w : World) (hs : RR w ao rs) (hm : rs.length ≤ maxLen) :
    Calls Try.prog 4 #[.slice ao rs.length c] w fun e w' => e = .returned (.bool true) ∧ Below w.heap.size w w' := by
  have h12 := bytes12 ao c rs w hs hm
  have h6 := size6 ao c rs w hs hm
  obtain ⟨i0, hi, hz0, hz1, hz2⟩ := info_parts info25
  unfold maxLen at hm
  go_enter Try.func4, Try.ntmps4
  go_wp2_with fail
  refine h12.mono ?_
  rintro e w1 ⟨⟨r, rfl⟩, hw1⟩
  rw [hw1]
  clear h12 hw1 w1
  cases r
  · go_wp2_with fail
    go_ret
    exact ⟨rfl, Below.refl _ _⟩
  go_wp2_with fail
  refine h6.mono ?_
  rintro e w1 ⟨⟨r, rfl, hbd⟩, hw1⟩
  rw [hw1]
  clear h6 hw1 w1
  cases r
  · go_wp2_with fail
    go_ret
    exact ⟨rfl, Below.refl _ _⟩
  obtain ⟨hf, hr⟩ := hbd rfl
  have h7 := build7 ao c rs w hs hr
  clear hbd
  go_wp2_with fail
  refine h7.mono ?_
  rintro e w1 ⟨g1, rfl, hcfg, hb1⟩
  have h8 := models8 g1 rs w1 hcfg hr hf
  clear h7 hcfg
  go_wp2_with fail
  refine h8.mono ?_
  rintro e w2 ⟨aW, cW, rfl, hSW, hb2⟩
  have hB2 : Below w.heap.size w w2 := hb1.trans (hb2.mono hb1.size)
  have hR2 : RR w2 ao rs := hs.below hB2
  clear h8 hb1 hb2
  have Hs := hide hs
  clear hs
  have hcl := fun k => cnt_le rs k
  go_wp2_with fail
  go_loop [4, 5] (fun n i => ∃ k : Nat, k ≤ rs.length ∧ i = .int .i64 k ∧ n = .int .i64 (cnt rs k)) (fun _ i => rs.length - (intOf i).toNat)
  case atStart => exact ⟨0, Nat.zero_le _, rfl, by rw [cnt_zero]; rfl⟩
  case round =>
    obtain ⟨k, hk, rfl, rfl⟩ := hrel
    have hk1 := hcl k
    by_cases hlt : k < rs.length
    · have HC : Hid (cnt rs (k + 1) = cnt rs k + (rs.getD k []).length) := cnt_succ rs k hlt
      have hk2 := hcl (k + 1)
      rw [HC.out] at hk2
      obtain ⟨b, off, rfl, ai, ci, h1, _, _⟩ := hR2.at hlt
      generalize rs.getD k [] = row at *
      clear hcl hR2 hSW hB2
      go_wp2_with fail
      go_round
      case rel => exact ⟨k + 1, by omega, by go_num, by rw [HC.out]; go_num⟩
      case measure => simp [intOf]; omega
    obtain rfl : k = rs.length := by omega
    obtain ⟨N, hN⟩ : ∃ N, cnt rs rs.length = N := ⟨_, rfl⟩
    rw [hN]
    have HN : Hid (rs.flatten.length = N) := by rw [← hN]; exact (cnt_all rs).symm
    have hN4 : N ≤ 4096 := by rw [← HN.out]; exact hf
    clear hk1 hN hf
    go_wp2_with (at_make; refine wpList_make_own _ rfl (.const (.int .i64 0)) (.tmp 35) 22 rfl w2.heap.size 25 i0 (.slice none 0 0) 1 Try.underlying22 hi hz0 hz1 .i64 .i64 _ N rfl rfl rfl (by rw [hz2]; omega) (by unfold maxLen; omega) (Nat.le_refl _) ?_)
    intro w3 hown3 hg3
    have hb3 : Below w2.heap.size w2 w3 := (Below.refl _ _).grown hg3 (Nat.le_refl _) (fun k hk => by cases hk)
    clear hg3 hcl
    go_wp2_with fail
    go_loopw [6, 7] (fun v i wr => ∃ k : Nat, ∃ vals, k ≤ rs.length ∧ i = .int .i64 k ∧ v = .slice (some ⟨w2.heap.size, 0, none⟩) (fl rs k 0).length N ∧ wr.ownsRow w2.heap.size 25 1 v (fl rs k 0).length vals ∧ Flat wr w2.heap.size vals (fl rs k 0) ∧ Below w2.heap.size w2 wr) (fun _ i _ => rs.length - (intOf i).toNat)
    case atStart => exact ⟨0, _, Nat.zero_le _, rfl, by rw [fl_zero]; rfl, by rw [fl_zero]; exact hown3, by rw [fl_zero]; exact Flat.nil _ _, hb3⟩
    case round =>
      obtain ⟨x, vals, hx, rfl, rfl, hown, hF, hbr⟩ := hrel
      have hwr : w2.heap.size < wr.heap.size := (hown.lt _ rfl).2
      by_cases hlt : x < rs.length
      · have hlt' := fl_lt rs x
        have hst := fl_step rs x
        have HRow : Hid (fl rs (x + 1) 0 = fl rs x (rs.getD x []).length) := fl_row rs x hlt
        obtain ⟨b, off, rfl, ai, ci, h1, hS, hl⟩ := hR2.at hlt
        have hb : b < w2.heap.size := World.block_lt_of_cell? w2 _ h1
        obtain ⟨row, hrow⟩ : ∃ row, rs.getD x [] = row := ⟨_, rfl⟩
        rw [hrow] at h1 hS hl HRow
        have Hrow := hide hrow
        have hl' : row.length ≤ 9223372036854775807 := hl
        have Hlt : Hid (∀ j, j < row.length → (fl rs x j).length + 1 ≤ N) := fun j hj => by rw [← HN.out]; exact hlt' j row hrow hlt hj
        have Hst : Hid (∀ j (hj : j < row.length), fl rs x (j + 1) = fl rs x j ++ [row[j]]) := fun j hj => hst j row hrow hj
        have hc1 := (hbr.cell (p := ⟨b, off + x, none⟩) hb).trans h1
        clear hrow hl hlt' hst hR2 hown3 hb3
        go_wp2_with fail
        go_loopw [6, 8] (fun v i wr => ∃ j : Nat, ∃ vals, j ≤ row.length ∧ i = .int .i64 j ∧ v = .slice (some ⟨w2.heap.size, 0, none⟩) (fl rs x j).length N ∧ wr.ownsRow w2.heap.size 25 1 v (fl rs x j).length vals ∧ Flat wr w2.heap.size vals (fl rs x j) ∧ Below w2.heap.size w2 wr) (fun _ i _ => row.length - (intOf i).toNat)
        case atStart => exact ⟨0, _, Nat.zero_le _, rfl, rfl, hown, hF, hbr⟩
        case round =>
          clear hwr hc1 hown hF hbr
          obtain ⟨j, vals', hj, rfl, rfl, hown, hF, hbr⟩ := hrel
          have hwr : w2.heap.size < wr.heap.size := (hown.lt _ rfl).2
          have hc1 := (hbr.cell (p := ⟨b, off + x, none⟩) hb).trans h1
          by_cases hj2 : j < row.length
          · obtain ⟨b', off', rfl, h2⟩ := hS.at hj2
            have hc2 := (hbr.cell (p := ⟨b', off' + j, none⟩) (World.block_lt_of_cell? w2 _ h2)).trans h2
            have hroom := Hlt.out j hj2
            have HS2 : Hid (fl rs x (j + 1) = fl rs x j ++ [row[j]]) := Hst.out j hj2
            have ho2 : ∀ o1 o2, ((wr.alloc o1).alloc o2).ownsRow w2.heap.size 25 1 (.slice (some ⟨w2.heap.size, 0, none⟩) (fl rs x j).length N) (fl rs x j).length vals' := fun o1 o2 => (hown.alloc o1).alloc o2
            go_wp2_with (at_builtin; refine wpList_append_fits _ rfl (.tmp 52) (.tmp 61) 22 rfl w2.heap.size 25 i0 1 Try.underlying22 hi hz1 w2.heap.size _ N vals' rfl (ho2 _ _) ⟨wr.heap.size + 1, 0, none⟩ 1 1 [.slice (some ⟨wr.heap.size, 0, none⟩) 1 1] rfl rfl ?hnews (by intro u hu; simp at hu; subst hu; rfl) hroom ?_)
            case hnews =>
              intro q u hq
              match q, hq with
              | 0, hq => simp at hq; subst hq; simp [Addr.add]
            intro w4 hown4 hg4
            have hb4 : Below w2.heap.size w2 w4 := ((hbr.alloc (by omega) _).alloc (by simp; omega) _).grown hg4 (by simp; omega) (fun k hk => by cases hk; exact Nat.le_refl _)
            have hF4 := hF.step hwr hg4
            have ho4 : w4.ownsRow w2.heap.size 25 1 (.slice (some ⟨w2.heap.size, 0, none⟩) (fl rs x (j + 1)).length N) (fl rs x (j + 1)).length (vals' ++ [.slice (some ⟨wr.heap.size, 0, none⟩) 1 1]) := by rw [HS2.out, List.length_append]; exact hown4
            rw [← HS2.out] at hF4
            have HL : Hid ((fl rs x j).length + 1 = (fl rs x (j + 1)).length) := by rw [HS2.out, List.length_append]; rfl
            clear hown4 hg4 hown hF hbr ho2
            go_wp2_with fail
            go_roundw
            case rel => exact ⟨j + 1, _, by omega, by go_num, by rw [← HL.out], by rw [HL.out]; exact ho4, hF4, hb4⟩
            case measure => simp [intOf]; omega
          obtain rfl : j = row.length := by omega
          go_wp2_with fail
          go_roundw
          case rel => exact ⟨x + 1, vals', by omega, by go_num, by rw [HRow.out], by rw [HRow.out]; exact hown, by rw [HRow.out]; exact hF, hbr⟩
          case measure => simp [intOf]; omega
      obtain rfl : x = rs.length := by omega
      have hRF := hF.rows hown
      have hlen : (fl rs rs.length 0).length = N := by rw [fl_end]; exact HN.out
      rw [fl_end] at hRF
      have hl1 : (rs.flatten.map fun s => [s]).length = (fl rs rs.length 0).length := by rw [fl_end, List.length_map]
      have hl2 : (rs.flatten.map fun s => [s]).flatten.length ≤ 4096 := by rw [flatten_cons_nil, HN.out]; exact hN4
      have hbd : (rs.flatten.map fun s => [s]).length ≤ 43690 := by rw [hl1, hlen]; omega
      have h7 := build7_len (some ⟨w2.heap.size, 0, none⟩) (fl rs rs.length 0).length N (rs.flatten.map fun s => [s]) wr hl1 hRF hbd
      have hSW3 : SS wr aW (models rs) := hSW.below hbr
      have hB3 : Below w.heap.size w wr := hB2.trans (hbr.mono hB2.size)
      have hmm := models_flat rs
      obtain ⟨rsF, hrsF⟩ : ∃ r, (rs.flatten.map fun s => [s]) = r := ⟨_, rfl⟩
      rw [hrsF] at h7 hl2 hbd hmm
      have Hmm := hide hmm
      clear hRF hF hown hl1 hlen hown3 hb3 hR2 hmm hrsF hSW hB2
      go_wp2_with fail
      refine h7.mono ?_
      rintro e w5 ⟨g5, rfl, hcfg, hb5⟩
      have h8 := models8 g5 rsF w5 hcfg hbd hl2
      clear h7 hcfg hbd hl2
      go_wp2_with fail
      refine h8.mono ?_
      rintro e w6 ⟨aF, cF, rfl, hSF, hb6⟩
      have hb56 : Below wr.heap.size wr w6 := hb5.trans (hb6.mono hb5.size)
      have hB6 : Below w.heap.size w w6 := hB3.trans (hb56.mono hB3.size)
      have hSW6 : SS w6 aW (models rs) := hSW3.below hb56
      rw [Hmm.out] at hSF
      have hlM := models_le rs
      rw [HN.out] at hlM
      have h10 := same10b aF aW _ _ cF cW (models rs) w6 (congrArg List.length Hmm.out.symm) rfl hSF hSW6 (by unfold maxLen; omega)
      clear hb5 hb6 hb56 hSW3 hB3 h8 hSF
      go_wp2_with fail
      refine h10.mono ?_
      rintro e w7 ⟨rfl, hb7⟩
      have hB7 : Below w.heap.size w w7 := hB6.trans (hb7.mono hB6.size)
      have hSW7 : SS w7 aW (models rs) := hSW6.below hb7
      have hOne := one_row (c := cW) hSW7 (by unfold maxLen; omega)
      have h7 := build7_len _ 1 1 [models rs] _ rfl hOne (by simp)
      clear hb7 hB6 hSW6 h10 hOne
      go_wp2_with fail
      refine h7.mono ?_
      rintro e w8 ⟨g8, rfl, hcfg, hb8⟩
      have h8 := models8 g8 [models rs] w8 hcfg (by simp) (by simp; omega)
      rw [models_whole] at h8
      have hB8 : Below w.heap.size w w8 := (hB7.alloc hB7.size _).trans (hb8.mono (by simp; have := hB7.size; omega))
      have hSW8 : SS w8 aW (models rs) := (hSW7.below ((Below.refl _ _).alloc (Nat.le_refl _) _)).below hb8
      clear hcfg h7 hb8 hB7 hSW7
      go_wp2_with fail
      refine h8.mono ?_
      rintro e w9 ⟨a9, c9, rfl, hS9, hb9⟩
      have hB9 : Below w.heap.size w w9 := hB8.trans (hb9.mono hB8.size)
      have hSW9 : SS w9 aW (models rs) := hSW8.below hb9
      have h10 := same10b a9 aW _ _ c9 cW (models rs) w9 rfl rfl hS9 hSW9 (by unfold maxLen; omega)
      clear hb9 hB8 hSW8 h8 hS9
      go_wp2_with fail
      refine h10.mono ?_
      rintro e w10 ⟨rfl, hb10⟩
      have hB10 : Below w.heap.size w w10 := hB9.trans (hb10.mono hB9.size)
      have hSW10 : SS w10 aW (models rs) := hSW9.below hb10
      have hR10 : RR w10 ao rs := Hs.out.below hB10
      clear hb10 hB9 hSW9 h10
      go_wp2_with fail
      go_loop [10, 11, 12] (fun f x i => ∃ k : Nat, k ≤ rs.length ∧ i = .int .i64 k ∧ Seen rs k f x) (fun _ _ i => rs.length - (intOf i).toNat)
      case atStart => exact ⟨0, Nat.zero_le _, rfl, .inl ⟨rfl, by simp⟩⟩
      case round =>
        obtain ⟨y, hy, rfl, hse⟩ := hrel
        rcases hse with ⟨rfl, h0⟩ | ⟨rfl, s, rfl, hhd⟩
        · have H0 := hide h0
          clear h0
          by_cases hlt : y < rs.length
          · obtain ⟨b, off, rfl, ai, ci, h1, hS, hl⟩ := hR10.at hlt
            obtain ⟨row, hrow⟩ : ∃ row, rs.getD y [] = row := ⟨_, rfl⟩
            rw [hrow] at h1 hS hl
            have Hrow := hide hrow
            clear hrow hR10 hl hSW10 hB10
            by_cases hz : 0 < row.length
            · have HSn := hide (seen_hit hlt H0.out Hrow.out hz)
              obtain ⟨b', off', rfl, h2⟩ := hS.at hz
              rw [Nat.add_zero] at h2
              go_wp2
              go_round
              case rel => exact ⟨y + 1, by omega, by go_num, HSn.out⟩
              case measure => simp [intOf]; omega
            · obtain rfl : row = [] := List.eq_nil_of_length_eq_zero (by omega)
              have HSn := fun x' => seen_skip (x' := x') hlt H0.out Hrow.out
              have HSn' := hide HSn
              clear HSn
              go_wp2
              go_round
              case rel => exact ⟨y + 1, by omega, by go_num, HSn'.out _⟩
              case measure => simp [intOf]; omega
          · obtain rfl : y = rs.length := by omega
            have hM := models_none (rs := rs) (by have := H0.out; rwa [List.take_length] at this)
            go_wp2
            go_ret
            exact ⟨rfl, hB10⟩
        · obtain ⟨h0, hfst⟩ := models_first hhd
          obtain ⟨b', off', rfl, h2⟩ := hSW10.at h0
          rw [Nat.add_zero] at h2
          by_cases hlt : y < rs.length
          all_goals
            go_wp2
            go_ret
            exact ⟨rfl, hB10⟩
end Go.Proofs.Qxb6626449a
