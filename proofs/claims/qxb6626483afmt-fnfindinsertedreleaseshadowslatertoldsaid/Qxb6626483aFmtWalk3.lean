import Derived.Test.Qxb6626483aFmtPlain
import Derived.LaidEqlPtr
namespace Go.Proofs.Qxb6626483aFmt
open Go.ChangeShapes Go.WideShapes Go.ChangeAt Go.RowKit

theorem info39 : (Tryf.prog.info? 39).map (fun i => (i.zero, i.size, i.bytes)) = some (some (.agg #[.string ByteArray.empty, .string ByteArray.empty, .slice none 0 0]), 3, 56) := by kernel_rfl
/-- A pointer to a release equals itself. -/
theorem eql_ptr (a : Addr) (w : World) : (binOp .eql 30 (.pointer (some a)) (.pointer (some a))).run Tryf.prog w = .ok (.bool true) w := by
  obtain ⟨i, hi, _⟩ := info_parts info39
  exact run_eql_ptr_same w a Tryf.underlying30 hi

set_option maxHeartbeats 4000000 in
set_option maxRecDepth 100000 in
theorem walk3 (d : ByteArray) (ao bo : Option Addr) (c c' : Nat) (ss ts : List ByteArray) (v : ByteArray) (w : World) (hs : SS w ao ss) (ht : SS w bo ts) (hm : ss.length ≤ maxLen) (hn : ts.length ≤ maxLen) (hd : d.size ≤ maxLen) (hv : v.size ≤ maxLen) :
    Calls Tryf.prog 3 #[.string d, .slice ao ss.length c, .slice bo ts.length c', .string v] w fun e w' => e = .returned (.bool true) ∧ Below w.heap.size w w' := by
  have h5 := bytes5 d ao bo c c' ss ts v w hs ht hm hn hd hv
  obtain ⟨i0, hi, hz0, hz1, hz2⟩ := info_parts info30
  go_enter Tryf.func3, Tryf.ntmps3
  go_wp2_with fail
  refine h5.mono ?_
  rintro e w1 ⟨⟨r, rfl⟩, hw1⟩
  rw [hw1]
  clear h5 hw1 w1
  cases r
  · go_wp2_with fail
    go_ret
    exact ⟨rfl, Below.refl _ _⟩
  by_cases hd1 : 1048576 < (d.size : Int)
  · go_wp2_with fail
    go_ret
    exact ⟨rfl, Below.refl _ _⟩
  by_cases hv1 : 1048576 < (v.size : Int)
  · go_wp2_with fail
    go_ret
    exact ⟨rfl, Below.refl _ _⟩
  have h6 := add6 ((d.size : Int) + (v.size : Int)) ao c ss w (by omega) (by omega) hs hm
  go_wp2_with fail
  refine h6.mono ?_
  rintro e w1 ⟨⟨r, rfl, hr⟩, hw1⟩
  rw [hw1]
  clear h6 hw1 w1
  by_cases hr1 : 1048576 < r
  · go_wp2_with fail
    go_ret
    exact ⟨rfl, Below.refl _ _⟩
  have Hr : Hid (r = (d.size : Int) + (v.size : Int) + (tb ss : Int)) := hr (by omega)
  clear hr
  have h6 := add6 r bo c' ts w (by rw [Hr.out]; omega) (by omega) ht hn
  go_wp2_with fail
  refine h6.mono ?_
  rintro e w1 ⟨⟨q, rfl, hq⟩, hw1⟩
  rw [hw1]
  clear h6 hw1 w1
  by_cases hq1 : 1048576 < q
  · go_wp2_with fail
    go_ret
    exact ⟨rfl, Below.refl _ _⟩
  have hsum : tb ss + tb ts ≤ 1048576 := by have := hq (by omega); have := Hr.out; omega
  have la := tb_len ss
  have lb := tb_len ts
  have la' : ss.length ≤ 65536 := by omega
  have lb' : ts.length ≤ 65536 := by omega
  clear hq Hr la lb hm hn hd hv
  have h7 := rels7 ao c ss w hs la'
  go_wp2_with fail
  refine h7.mono ?_
  rintro e w1 ⟨rsA, hmA, rfl, hPA, hb1⟩
  have h7 := rels7 bo c' ts w1 (ht.below hb1) lb'
  go_wp2_with fail
  refine h7.mono ?_
  rintro e w2 ⟨rsB, hmB, rfl, hPB, hb2⟩
  have hPA2 := hPA.below hb2
  have hB2 : Below w.heap.size w w2 := hb1.trans (hb2.mono hb1.size)
  have hlA : rsA.length = ss.length := by rw [← hmA, List.length_map]
  have hlB : rsB.length = ts.length := by rw [← hmB, List.length_map]
  have HA := hide hmA
  have HB := hide hmB
  have HlA := hide hlA
  have HlB := hide hlB
  clear h7 hPA hb1 hb2 hmA hmB hlA hlB
  go_wp2_with (first
    | (at_make; refine wpList_make_own _ rfl (.const (.int .i64 0)) (.tmp 60) 25 rfl w2.heap.size 30 i0 (.pointer none) 1 Tryf.underlying25 hi hz0 hz1 .i64 .i64 _ (ss.length + ts.length) rfl rfl (by omega) (by rw [hz2]; omega) (by unfold maxLen; omega) (Nat.le_refl _) ?_))
  intro w3 hown3 hg3
  have hb3 : Below w2.heap.size w2 w3 := (Below.refl _ _).grown hg3 (Nat.le_refl _) (fun k hk => by cases hk)
  have hPA3 := hPA2.below hb3
  have hPB3 := hPB.below hb3
  clear hg3
  go_wp2_with (at_builtin; refine wpList_append_fits _ rfl (.tmp 62) (.tmp 63) 25 rfl w2.heap.size 30 i0 1 Tryf.underlying25 hi hz1 w2.heap.size _ (ss.length + ts.length) _ rfl hown3 ⟨w.heap.size, 0, none⟩ ss.length ss.length (ptrs rsA) rfl (by rw [ptrs_length, HlA.out, Nat.mul_one]) (hPA3.cellsAt _ rfl) (ptrs_one rsA) (by omega) ?_)
  intro w4 hown4 hg4
  have hb4 : Below w2.heap.size w2 w4 := hb3.grown hg4 hb3.size (fun k hk => by cases hk; exact Nat.le_refl _)
  have hPB4 := hPB.below hb4
  clear hg4 hown3 hb3 hPA3 hPB3
  go_wp2_with (at_builtin; refine wpList_append_fits _ rfl (.tmp 65) (.tmp 66) 25 rfl w2.heap.size 30 i0 1 Tryf.underlying25 hi hz1 w2.heap.size _ (ss.length + ts.length) _ rfl hown4 ⟨w1.heap.size, 0, none⟩ ts.length ts.length (ptrs rsB) rfl (by rw [ptrs_length, HlB.out, Nat.mul_one]) (hPB4.cellsAt _ rfl) (ptrs_one rsB) (by omega) ?_)
  intro w5 hown5 hg5
  have hb5 : Below w2.heap.size w2 w5 := hb4.grown hg5 hb4.size (fun k hk => by cases hk; exact Nat.le_refl _)
  have hPA5 := hPA2.below hb5
  have hPB5 := hPB.below hb5
  rw [← ptrs_append] at hown5
  have hPall := (owns_PS hown5 (hPA5.lie.append hPB5.lie)).2
  have hB5 : Below w.heap.size w w5 := hB2.trans (hb5.mono hB2.size)
  clear hg5 hown5 hown4 hb4 hPB4 hb5 hB2 hPA2 hPB
  have H3 := hide (three_boxes w5 d v (some ⟨w2.heap.size, 0, none⟩) (some ⟨w.heap.size, 0, none⟩) (some ⟨w1.heap.size, 0, none⟩) (ss.length + ts.length) (ss.length + ts.length) ss.length ss.length ts.length ts.length (rsA ++ rsB) rsA rsB hPall hPA5 hPB5 (by rw [List.length_append, HlA.out, HlB.out]) HlA.out HlB.out (by rw [List.map_append, tb_append, HA.out, HB.out]; omega) (by rw [HA.out]; omega) (by rw [HB.out]; omega))
  have hbB := hide (boxes3_below w5 d (.slice (some ⟨w2.heap.size, 0, none⟩) (ss.length + ts.length) (ss.length + ts.length)) (.slice (some ⟨w.heap.size, 0, none⟩) ss.length ss.length) (.slice (some ⟨w1.heap.size, 0, none⟩) ts.length ts.length))
  have hszB := hide (boxes3_size w5 d (.slice (some ⟨w2.heap.size, 0, none⟩) (ss.length + ts.length) (ss.length + ts.length)) (.slice (some ⟨w.heap.size, 0, none⟩) ss.length ss.length) (.slice (some ⟨w1.heap.size, 0, none⟩) ts.length ts.length))
  clear hPall
  go_wp2_with fail
  refine ((H3.out _ (Below.refl _ _)).1).mono ?_
  rintro e w6 ⟨⟨x1, rfl, hx1, hx1'⟩, hb6⟩
  have hb6' : Below (w5.heap.size + 3) (boxes3 w5 d (.slice (some ⟨w2.heap.size, 0, none⟩) (ss.length + ts.length) (ss.length + ts.length)) (.slice (some ⟨w.heap.size, 0, none⟩) ss.length ss.length) (.slice (some ⟨w1.heap.size, 0, none⟩) ts.length ts.length)) w6 := by rw [← hszB.out]; exact hb6
  have hB6 : Below w5.heap.size w5 w6 := hbB.out.trans (hb6'.mono (by omega))
  clear hb6 hbB hszB
  go_wp2_with fail
  refine ((H3.out w6 hb6').2.1).mono ?_
  rintro e w7 ⟨⟨x2, rfl, hx2, hx2'⟩, hb7⟩
  have hs6 := hb6'.size
  rw [boxes3_size] at hs6
  have hb7' := hb6'.trans (hb7.mono hs6)
  have hB7 : Below w5.heap.size w5 w7 := hB6.trans (hb7.mono hB6.size)
  clear hb6' hb7 hB6 hs6
  go_wp2_with fail
  refine ((H3.out w7 hb7').2.2).mono ?_
  rintro e w8 ⟨⟨x3, rfl, hx3, hx3'⟩, hb8⟩
  have hB8 : Below w5.heap.size w5 w8 := hB7.trans (hb8.mono hB7.size)
  have hW8 : Below w.heap.size w w8 := hB5.trans (hB8.mono hB5.size)
  have hPA8 := hPA5.below hB8
  have hPB8 := hPB5.below hB8
  have h9a := first9 ao c ss v w8 (hs.below hW8) (by unfold maxLen; omega)
  have h9b := first9 bo c' ts v w8 (ht.below hW8) (by unfold maxLen; omega)
  clear hb7' hb8 hB7 hB8 hB5 hPA5 hPB5 H3
  have Hx1 := hide hx1
  have Hx1' := hide hx1'
  have Hx2 := hide hx2
  have Hx2' := hide hx2'
  have Hx3 := hide hx3
  have Hx3' := hide hx3'
  clear hx1 hx1' hx2 hx2' hx3 hx3'
  go_wp2_with fail
  refine h9a.mono ?_
  rintro e w9 ⟨rfl, hw9⟩
  rw [hw9]
  clear hw9 h9a
  go_wp2_with fail
  refine h9b.mono ?_
  rintro e w9 ⟨rfl, hw9⟩
  rw [hw9]
  clear hw9 h9b
  cases hfa : fst? ss v with
  | some k =>
    obtain ⟨hkA, hLA⟩ := look_of_fst HA.out hfa
    have hLall : look (rsA ++ rsB) v = some (rsA.getD k z0).1 := by rw [look_append, hLA]; rfl
    have e1 : x1 = .nilIface := Hx1.out (by rw [hLall]; rfl)
    have e2 : x2 = .nilIface := Hx2.out (by rw [hLA]; rfl)
    have e3 : fstI ss v = (k : Int) := by simp [fstI, hfa]
    obtain ⟨b, off, e4, hc1, _⟩ := hPA8.at hkA
    cases e4
    rw [Nat.zero_add] at hc1
    rw [HlA.out] at hkA
    rw [e1, e2, e3, hLall, hLA]
    generalize (rsA.getD k z0).1 = gk at *
    clear hfa hLA hLall e1 e2 e3 Hx1 Hx1' Hx2 Hx2' Hx3 Hx3' HA HB HlA HlB hPA8 hPB8
    simp only [ptrOf]
    have hep := eql_ptr
    go_wp2
    all_goals
      go_ret
      exact ⟨rfl, hW8⟩
  | none =>
    have hLA := look_of_none HA.out hfa
    have e3 : fstI ss v = -1 := by simp [fstI, hfa]
    cases hfb : fst? ts v with
    | some k =>
      obtain ⟨hkB, hLB⟩ := look_of_fst HB.out hfb
      have hLall : look (rsA ++ rsB) v = some (rsB.getD k z0).1 := by rw [look_append, hLA, hLB]; rfl
      have e1 : x1 = .nilIface := Hx1.out (by rw [hLall]; rfl)
      have e2 : x3 = .nilIface := Hx3.out (by rw [hLB]; rfl)
      obtain ⟨T, u, e5⟩ := Hx2'.out (by rw [hLA]; rfl)
      have e6 : fstI ts v = (k : Int) := by simp [fstI, hfb]
      obtain ⟨b, off, e4, hc1, _⟩ := hPB8.at hkB
      cases e4
      rw [Nat.zero_add] at hc1
      rw [HlB.out] at hkB
      rw [e1, e2, e3, e5, e6, hLall, hLA, hLB]
      generalize (rsB.getD k z0).1 = gk at *
      clear hfa hfb hLA hLB hLall e1 e2 e3 e5 e6 Hx1 Hx1' Hx2 Hx2' Hx3 Hx3' HA HB HlA HlB hPA8 hPB8
      simp only [ptrOf]
      have hep := eql_ptr
      go_wp2
      all_goals
        go_ret
        exact ⟨rfl, hW8⟩
    | none =>
      have hLB := look_of_none HB.out hfb
      have hLall : look (rsA ++ rsB) v = none := by rw [look_append, hLA, hLB]; rfl
      have e6 : fstI ts v = -1 := by simp [fstI, hfb]
      obtain ⟨T1, u1, e1⟩ := Hx1'.out (by rw [hLall]; rfl)
      obtain ⟨T2, u2, e2⟩ := Hx2'.out (by rw [hLA]; rfl)
      obtain ⟨T3, u3, e5⟩ := Hx3'.out (by rw [hLB]; rfl)
      rw [e1, e2, e3, e5, e6, hLall, hLA, hLB]
      clear hfa hfb hLA hLB hLall e1 e2 e3 e5 e6 Hx1 Hx1' Hx2 Hx2' Hx3 Hx3' HA HB HlA HlB hPA8 hPB8
      simp only [ptrOf]
      have hep := eql_ptr
      go_wp2
      all_goals
        go_ret
        exact ⟨rfl, hW8⟩
end Go.Proofs.Qxb6626483aFmt
