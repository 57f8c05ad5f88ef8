import Derived.Test.YtjbmphfgckhaeaaDoorWj
namespace Go.Proofs.YtjbmphfgckhaeaaDoor
open Go.RowKit

set_option maxRecDepth 100000 in
set_option maxHeartbeats 6400000 in
theorem op_f4a (t : ByteArray) (first an : Int) (w : World) (hG : G w) (hs : t.size ≤ 140737488351232) (h1 : 1 ≤ t.size) (hf0 : 0 ≤ first) (hf1 : first ≤ 1000000000) (ha0 : 0 ≤ an) (ha1 : an ≤ 800000000000000000)
    (s1 : St) (he1 : pIdx t.data.toList first (st0 t.data.toList an) = some s1) (s3 : St) (he3 : pPrec t.data.toList first (szM 0 t.data.toList s1) = some s3) (hpd3 : s3.pd = true) (hen : s3.nb = t.data.toList.length) :
    Calls Tryd.prog 33 #[.string t, .int .i64 first, .int .i64 an] w (fun e w' => (∃ T p, e = .returned (.tuple #[.pointer none, .iface T p])) ∧ Below w.heap.size w w') := by
  have hsz := size_data t
  have hfe := rE_le isF t.data.toList 1 (by omega)
  have hok0 : OkSt t.data.toList 800000000000000000 (st0 t.data.toList an) := ⟨hfe, ha0, ha1, Int.le_refl _, by show (0 : Int) ≤ _; omega⟩
  have HO0 := hide hok0
  have HE1 := hide he1
  have HO1 := hide (hok0.idx (by decide) hf0 hf1 he1)
  have HO2 := hide ((unhide HO1).sz 0)
  have HE3 := hide he3
  have HO3 := hide ((unhide HO2).prec (by decide) hf0 hf1 he3)
  have HD3 := hide hpd3
  clear hok0 he1 he3 hpd3
  have HP0 : Hid (PS ((w.alloc (.cells (oCells t ⟨an, false, 0, 0, false, 1, ⟨#[]⟩, Sz.no, Sz.no⟩) 70)).alloc (.cells (sCells w.heap.size first ⟨an, false, 0, 0, false, 1, ⟨#[]⟩, Sz.no, Sz.no⟩) 94)) (w.heap.size + 1) w.heap.size t first ⟨an, false, 0, 0, false, 1, ⟨#[]⟩, Sz.no, Sz.no⟩) := by
    refine ⟨?_, ?_⟩
    · have := Blk.new (w.alloc (.cells (oCells t ⟨an, false, 0, 0, false, 1, ⟨#[]⟩, Sz.no, Sz.no⟩) 70)) 94 (sCells w.heap.size first ⟨an, false, 0, 0, false, 1, ⟨#[]⟩, Sz.no, Sz.no⟩)
      simpa using this
    · exact (Blk.new _ _ _).alloc _
  have HB0 : Hid (Below w.heap.size w ((w.alloc (.cells (oCells t ⟨an, false, 0, 0, false, 1, ⟨#[]⟩, Sz.no, Sz.no⟩) 70)).alloc (.cells (sCells w.heap.size first ⟨an, false, 0, 0, false, 1, ⟨#[]⟩, Sz.no, Sz.no⟩) 94))) := ((Below.refl _ _).alloc (Nat.le_refl _) _).alloc (by simp) _
  have h4 := hG.big
  have hS1 : w.heap.size ≤ w.heap.size + 1 := by omega
  clear hsz hfe
  have HEN := hide hen
  clear hen
  go_enter Tryd.func33, Tryd.ntmps33
  go_wp2_with fail
  refine (flags_any (w.heap.size + 1) w.heap.size t first ⟨an, false, 0, 0, false, 1, ⟨#[]⟩, Sz.no, Sz.no⟩ _ w.heap.size (unhide HP0) hS1 (Nat.le_refl _) hs rfl h1).mono ?_
  rintro x w1 ⟨rfl, hP1', hb1'⟩
  have hP1 : PS w1 (w.heap.size + 1) w.heap.size t first (st0 t.data.toList an) := hP1'
  have HB1 := hide ((unhide HB0).trans hb1')
  have HG1 := hide (hG.below (unhide HB1) h4)
  clear hP1' hb1'
  go_wp2_with fail
  refine (idx_some hP1 hS1 h4 (unhide HG1) hs (Int.le_trans (by decide) hf0) hf1 (unhide HO0).nb' (unhide HE1)).mono ?_
  rintro x w2 ⟨rfl, hP2, hb2⟩
  have HB2 := hide ((unhide HB1).trans hb2)
  have HG2 := hide (hG.below (unhide HB2) h4)
  clear hb2 hP1
  go_wp2_with fail
  refine (sz0 hP2 hS1 (Nat.le_refl _) h4 (unhide HG2) hs ((unhide HO1).mono (by decide))).mono ?_
  rintro x w3 ⟨rfl, hP3, hb3⟩
  have HB3 := hide ((unhide HB2).trans hb3)
  have HG3 := hide (hG.below (unhide HB3) h4)
  clear hb3 hP2
  go_wp2_with fail
  refine (prec_some hP3 hS1 (Nat.le_refl _) h4 (unhide HG3) hs hf0 hf1 ((unhide HO2).mono (by decide)) (unhide HE3)).mono ?_
  rintro x w4 ⟨rfl, hP4, hb4⟩
  have HB4 := hide ((unhide HB3).trans hb4)
  have HG4 := hide (hG.below (unhide HB4) h4)
  clear hb4 hP3
  have k6 : w4.cell? ⟨w.heap.size + 1, 6, none⟩ = some (.bool true) := by
    have := hP4.sb.cell 6
    rw [← unhide HD3]
    exact this
  go_wp2_with fail
  clear k6
  obtain ⟨w5, rfl⟩ : ∃ w5, w5 = w4 := ⟨_, rfl⟩
  have hP5 := hP4
  have HB5 := HB4
  have HG5 := HG4
  clear hP4
  have jE : ((s3.nb : Int) == (t.size : Int)) = true := by
    have := size_data t
    have := unhide HEN
    rw [beq_iff_eq]
    omega
  have c0 : w5.cell? ⟨w.heap.size + 1, 0, none⟩ = some (.pointer (some ⟨w.heap.size, 0, none⟩)) := hP5.sb.cell 0
  have c7 : w5.cell? ⟨w.heap.size + 1, 7, none⟩ = some (.int .i64 s3.nb) := hP5.sb.cell 7
  have d0 : w5.cell? ⟨w.heap.size, 0, none⟩ = some (.string t) := hP5.ob.cell 0
  go_quiet (fail)
  go_wp2_with (go_at_call 37; refine (errNew_any _ _).mono ?_; rintro x w6 ⟨⟨q, rfl⟩, hb6⟩)
  go_ret2
  have hz := (unhide HB5).size
  exact ⟨⟨102, q, rfl⟩, (below_drewN (unhide HB5) _).trans (hb6.mono (by simp; omega))⟩

set_option maxRecDepth 100000 in
set_option maxHeartbeats 6400000 in
theorem op_f4b (t : ByteArray) (first an : Int) (w : World) (hG : G w) (hs : t.size ≤ 140737488351232) (h1 : 1 ≤ t.size) (hf0 : 0 ≤ first) (hf1 : first ≤ 1000000000) (ha0 : 0 ≤ an) (ha1 : an ≤ 800000000000000000)
    (s1 : St) (he1 : pIdx t.data.toList first (st0 t.data.toList an) = some s1) (s3 : St) (he3 : pPrec t.data.toList first (szM 0 t.data.toList s1) = some s3) (s4 : St) (hpd3 : s3.pd = false) (he4 : pIdx t.data.toList first s3 = some s4) (hen : s4.nb = t.data.toList.length) :
    Calls Tryd.prog 33 #[.string t, .int .i64 first, .int .i64 an] w (fun e w' => (∃ T p, e = .returned (.tuple #[.pointer none, .iface T p])) ∧ Below w.heap.size w w') := by
  have hsz := size_data t
  have hfe := rE_le isF t.data.toList 1 (by omega)
  have hok0 : OkSt t.data.toList 800000000000000000 (st0 t.data.toList an) := ⟨hfe, ha0, ha1, Int.le_refl _, by show (0 : Int) ≤ _; omega⟩
  have HO0 := hide hok0
  have HE1 := hide he1
  have HO1 := hide (hok0.idx (by decide) hf0 hf1 he1)
  have HO2 := hide ((unhide HO1).sz 0)
  have HE3 := hide he3
  have HO3 := hide ((unhide HO2).prec (by decide) hf0 hf1 he3)
  have HD3 := hide hpd3
  have HE4 := hide he4
  clear hok0 he1 he3 hpd3 he4
  have HP0 : Hid (PS ((w.alloc (.cells (oCells t ⟨an, false, 0, 0, false, 1, ⟨#[]⟩, Sz.no, Sz.no⟩) 70)).alloc (.cells (sCells w.heap.size first ⟨an, false, 0, 0, false, 1, ⟨#[]⟩, Sz.no, Sz.no⟩) 94)) (w.heap.size + 1) w.heap.size t first ⟨an, false, 0, 0, false, 1, ⟨#[]⟩, Sz.no, Sz.no⟩) := by
    refine ⟨?_, ?_⟩
    · have := Blk.new (w.alloc (.cells (oCells t ⟨an, false, 0, 0, false, 1, ⟨#[]⟩, Sz.no, Sz.no⟩) 70)) 94 (sCells w.heap.size first ⟨an, false, 0, 0, false, 1, ⟨#[]⟩, Sz.no, Sz.no⟩)
      simpa using this
    · exact (Blk.new _ _ _).alloc _
  have HB0 : Hid (Below w.heap.size w ((w.alloc (.cells (oCells t ⟨an, false, 0, 0, false, 1, ⟨#[]⟩, Sz.no, Sz.no⟩) 70)).alloc (.cells (sCells w.heap.size first ⟨an, false, 0, 0, false, 1, ⟨#[]⟩, Sz.no, Sz.no⟩) 94))) := ((Below.refl _ _).alloc (Nat.le_refl _) _).alloc (by simp) _
  have h4 := hG.big
  have hS1 : w.heap.size ≤ w.heap.size + 1 := by omega
  clear hsz hfe
  have HEN := hide hen
  clear hen
  go_enter Tryd.func33, Tryd.ntmps33
  go_wp2_with fail
  refine (flags_any (w.heap.size + 1) w.heap.size t first ⟨an, false, 0, 0, false, 1, ⟨#[]⟩, Sz.no, Sz.no⟩ _ w.heap.size (unhide HP0) hS1 (Nat.le_refl _) hs rfl h1).mono ?_
  rintro x w1 ⟨rfl, hP1', hb1'⟩
  have hP1 : PS w1 (w.heap.size + 1) w.heap.size t first (st0 t.data.toList an) := hP1'
  have HB1 := hide ((unhide HB0).trans hb1')
  have HG1 := hide (hG.below (unhide HB1) h4)
  clear hP1' hb1'
  go_wp2_with fail
  refine (idx_some hP1 hS1 h4 (unhide HG1) hs (Int.le_trans (by decide) hf0) hf1 (unhide HO0).nb' (unhide HE1)).mono ?_
  rintro x w2 ⟨rfl, hP2, hb2⟩
  have HB2 := hide ((unhide HB1).trans hb2)
  have HG2 := hide (hG.below (unhide HB2) h4)
  clear hb2 hP1
  go_wp2_with fail
  refine (sz0 hP2 hS1 (Nat.le_refl _) h4 (unhide HG2) hs ((unhide HO1).mono (by decide))).mono ?_
  rintro x w3 ⟨rfl, hP3, hb3⟩
  have HB3 := hide ((unhide HB2).trans hb3)
  have HG3 := hide (hG.below (unhide HB3) h4)
  clear hb3 hP2
  go_wp2_with fail
  refine (prec_some hP3 hS1 (Nat.le_refl _) h4 (unhide HG3) hs hf0 hf1 ((unhide HO2).mono (by decide)) (unhide HE3)).mono ?_
  rintro x w4 ⟨rfl, hP4, hb4⟩
  have HB4 := hide ((unhide HB3).trans hb4)
  have HG4 := hide (hG.below (unhide HB4) h4)
  clear hb4 hP3
  have k6 : w4.cell? ⟨w.heap.size + 1, 6, none⟩ = some (.bool false) := by
    have := hP4.sb.cell 6
    rw [← unhide HD3]
    exact this
  go_wp2_with fail
  clear k6
  refine (idx_some hP4 hS1 h4 (unhide HG4) hs (Int.le_trans (by decide) hf0) hf1 (unhide HO3).nb' (unhide HE4)).mono ?_
  rintro x w5 ⟨rfl, hP5, hb5⟩
  have HB5 := hide ((unhide HB4).trans hb5)
  have HG5 := hide (hG.below (unhide HB5) h4)
  clear hb5 hP4
  go_wp2_with fail
  have jE : ((s4.nb : Int) == (t.size : Int)) = true := by
    have := size_data t
    have := unhide HEN
    rw [beq_iff_eq]
    omega
  have c0 : w5.cell? ⟨w.heap.size + 1, 0, none⟩ = some (.pointer (some ⟨w.heap.size, 0, none⟩)) := hP5.sb.cell 0
  have c7 : w5.cell? ⟨w.heap.size + 1, 7, none⟩ = some (.int .i64 s4.nb) := hP5.sb.cell 7
  have d0 : w5.cell? ⟨w.heap.size, 0, none⟩ = some (.string t) := hP5.ob.cell 0
  go_quiet (fail)
  go_wp2_with (go_at_call 37; refine (errNew_any _ _).mono ?_; rintro x w6 ⟨⟨q, rfl⟩, hb6⟩)
  go_ret2
  have hz := (unhide HB5).size
  exact ⟨⟨102, q, rfl⟩, (below_drewN (unhide HB5) _).trans (hb6.mono (by simp; omega))⟩
end Go.Proofs.YtjbmphfgckhaeaaDoor
