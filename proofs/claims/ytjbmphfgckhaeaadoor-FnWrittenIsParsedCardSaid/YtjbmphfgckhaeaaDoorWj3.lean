import Derived.Test.YtjbmphfgckhaeaaDoorWj
namespace Go.Proofs.YtjbmphfgckhaeaaDoor
open Go.RowKit

set_option maxRecDepth 100000 in
set_option maxHeartbeats 6400000 in
theorem op_g1 (t : ByteArray) (first an : Int) (w : World) (hG : G w) (hs : t.size ≤ 140737488351232) (h1 : 1 ≤ t.size) (hf0 : 0 ≤ first) (hf1 : first ≤ 1000000000) (ha0 : 0 ≤ an) (ha1 : an ≤ 800000000000000000)
    (s1 : St) (he1 : pIdx t.data.toList first (st0 t.data.toList an) = some s1) (s3 : St) (he3 : pPrec t.data.toList first (szM 0 t.data.toList s1) = some s3) (hpd3 : s3.pd = true) (r wd : Nat) (hlt : s3.nb < t.size) (hrw : Lib.decodeGo (t.extract s3.nb t.size) = (r, wd) ∧ wd ≤ t.size - s3.nb)  :
    Calls Tryd.prog 33 #[.string t, .int .i64 first, .int .i64 an] w (OpGood t first ⟨s3, r, wd⟩ w) := by
  have hsz := size_data t
  have hfe := rE_le isF t.data.toList 1 (by omega)
  have hok0 : OkSt t.data.toList 800000000000000000 (st0 t.data.toList an) := ⟨hfe, ha0, ha1, Int.le_refl _, by show (0 : Int) ≤ _; omega⟩
  have HO0 := hide hok0
  have HE1 := hide he1
  have HO1 := hide (hok0.idx (by decide) hf0 hf1 he1)
  have HO2 := hide ((unhide HO1).sz 0)
  have HE3 := hide he3
  have HO3 := hide ((unhide HO2).prec (by decide) hf0 hf1 he3)
  have HD3 := hide hpd3
  clear hok0 he1 he3 hpd3
  have HP0 : Hid (PS ((w.alloc (.cells (oCells t ⟨an, false, 0, 0, false, 1, ⟨#[]⟩, Sz.no, Sz.no⟩) 70)).alloc (.cells (sCells w.heap.size first ⟨an, false, 0, 0, false, 1, ⟨#[]⟩, Sz.no, Sz.no⟩) 94)) (w.heap.size + 1) w.heap.size t first ⟨an, false, 0, 0, false, 1, ⟨#[]⟩, Sz.no, Sz.no⟩) := by
    refine ⟨?_, ?_⟩
    · have := Blk.new (w.alloc (.cells (oCells t ⟨an, false, 0, 0, false, 1, ⟨#[]⟩, Sz.no, Sz.no⟩) 70)) 94 (sCells w.heap.size first ⟨an, false, 0, 0, false, 1, ⟨#[]⟩, Sz.no, Sz.no⟩)
      simpa using this
    · exact (Blk.new _ _ _).alloc _
  have HB0 : Hid (Below w.heap.size w ((w.alloc (.cells (oCells t ⟨an, false, 0, 0, false, 1, ⟨#[]⟩, Sz.no, Sz.no⟩) 70)).alloc (.cells (sCells w.heap.size first ⟨an, false, 0, 0, false, 1, ⟨#[]⟩, Sz.no, Sz.no⟩) 94))) := ((Below.refl _ _).alloc (Nat.le_refl _) _).alloc (by simp) _
  have h4 := hG.big
  have hS1 : w.heap.size ≤ w.heap.size + 1 := by omega
  clear hsz hfe
  have HLT := hide hlt
  clear hlt
  have HD4 := HD3
  go_enter Tryd.func33, Tryd.ntmps33
  go_wp2_with fail
  refine (flags_any (w.heap.size + 1) w.heap.size t first ⟨an, false, 0, 0, false, 1, ⟨#[]⟩, Sz.no, Sz.no⟩ _ w.heap.size (unhide HP0) hS1 (Nat.le_refl _) hs rfl h1).mono ?_
  rintro x w1 ⟨rfl, hP1', hb1'⟩
  have hP1 : PS w1 (w.heap.size + 1) w.heap.size t first (st0 t.data.toList an) := hP1'
  have HB1 := hide ((unhide HB0).trans hb1')
  have HG1 := hide (hG.below (unhide HB1) h4)
  clear hP1' hb1'
  go_wp2_with fail
  refine (idx_some hP1 hS1 h4 (unhide HG1) hs (Int.le_trans (by decide) hf0) hf1 (unhide HO0).nb' (unhide HE1)).mono ?_
  rintro x w2 ⟨rfl, hP2, hb2⟩
  have HB2 := hide ((unhide HB1).trans hb2)
  have HG2 := hide (hG.below (unhide HB2) h4)
  clear hb2 hP1
  go_wp2_with fail
  refine (sz0 hP2 hS1 (Nat.le_refl _) h4 (unhide HG2) hs ((unhide HO1).mono (by decide))).mono ?_
  rintro x w3 ⟨rfl, hP3, hb3⟩
  have HB3 := hide ((unhide HB2).trans hb3)
  have HG3 := hide (hG.below (unhide HB3) h4)
  clear hb3 hP2
  go_wp2_with fail
  refine (prec_some hP3 hS1 (Nat.le_refl _) h4 (unhide HG3) hs hf0 hf1 ((unhide HO2).mono (by decide)) (unhide HE3)).mono ?_
  rintro x w4 ⟨rfl, hP4, hb4⟩
  have HB4 := hide ((unhide HB3).trans hb4)
  have HG4 := hide (hG.below (unhide HB4) h4)
  clear hb4 hP3
  have k6 : w4.cell? ⟨w.heap.size + 1, 6, none⟩ = some (.bool true) := by
    have := hP4.sb.cell 6
    rw [← unhide HD3]
    exact this
  go_wp2_with fail
  clear k6
  obtain ⟨w5, rfl⟩ : ∃ w5, w5 = w4 := ⟨_, rfl⟩
  have hP5 := hP4
  have HB5 := HB4
  have HG5 := HG4
  clear hP4
  have hlt5 := (unhide HLT)
  have HRW := hide hrw
  clear hrw
  have jE : ((s3.nb : Int) == (t.size : Int)) = false := by rw [beq_eq_false_iff_ne]; omega
  have c0 : w5.cell? ⟨w.heap.size + 1, 0, none⟩ = some (.pointer (some ⟨w.heap.size, 0, none⟩)) := hP5.sb.cell 0
  have c7 : w5.cell? ⟨w.heap.size + 1, 7, none⟩ = some (.int .i64 s3.nb) := hP5.sb.cell 7
  have d0 : w5.cell? ⟨w.heap.size, 0, none⟩ = some (.string t) := hP5.ob.cell 0
  go_quiet (fail)
  have j0 : (0 : Int) ≤ (s3.nb : Int) := by omega
  have j1 : (s3.nb : Int) ≤ (t.size : Int) := by omega
  have jw1 : s3.nb + wd ≤ t.size := by have := unhide HRW; omega
  have jw2 : (s3.nb : Int) + (wd : Int) ≤ (t.size : Int) := by omega
  go_wp2_with fail
  go_region_held3 (fun w' => w'.cell? ⟨w.heap.size + 1, 0, none⟩ = some (.pointer (some ⟨w.heap.size, 0, none⟩)) ∧ w'.cell? ⟨w.heap.size + 1, 7, none⟩ = some (.int .i64 s3.nb) ∧ w'.cell? ⟨w.heap.size, 0, none⟩ = some (.string t)) (simp [*])
    (first | (go_at_call 32; refine (dec_at t s3.nb r wd _ ((unhide HG5).drewN _) (unhide HRW).1).mono ?_; rintro x w6 ⟨rfl, hb6⟩; have hP6 := (hP5.drewN _).step hb6; have c0' : w6.cell? ⟨w.heap.size + 1, 0, none⟩ = some (.pointer (some ⟨w.heap.size, 0, none⟩)) := hP6.sb.cell 0; have c7' : w6.cell? ⟨w.heap.size + 1, 7, none⟩ = some (.int .i64 s3.nb) := hP6.sb.cell 7; have d0' : w6.cell? ⟨w.heap.size, 0, none⟩ = some (.string t) := hP6.ob.cell 0))
  clear c0 c7 d0 c0' c7' d0'
  have hlt6 := hP5.ob.lt
  have HB6 := hide ((below_drewN (unhide HB5) _).trans (hb6.mono (by simp; omega)))
  clear hb6
  have c0 : w6.cell? ⟨w.heap.size + 1, 0, none⟩ = some (.pointer (some ⟨w.heap.size, 0, none⟩)) := hP6.sb.cell 0
  have c2 : w6.cell? ⟨w.heap.size + 1, 2, none⟩ = some (.int .i64 s3.an) := hP6.sb.cell 2
  have c4 : w6.cell? ⟨w.heap.size + 1, 4, none⟩ = some (.int .i64 s3.ix) := hP6.sb.cell 4
  have c5 : w6.cell? ⟨w.heap.size + 1, 5, none⟩ = some (.int .i64 s3.ip) := hP6.sb.cell 5
  have c6 : w6.cell? ⟨w.heap.size + 1, 6, none⟩ = some (.bool true) := by
    have := hP6.sb.cell 6
    rw [← unhide HD4]
    exact this
  have c7 : w6.cell? ⟨w.heap.size + 1, 7, none⟩ = some (.int .i64 s3.nb) := hP6.sb.cell 7
  have d0 : w6.cell? ⟨w.heap.size, 0, none⟩ = some (.string t) := hP6.ob.cell 0
  have d1 : w6.cell? ⟨w.heap.size, 1, none⟩ = some (.int .i32 0) := hP6.ob.cell 1
  have d2 : w6.cell? ⟨w.heap.size, 2, none⟩ = some (.int .i64 0) := hP6.ob.cell 2
  have d3 : w6.cell? ⟨w.heap.size, 3, none⟩ = some (.int .i64 0) := hP6.ob.cell 3
  have d4 : w6.cell? ⟨w.heap.size, 4, none⟩ = some (.int .i64 0) := hP6.ob.cell 4
  have d5 : w6.cell? ⟨w.heap.size, 5, none⟩ = some (.int .i64 0) := hP6.ob.cell 5
  have f1 := hP6.ob.frozen 1
  have f2 := hP6.ob.frozen 2
  have f3 := hP6.ob.frozen 3
  have f4 := hP6.ob.frozen 4
  have f5 := hP6.ob.frozen 5
  have f7 := hP6.sb.frozen 7
  go_wp2_with fail
  go_still_tail 27, (by kernel_rfl)
  change wpList _ _ _ _ _ w6.drew
  go_wp2_with fail
  refine wgen (fun w7 => Blk w7 (w.heap.size + 1) 94 (sCells w.heap.size first { s3 with nb := s3.nb + wd }) ∧ Blk w7 w.heap.size 70 (vCells t ⟨s3, r, wd⟩) ∧ Below w.heap.size w w7) ?_ ?_
  · have hpp := set_verb s3 r wd hP6 s3.ip ((s3.nb : Int) + (wd : Int)) s3.ix s3.an ((s3.nb : Int) + (wd : Int)) (by simp [OpR.vs, unhide HD4]) (by simp [OpR.n]) (by simp [OpR.ix, unhide HD4]) rfl (by simp)
    exact ⟨hpp.1.drew, hpp.2.drew, (below_verb (unhide HB6) hS1 (Nat.le_refl _) _ _ _ _ _ _).drew⟩
  clear c0 c2 c4 c5 c6 c7 d0 d1 d2 d3 d4 d5 f1 f2 f3 f4 f5 f7
  rintro w7 ⟨hS7, hO7, hb7⟩
  have c0 : w7.cell? ⟨w.heap.size + 1, 0, none⟩ = some (.pointer (some ⟨w.heap.size, 0, none⟩)) := hS7.cell 0
  have c7 : w7.cell? ⟨w.heap.size + 1, 7, none⟩ = some (.int .i64 ((s3.nb : Int) + (wd : Int))) := by have := hS7.cell 7; rw [show (s3.nb : Int) + (wd : Int) = ((s3.nb + wd : Nat) : Int) from by omega]; exact this
  have d0 : w7.cell? ⟨w.heap.size, 0, none⟩ = some (.string t) := hO7.cell 0
  have f0 := hO7.frozen 0
  have j5 : (0 : Int) ≤ (s3.nb : Int) + (wd : Int) := by omega
  go_still_tail 18, (by kernel_rfl)
  change wpList _ _ _ _ _ w7.drew
  go_wp2_with fail
  go_ret2
  refine ⟨w.heap.size + 1, w.heap.size, rfl, hS1, Nat.le_refl _, ?_, ?_, ?_⟩
  · exact hS7.far (p := ⟨w.heap.size, 0, none⟩) (by show w.heap.size + 1 ≠ w.heap.size; omega) _
  · have ex : t.extract 0 (s3.nb + wd) = mk (t.data.toList.take (OpR.mk s3 r wd).n) := eq_mk (by rw [Lib.extract_data]; rfl)
    rw [ex]
    exact (hO7.set_ 0 _).drew
  · exact (hb7.setCell (Nat.le_refl _) _).drew
end Go.Proofs.YtjbmphfgckhaeaaDoor
