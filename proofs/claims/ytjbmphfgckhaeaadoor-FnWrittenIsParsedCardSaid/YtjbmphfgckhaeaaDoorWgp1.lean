import Derived.Test.YtjbmphfgckhaeaaDoorWd
namespace Go.Proofs.YtjbmphfgckhaeaaDoor
open Go.RowKit

set_option maxRecDepth 100000 in
set_option maxHeartbeats 6400000 in
theorem sz_pend1 (s o : Nat) (t : ByteArray) (first : Int) (st : St) (w : World) (B : Nat) (h : PS w s o t first st) (hBs : B ≤ s) (hBo : B ≤ o) (hs : t.size ≤ 140737488351232)
    (hb : t.data.toList[st.nb]? = some 42) (hp : st.pd = true) (ha0 : 0 ≤ st.an) (ha1 : st.an ≤ 1000000000000000000) (hip0 : 0 ≤ st.ip) (hip1 : st.ip ≤ 1000000000000000000) :
    Calls Tryd.prog 41 #[.pointer (some ⟨s, 0, none⟩), .int .i64 1] w (OkP s o t first (szM 1 t.data.toList st) w B (.tuple #[])) := by
  have HSZ := hide (szM_star1 t.data.toList st hb hp)
  obtain ⟨an, hi, ix, ip, pd, nb, fl, wd, pr⟩ := st
  obtain rfl : pd = true := hp
  replace hb : t.data.toList[nb]? = some 42 := hb
  replace ha0 : 0 ≤ an := ha0
  replace ha1 : an ≤ 1000000000000000000 := ha1
  replace hip0 : 0 ≤ ip := hip0
  replace hip1 : ip ≤ 1000000000000000000 := hip1
  have c0 : w.cell? ⟨s, 0, none⟩ = some (.pointer (some ⟨o, 0, none⟩)) := h.sb.cell 0
  have c2 : w.cell? ⟨s, 2, none⟩ = some (.int .i64 an) := h.sb.cell 2
  have c6 : w.cell? ⟨s, 6, none⟩ = some (.bool true) := h.sb.cell 6
  have c7 : w.cell? ⟨s, 7, none⟩ = some (.int .i64 nb) := h.sb.cell 7
  have d0 : w.cell? ⟨o, 0, none⟩ = some (.string t) := h.ob.cell 0
  have f6 := h.sb.frozen 6
  have f7 := h.sb.frozen 7
  have hlt := (List.getElem?_eq_some_iff.1 hb).1
  have hsz := size_data t
  have hlt' : nb < t.size := by omega
  have hb2 : t[nb] = 42 := Option.some.inj ((get_data t nb hlt').symm.trans hb)
  have HB := hide hb2
  clear hb hb2 hlt hsz
  have hi0 : (0 : Int) ≤ (nb : Int) := by omega
  have hi1 : (nb : Int) < (t.size : Int) := by omega
  have hd : decide ((nb : Int) < (t.size : Int)) = true := decide_eq_true (by omega)
  go_enter Tryd.func41, Tryd.ntmps41
  go_wp2
  go_quiet (fail)
  rw [unhide HB]
  go_wp2
  refine wgen (fun w1 => PS w1 s o t first ⟨an, hi, ix, ip, false, nb + 1, fl, wd, pr⟩ ∧ Below B w w1) ?_ ?_
  · exact ⟨((h.drewN _).setNb ((nb : Int) + 1) (nb + 1) (by omega)).setPd false, ((below_drewN (Below.refl _ _) _).setCell hBs _).setCell hBs _⟩
  clear c0 c2 c6 c7 d0 f6 f7
  rintro w1 ⟨hP1, hb1⟩
  have c0 : w1.cell? ⟨s, 0, none⟩ = some (.pointer (some ⟨o, 0, none⟩)) := hP1.sb.cell 0
  have c2 : w1.cell? ⟨s, 2, none⟩ = some (.int .i64 an) := hP1.sb.cell 2
  have c4 : w1.cell? ⟨s, 4, none⟩ = some (.int .i64 ix) := hP1.sb.cell 4
  have c5 : w1.cell? ⟨s, 5, none⟩ = some (.int .i64 ip) := hP1.sb.cell 5
  have c7 : w1.cell? ⟨s, 7, none⟩ = some (.int .i64 ((nb : Int) + 1)) := hP1.sb.cell 7
  have n0 := World.new_ne w1 _ c0
  have n2 := World.new_ne w1 _ c2
  have n7 := World.new_ne w1 _ c7
  have n4 := World.new_ne w1 _ c4
  have n5 := World.new_ne w1 _ c5
  go_region_held3 (fun w' => w'.cell? ⟨s, 2, none⟩ = some (.int .i64 an) ∧ w'.cell? ⟨s, 4, none⟩ = some (.int .i64 ix) ∧ w'.cell? ⟨s, 5, none⟩ = some (.int .i64 ip) ∧ w'.cell? ⟨s, 7, none⟩ = some (.int .i64 ((nb : Int) + 1))) (go_keep) (fail)
  clear n0 n2 n7 n4 n5
  go_wp2_with fail
  refine wgen (fun w2 => PS w2 s o t first ⟨an, hi, ix, ip, false, nb + 1, fl, wd, pr⟩ ∧ Below B w w2 ∧ Blk w2 w1.heap.size 68 #[.int .i64 (-1), .int .i64 an, .int .i64 ix, .int .i64 (ip - 1), .int .i64 ((nb : Int) + 1)]) ?_ ?_
  · exact ⟨((hP1.step ((Below.refl _ _).alloc (Nat.le_refl _) _)).drew), (hb1.alloc (Nat.le_trans hBs (Nat.le_of_lt hP1.sb.lt)) _).drew, Blk.new _ _ _⟩
  clear c0 c2 c4 c5 c7
  generalize w1.heap.size = g
  rintro w2 ⟨hP2, hb2, hg⟩
  have c0 : w2.cell? ⟨s, 0, none⟩ = some (.pointer (some ⟨o, 0, none⟩)) := hP2.sb.cell 0
  have g0 : w2.cell? ⟨g, 0, none⟩ = some (.int .i64 (-1)) := hg.cell 0
  have g1 : w2.cell? ⟨g, 1, none⟩ = some (.int .i64 an) := hg.cell 1
  have g2 : w2.cell? ⟨g, 2, none⟩ = some (.int .i64 ix) := hg.cell 2
  have g3 : w2.cell? ⟨g, 3, none⟩ = some (.int .i64 (ip - 1)) := hg.cell 3
  have g4 : w2.cell? ⟨g, 4, none⟩ = some (.int .i64 ((nb : Int) + 1)) := hg.cell 4
  have e0 : w2.cell? ⟨o, 14, none⟩ = some (.int .i64 pr.fix) := hP2.ob.cell 14
  have e1 : w2.cell? ⟨o, 15, none⟩ = some (.int .i64 pr.dyn) := hP2.ob.cell 15
  have e2 : w2.cell? ⟨o, 16, none⟩ = some (.int .i64 pr.idx) := hP2.ob.cell 16
  have e3 : w2.cell? ⟨o, 17, none⟩ = some (.int .i64 pr.st) := hP2.ob.cell 17
  have e4 : w2.cell? ⟨o, 18, none⟩ = some (.int .i64 pr.en) := hP2.ob.cell 18
  have f0 := hP2.ob.frozen 14
  have f1 := hP2.ob.frozen 15
  have f2 := hP2.ob.frozen 16
  have f3 := hP2.ob.frozen 17
  have f4 := hP2.ob.frozen 18
  go_still_tail 7, (by kernel_rfl)
  change wpList _ _ _ _ _ w2.drew
  have k2 : w2.cell? ⟨s, 2, none⟩ = some (.int .i64 an) := hP2.sb.cell 2
  have f5 := hP2.sb.frozen 2
  go_wp2_with fail
  go_end0
  rw [unhide HSZ]
  exact ⟨rfl, ((hP2.setPr ⟨(-1), an, ix, (ip - 1), ((nb : Int) + 1)⟩).setAn (an + 1) (an + 1) rfl).drew, ((((((hb2.setCell hBo _).setCell hBo _).setCell hBo _).setCell hBo _).setCell hBo _).setCell hBs _).drew⟩
end Go.Proofs.YtjbmphfgckhaeaaDoor
