import Derived.Test.YtjbmphfgckhaeaaDoorWd
namespace Go.Proofs.YtjbmphfgckhaeaaDoor
open Go.RowKit

set_option maxRecDepth 100000 in
set_option maxHeartbeats 6400000 in
theorem sz_num0 (s o : Nat) (t : ByteArray) (first : Int) (st : St) (w : World) (B : Nat) (h : PS w s o t first st) (hBs : B ≤ s) (hBo : B ≤ o) (hs : t.size ≤ 140737488351232)
    (hb : t.data.toList[st.nb]? ≠ some 42) (hB4 : 4 ≤ B) (hG : G w) (hy : hasNum t.data.toList st.nb = true) :
    Calls Tryd.prog 41 #[.pointer (some ⟨s, 0, none⟩), .int .i64 0] w (OkP s o t first (szM 0 t.data.toList st) w B (.tuple #[])) := by
  have HSZ := hide (szM_num0 t.data.toList st hb hy)
  obtain ⟨an, hi, ix, ip, pd, nb, fl, wd, pr⟩ := st
  replace hb : t.data.toList[nb]? ≠ some 42 := hb
  replace hy : hasNum t.data.toList nb = true := hy
  have hlt : nb < t.size := by
    have h1 := size_data t
    unfold hasNum at hy
    simp only [decide_eq_true_eq] at hy
    omega
  obtain ⟨e, he⟩ : ∃ e, rE isD t.data.toList nb = e := ⟨_, rfl⟩
  obtain ⟨V, hN⟩ : ∃ V : Int, (numM t.data.toList nb : Int) = V := ⟨_, rfl⟩
  have HN := hide hN
  have HE := hide he
  have HY := hide hy
  clear hN he hy
  have c0 : w.cell? ⟨s, 0, none⟩ = some (.pointer (some ⟨o, 0, none⟩)) := h.sb.cell 0
  have c7 : w.cell? ⟨s, 7, none⟩ = some (.int .i64 nb) := h.sb.cell 7
  have d0 : w.cell? ⟨o, 0, none⟩ = some (.string t) := h.ob.cell 0
  have hi0 : (0 : Int) ≤ (nb : Int) := by omega
  have hi1 : (nb : Int) < (t.size : Int) := by omega
  have hd : decide ((nb : Int) < (t.size : Int)) = true := decide_eq_true (by omega)
  rw [get_data t nb hlt] at hb
  have hb3 : t[nb] ≠ 42 := fun e => hb (by rw [e])
  have HB := hide hb3
  clear hb hb3
  go_enter Tryd.func41, Tryd.ntmps41
  go_wp2
  go_quiet (fail)
  generalize hcc : t[nb] = c
  have hb9 : ((c.toNat : Int) == 42) = false := by rw [beq_eq_false_iff_ne]; intro e5; exact (unhide HB) (hcc.trans (UInt8.toNat_inj.1 (by simpa using Int.ofNat.inj e5)))
  clear hcc
  go_wp2_with (go_at_call 44; refine (scan_yes s o t first _ _ B V e (h.drewN _) hBs hB4 (hG.drewN _) hs (Nat.le_of_lt hlt) (unhide HY) (unhide HN) (unhide HE)).mono ?_; rintro x w1 ⟨rfl, hP1, hb1⟩; have c70 : w1.cell? ⟨s, 7, none⟩ = some (.int .i64 e) := hP1.sb.cell 7; have c00 : w1.cell? ⟨s, 0, none⟩ = some (.pointer (some ⟨o, 0, none⟩)) := hP1.sb.cell 0; have n7 := World.new_ne w1 _ c70; have n0 := World.new_ne w1 _ c00)
  have hb1' := (below_drewN (Below.refl B w) _).trans hb1
  refine wgen (fun w2 => PS w2 s o t first ⟨an, hi, ix, ip, pd, e, fl, wd, pr⟩ ∧ Below B w w2 ∧ Blk w2 w1.heap.size 68 #[.int .i64 V, .int .i64 (-1), .int .i64 (-1), .int .i64 (nb : Int), .int .i64 e]) ?_ ?_
  · exact ⟨hP1.step ((Below.refl _ _).alloc (Nat.le_refl _) _), hb1'.alloc (Nat.le_trans hBs (Nat.le_of_lt hP1.sb.lt)) _, Blk.new _ _ _⟩
  clear c0 c7 d0 c70 c00 n7 n0 hb1 hb1'
  generalize w1.heap.size = g
  rintro w2 ⟨hP2, hb2, hg⟩
  have c0 : w2.cell? ⟨s, 0, none⟩ = some (.pointer (some ⟨o, 0, none⟩)) := hP2.sb.cell 0
  have g0 : w2.cell? ⟨g, 0, none⟩ = some (.int .i64 V) := hg.cell 0
  have g1 : w2.cell? ⟨g, 1, none⟩ = some (.int .i64 (-1)) := hg.cell 1
  have g2 : w2.cell? ⟨g, 2, none⟩ = some (.int .i64 (-1)) := hg.cell 2
  have g3 : w2.cell? ⟨g, 3, none⟩ = some (.int .i64 (nb : Int)) := hg.cell 3
  have g4 : w2.cell? ⟨g, 4, none⟩ = some (.int .i64 (e : Int)) := hg.cell 4
  have e0 : w2.cell? ⟨o, 9, none⟩ = some (.int .i64 wd.fix) := hP2.ob.cell 9
  have e1 : w2.cell? ⟨o, 10, none⟩ = some (.int .i64 wd.dyn) := hP2.ob.cell 10
  have e2 : w2.cell? ⟨o, 11, none⟩ = some (.int .i64 wd.idx) := hP2.ob.cell 11
  have e3 : w2.cell? ⟨o, 12, none⟩ = some (.int .i64 wd.st) := hP2.ob.cell 12
  have e4 : w2.cell? ⟨o, 13, none⟩ = some (.int .i64 wd.en) := hP2.ob.cell 13
  have f0 := hP2.ob.frozen 9
  have f1 := hP2.ob.frozen 10
  have f2 := hP2.ob.frozen 11
  have f3 := hP2.ob.frozen 12
  have f4 := hP2.ob.frozen 13
  go_still_tail 7, (by kernel_rfl)
  change wpList _ _ _ _ _ w2.drew
  go_wp2_with fail
  go_end0
  rw [unhide HSZ]
  try simp only
  rw [unhide HE, unhide HN]
  exact ⟨rfl, (hP2.setWd ⟨V, (-1), (-1), (nb : Int), (e : Int)⟩).drew, (((((hb2.setCell hBo _).setCell hBo _).setCell hBo _).setCell hBo _).setCell hBo _).drew⟩
end Go.Proofs.YtjbmphfgckhaeaaDoor
