import Derived.Test.YtjbmphfgckhaeaaDoorWd
namespace Go.Proofs.YtjbmphfgckhaeaaDoor
open Go.RowKit

set_option maxRecDepth 100000 in
set_option maxHeartbeats 6400000 in
theorem sz_none_lt (s o : Nat) (t : ByteArray) (first : Int) (st : St) (w : World) (B : Nat) (h : PS w s o t first st) (hBs : B ≤ s) (hs : t.size ≤ 140737488351232)
    (k : Nat) (kk : Int) (hb : t.data.toList[st.nb]? ≠ some 42) (hB4 : 4 ≤ B) (hG : G w) (hy : hasNum t.data.toList st.nb = false) (hlt : st.nb < t.size) :
    Calls Tryd.prog 41 #[.pointer (some ⟨s, 0, none⟩), .int .i64 kk] w (OkP s o t first (szM k t.data.toList st) w B (.tuple #[])) := by
  have HSZ := hide (szM_none k t.data.toList st hb hy)
  obtain ⟨an, hi, ix, ip, pd, nb, fl, wd, pr⟩ := st
  replace hb : t.data.toList[nb]? ≠ some 42 := hb
  replace hy : hasNum t.data.toList nb = false := hy
  replace hlt : nb < t.size := hlt
  obtain ⟨e, he⟩ : ∃ e, rE isD t.data.toList nb = e := ⟨_, rfl⟩
  have HE := hide he
  have HY := hide hy
  clear he hy
  have c0 : w.cell? ⟨s, 0, none⟩ = some (.pointer (some ⟨o, 0, none⟩)) := h.sb.cell 0
  have c7 : w.cell? ⟨s, 7, none⟩ = some (.int .i64 nb) := h.sb.cell 7
  have d0 : w.cell? ⟨o, 0, none⟩ = some (.string t) := h.ob.cell 0
  have hi0 : (0 : Int) ≤ (nb : Int) := by omega
  have hi1 : (nb : Int) < (t.size : Int) := by omega
  have hd : decide ((nb : Int) < (t.size : Int)) = true := decide_eq_true (by omega)
  rw [get_data t nb hlt] at hb
  have hb3 : t[nb] ≠ 42 := fun e => hb (by rw [e])
  have HB := hide hb3
  clear hb hb3
  go_enter Tryd.func41, Tryd.ntmps41
  go_wp2
  go_quiet (fail)
  generalize hcc : t[nb] = c
  have hb9 : ((c.toNat : Int) == 42) = false := by rw [beq_eq_false_iff_ne]; intro e5; exact (unhide HB) (hcc.trans (UInt8.toNat_inj.1 (by simpa using Int.ofNat.inj e5)))
  clear hcc
  go_wp2_with (go_at_call 44; refine (scan_no s o t first _ _ B e (h.drewN _) hBs hB4 (hG.drewN _) hs (Nat.le_of_lt hlt) (unhide HY) (unhide HE)).mono ?_; rintro x w1 ⟨rfl, hP1, hb1⟩)
  go_end0
  rw [unhide HSZ]
  try simp only
  rw [unhide HE]
  exact ⟨rfl, hP1, (below_drewN (Below.refl B w) _).trans hb1⟩

set_option maxRecDepth 100000 in
set_option maxHeartbeats 6400000 in
theorem sz_none_end (s o : Nat) (t : ByteArray) (first : Int) (st : St) (w : World) (B : Nat) (h : PS w s o t first st) (hBs : B ≤ s) (hs : t.size ≤ 140737488351232)
    (k : Nat) (kk : Int) (hb : t.data.toList[st.nb]? ≠ some 42) (hB4 : 4 ≤ B) (hG : G w) (hy : hasNum t.data.toList st.nb = false) (hlt : st.nb = t.size) :
    Calls Tryd.prog 41 #[.pointer (some ⟨s, 0, none⟩), .int .i64 kk] w (OkP s o t first (szM k t.data.toList st) w B (.tuple #[])) := by
  have HSZ := hide (szM_none k t.data.toList st hb hy)
  obtain ⟨an, hi, ix, ip, pd, nb, fl, wd, pr⟩ := st
  replace hb : t.data.toList[nb]? ≠ some 42 := hb
  replace hy : hasNum t.data.toList nb = false := hy
  replace hlt : nb = t.size := hlt
  obtain ⟨e, he⟩ : ∃ e, rE isD t.data.toList nb = e := ⟨_, rfl⟩
  have HE := hide he
  have HY := hide hy
  clear he hy
  have c0 : w.cell? ⟨s, 0, none⟩ = some (.pointer (some ⟨o, 0, none⟩)) := h.sb.cell 0
  have c7 : w.cell? ⟨s, 7, none⟩ = some (.int .i64 nb) := h.sb.cell 7
  have d0 : w.cell? ⟨o, 0, none⟩ = some (.string t) := h.ob.cell 0
  have hle1 : nb ≤ t.size := by omega
  have hle2 : t.size ≤ nb := by omega
  clear hlt hb
  have hd : decide (nb < t.size) = false := decide_eq_false (by omega)
  go_enter Tryd.func41, Tryd.ntmps41
  go_wp2
  go_quiet (fail)
  go_wp2_with (go_at_call 44; refine (scan_no s o t first _ _ B e (h.drewN _) hBs hB4 (hG.drewN _) hs hle1 (unhide HY) (unhide HE)).mono ?_; rintro x w1 ⟨rfl, hP1, hb1⟩)
  go_end0
  rw [unhide HSZ]
  try simp only
  rw [unhide HE]
  exact ⟨rfl, hP1, (below_drewN (Below.refl B w) _).trans hb1⟩
end Go.Proofs.YtjbmphfgckhaeaaDoor
