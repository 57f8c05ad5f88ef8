import Derived.Test.YtjbmphfgckhaeaaDoorWd
namespace Go.Proofs.YtjbmphfgckhaeaaDoor
open Go.RowKit

set_option maxRecDepth 100000 in
set_option maxHeartbeats 3200000 in
theorem idx_over (s o : Nat) (t : ByteArray) (first : Int) (st : St) (w : World) (B : Nat) (a e : Nat) (h : PS w s o t first st) (hBs : B ≤ s) (hB4 : 4 ≤ B) (hG : G w) (hs : t.size ≤ 140737488351232)
    (hb : t.data.toList[st.nb]? = some 91) (ha : st.nb + 1 = a) (he : rE isD t.data.toList a = e) (hae : a < e) (hc : t.data.toList[e]? = some 93) (hbad : mx32 < dv (seg t.data.toList a e)) :
    Calls Tryd.prog 40 #[.pointer (some ⟨s, 0, none⟩)] w (BadP w B) := by
  have c0 : w.cell? ⟨s, 0, none⟩ = some (.pointer (some ⟨o, 0, none⟩)) := h.sb.cell 0
  have c7 : w.cell? ⟨s, 7, none⟩ = some (.int .i64 st.nb) := h.sb.cell 7
  have d0 : w.cell? ⟨o, 0, none⟩ = some (.string t) := h.ob.cell 0
  have f7 := h.sb.frozen 7
  have hlt := (List.getElem?_eq_some_iff.1 hb).1
  have hsz := size_data t
  have hlt' : st.nb < t.size := by omega
  have hb2 : t[st.nb] = 91 := Option.some.inj ((get_data t st.nb hlt').symm.trans hb)
  have hle := (List.getElem?_eq_some_iff.1 hc).1
  have hle' : e < t.size := by omega
  have hc2 : t[e] = 93 := Option.some.inj ((get_data t e hle').symm.trans hc)
  have HC := hide hc2
  have HY : Hid (hasNum t.data.toList a = true) := by
    show hasNum _ _ = true
    unfold hasNum
    rw [he]
    simp only [decide_eq_true_eq]
    omega
  obtain ⟨V, hN⟩ : ∃ V : Int, (numM t.data.toList a : Int) = V := ⟨_, rfl⟩
  have HN := hide hN
  have HF := hide hbad
  clear hc hc2 hle hN hbad
  have HA := hide ha
  have HE := hide he
  have HB := hide hb2
  have ha1 : st.nb + 1 ≤ a := by omega
  have ha2 : a ≤ st.nb + 1 := by omega
  clear hb hb2 ha he hsz hlt
  have hi0 : (0 : Int) ≤ (st.nb : Int) := by omega
  have hi1 : (st.nb : Int) < (t.size : Int) := by omega
  have hd : ((st.nb : Int) == (t.size : Int)) = false := by rw [beq_eq_false_iff_ne]; omega
  go_enter Tryd.func40, Tryd.ntmps40
  go_wp2
  go_quiet (fail)
  rw [unhide HB]
  have HP1 : Hid (∀ n, PS ((w.drewN n).setCell ⟨s, 7, none⟩ (.int .i64 ((st.nb : Int) + 1))) s o t first { st with nb := a }) := fun n => (h.drewN n).setNb _ a (by omega)
  have HB1 : Hid (∀ n, Below B w ((w.drewN n).setCell ⟨s, 7, none⟩ (.int .i64 ((st.nb : Int) + 1)))) := fun n => (below_drewN (Below.refl _ _) n).setCell hBs _
  go_wp2_with (go_at_call 44; refine (scan_yes s o t first _ _ B V e (unhide HP1 _) hBs hB4 (hG.below (unhide HB1 _) hB4) hs (by show a ≤ t.size; omega) (unhide HY) (unhide HN) (unhide HE)).mono ?_; rintro x w2 ⟨rfl, hP2, hb2⟩; have c72 : w2.cell? ⟨s, 7, none⟩ = some (.int .i64 e) := hP2.sb.cell 7; have f42 := hP2.sb.frozen 4; have f52 := hP2.sb.frozen 5; have c42 : w2.cell? ⟨s, 4, none⟩ = some (.int .i64 st.ix) := hP2.sb.cell 4; have c52 : w2.cell? ⟨s, 5, none⟩ = some (.int .i64 st.ip) := hP2.sb.cell 5)
  have hB2 := (unhide HB1 _).trans hb2
  refine wgen (fun w3 => PS w3 s o t first { st with nb := e, ix := V, ip := st.nb } ∧ Below B w w3) ?_ ?_
  · exact ⟨(hP2.setIx V V rfl).setIp _ (st.nb : Int) rfl, (hB2.setCell hBs _).setCell hBs _⟩
  clear c0 c7 d0 f7 c72 f42 f52 c42 c52 hP2 hb2 hB2
  rintro w3 ⟨hP3, hb3⟩
  have c0 : w3.cell? ⟨s, 0, none⟩ = some (.pointer (some ⟨o, 0, none⟩)) := hP3.sb.cell 0
  have c7 : w3.cell? ⟨s, 7, none⟩ = some (.int .i64 e) := hP3.sb.cell 7
  have d0 : w3.cell? ⟨o, 0, none⟩ = some (.string t) := hP3.ob.cell 0
  have f7 := hP3.sb.frozen 7
  have hG3 := hG.below hb3 hB4
  have HG3 := hide hG3
  have HB3 := hide hb3
  clear hG3 hb3
  have j0 : (0 : Int) ≤ (e : Int) := by omega
  have j1 : (e : Int) < (t.size : Int) := by omega
  have j2 : ((e : Int) == (t.size : Int)) = false := by rw [beq_eq_false_iff_ne]; omega
  have j3 : ((e : Int) == (st.nb : Int) + 1) = false := by rw [beq_eq_false_iff_ne]; omega
  go_quiet (fail)
  rw [unhide HC]
  have j4 : (st.nb : Int) + 1 ≤ (e : Int) := by omega
  go_wp2
  have j5 : (e : Int) ≤ (t.size : Int) := by omega
  have j6 : (0 : Int) ≤ (st.nb : Int) + 1 := by omega
  go_region_held3 (fun w' => w'.cell? ⟨s, 0, none⟩ = some (.pointer (some ⟨o, 0, none⟩)) ∧ w'.cell? ⟨s, 7, none⟩ = some (.int .i64 e) ∧ w'.cell? ⟨o, 0, none⟩ = some (.string t)) (simp [*])
    (first | (go_at_call 45; refine (pint_over t (st.nb + 1) e _ hs ((unhide HG3).drewN _) (by omega) (by rw [unhide HA]; exact unhide HE) (by rw [unhide HA]; exact unhide HF)).mono ?_; rintro x w4 ⟨v5, q5, rfl, hb4⟩; have hP4 := (hP3.drewN _).step hb4; have c0' : w4.cell? ⟨s, 0, none⟩ = some (.pointer (some ⟨o, 0, none⟩)) := hP4.sb.cell 0; have c7' : w4.cell? ⟨s, 7, none⟩ = some (.int .i64 e) := hP4.sb.cell 7; have d0' : w4.cell? ⟨o, 0, none⟩ = some (.string t) := hP4.ob.cell 0))
  clear c0 c7 d0 f7
  have hlt := hP3.sb.lt
  have hb5 : Below B w w4 := (below_drewN (unhide HB3) _).trans (hb4.mono (by simp; omega))
  have hsz5 := hb5.size
  have hsz6 := h.sb.lt
  have HB5 := hide hb5
  clear hb5 hb4
  go_wp2_with (go_at_call 37; refine (errNew_any _ _).mono ?_; rintro x w6 ⟨⟨q, rfl⟩, hb6⟩)
  go_ret
  exact ⟨⟨102, q, rfl⟩, (unhide HB5).trans (hb6.mono (by omega))⟩

set_option maxRecDepth 100000 in
set_option maxHeartbeats 3200000 in
theorem idx_zero (s o : Nat) (t : ByteArray) (first : Int) (st : St) (w : World) (B : Nat) (a e : Nat) (h : PS w s o t first st) (hBs : B ≤ s) (hB4 : 4 ≤ B) (hG : G w) (hs : t.size ≤ 140737488351232)
    (hb : t.data.toList[st.nb]? = some 91) (ha : st.nb + 1 = a) (he : rE isD t.data.toList a = e) (hae : a < e) (hc : t.data.toList[e]? = some 93) (hbad : dv (seg t.data.toList a e) = 0) :
    Calls Tryd.prog 40 #[.pointer (some ⟨s, 0, none⟩)] w (BadP w B) := by
  have c0 : w.cell? ⟨s, 0, none⟩ = some (.pointer (some ⟨o, 0, none⟩)) := h.sb.cell 0
  have c7 : w.cell? ⟨s, 7, none⟩ = some (.int .i64 st.nb) := h.sb.cell 7
  have d0 : w.cell? ⟨o, 0, none⟩ = some (.string t) := h.ob.cell 0
  have f7 := h.sb.frozen 7
  have hlt := (List.getElem?_eq_some_iff.1 hb).1
  have hsz := size_data t
  have hlt' : st.nb < t.size := by omega
  have hb2 : t[st.nb] = 91 := Option.some.inj ((get_data t st.nb hlt').symm.trans hb)
  have hle := (List.getElem?_eq_some_iff.1 hc).1
  have hle' : e < t.size := by omega
  have hc2 : t[e] = 93 := Option.some.inj ((get_data t e hle').symm.trans hc)
  have HC := hide hc2
  have HY : Hid (hasNum t.data.toList a = true) := by
    show hasNum _ _ = true
    unfold hasNum
    rw [he]
    simp only [decide_eq_true_eq]
    omega
  obtain ⟨V, hN⟩ : ∃ V : Int, (numM t.data.toList a : Int) = V := ⟨_, rfl⟩
  have hV : V ≤ 0 := by
    rw [← hN]
    unfold numM
    rw [he, hbad]
    simp
  have HN := hide hN
  have HF := hide hbad
  clear hc hc2 hle hN hbad
  have HA := hide ha
  have HE := hide he
  have HB := hide hb2
  have ha1 : st.nb + 1 ≤ a := by omega
  have ha2 : a ≤ st.nb + 1 := by omega
  clear hb hb2 ha he hsz hlt
  have hi0 : (0 : Int) ≤ (st.nb : Int) := by omega
  have hi1 : (st.nb : Int) < (t.size : Int) := by omega
  have hd : ((st.nb : Int) == (t.size : Int)) = false := by rw [beq_eq_false_iff_ne]; omega
  go_enter Tryd.func40, Tryd.ntmps40
  go_wp2
  go_quiet (fail)
  rw [unhide HB]
  have HP1 : Hid (∀ n, PS ((w.drewN n).setCell ⟨s, 7, none⟩ (.int .i64 ((st.nb : Int) + 1))) s o t first { st with nb := a }) := fun n => (h.drewN n).setNb _ a (by omega)
  have HB1 : Hid (∀ n, Below B w ((w.drewN n).setCell ⟨s, 7, none⟩ (.int .i64 ((st.nb : Int) + 1)))) := fun n => (below_drewN (Below.refl _ _) n).setCell hBs _
  go_wp2_with (go_at_call 44; refine (scan_yes s o t first _ _ B V e (unhide HP1 _) hBs hB4 (hG.below (unhide HB1 _) hB4) hs (by show a ≤ t.size; omega) (unhide HY) (unhide HN) (unhide HE)).mono ?_; rintro x w2 ⟨rfl, hP2, hb2⟩; have c72 : w2.cell? ⟨s, 7, none⟩ = some (.int .i64 e) := hP2.sb.cell 7; have f42 := hP2.sb.frozen 4; have f52 := hP2.sb.frozen 5; have c42 : w2.cell? ⟨s, 4, none⟩ = some (.int .i64 st.ix) := hP2.sb.cell 4; have c52 : w2.cell? ⟨s, 5, none⟩ = some (.int .i64 st.ip) := hP2.sb.cell 5)
  have hB2 := (unhide HB1 _).trans hb2
  refine wgen (fun w3 => PS w3 s o t first { st with nb := e, ix := V, ip := st.nb } ∧ Below B w w3) ?_ ?_
  · exact ⟨(hP2.setIx V V rfl).setIp _ (st.nb : Int) rfl, (hB2.setCell hBs _).setCell hBs _⟩
  clear c0 c7 d0 f7 c72 f42 f52 c42 c52 hP2 hb2 hB2
  rintro w3 ⟨hP3, hb3⟩
  have c0 : w3.cell? ⟨s, 0, none⟩ = some (.pointer (some ⟨o, 0, none⟩)) := hP3.sb.cell 0
  have c7 : w3.cell? ⟨s, 7, none⟩ = some (.int .i64 e) := hP3.sb.cell 7
  have d0 : w3.cell? ⟨o, 0, none⟩ = some (.string t) := hP3.ob.cell 0
  have f7 := hP3.sb.frozen 7
  have hG3 := hG.below hb3 hB4
  have HG3 := hide hG3
  have HB3 := hide hb3
  clear hG3 hb3
  have j0 : (0 : Int) ≤ (e : Int) := by omega
  have j1 : (e : Int) < (t.size : Int) := by omega
  have j2 : ((e : Int) == (t.size : Int)) = false := by rw [beq_eq_false_iff_ne]; omega
  have j3 : ((e : Int) == (st.nb : Int) + 1) = false := by rw [beq_eq_false_iff_ne]; omega
  go_quiet (fail)
  rw [unhide HC]
  have j4 : (st.nb : Int) + 1 ≤ (e : Int) := by omega
  go_wp2
  have j5 : (e : Int) ≤ (t.size : Int) := by omega
  have j6 : (0 : Int) ≤ (st.nb : Int) + 1 := by omega
  go_region_held3 (fun w' => w'.cell? ⟨s, 0, none⟩ = some (.pointer (some ⟨o, 0, none⟩)) ∧ w'.cell? ⟨s, 7, none⟩ = some (.int .i64 e) ∧ w'.cell? ⟨o, 0, none⟩ = some (.string t)) (simp [*])
    (first | (go_at_call 45; refine (pint_fit t (st.nb + 1) e V _ hs ((unhide HG3).drewN _) (by omega) (by rw [unhide HA]; exact unhide HE) (by rw [unhide HA]; exact unhide HN) (by rw [unhide HA, unhide HF]; exact Nat.zero_le _)).mono ?_; rintro x w4 ⟨rfl, hb4⟩; have hP4 := (hP3.drewN _).step hb4; have c0' : w4.cell? ⟨s, 0, none⟩ = some (.pointer (some ⟨o, 0, none⟩)) := hP4.sb.cell 0; have c7' : w4.cell? ⟨s, 7, none⟩ = some (.int .i64 e) := hP4.sb.cell 7; have d0' : w4.cell? ⟨o, 0, none⟩ = some (.string t) := hP4.ob.cell 0))
  clear c0 c7 d0 f7
  have hlt := hP3.sb.lt
  have hb5 : Below B w w4 := (below_drewN (unhide HB3) _).trans (hb4.mono (by simp; omega))
  have hsz5 := hb5.size
  have hsz6 := h.sb.lt
  have HB5 := hide hb5
  clear hb5 hb4
  go_wp2_with (go_at_call 37; refine (errNew_any _ _).mono ?_; rintro x w6 ⟨⟨q, rfl⟩, hb6⟩)
  go_ret
  exact ⟨⟨102, q, rfl⟩, (unhide HB5).trans (hb6.mono (by omega))⟩
end Go.Proofs.YtjbmphfgckhaeaaDoor
