import Derived.Test.YtjbmphfgckhaeaaDoorWd
namespace Go.Proofs.YtjbmphfgckhaeaaDoor
open Go.RowKit

set_option maxRecDepth 100000 in
set_option maxHeartbeats 6400000 in
theorem idx_syn2 (s o : Nat) (t : ByteArray) (first : Int) (st : St) (w : World) (B : Nat) (a e : Nat) (h : PS w s o t first st) (hBs : B ≤ s) (hB4 : 4 ≤ B) (hG : G w) (hs : t.size ≤ 140737488351232)
    (hb : t.data.toList[st.nb]? = some 91) (ha : st.nb + 1 = a) (he : rE isD t.data.toList a = e) (hae : a = e) (hlt2 : e < t.size) :
    Calls Tryd.prog 40 #[.pointer (some ⟨s, 0, none⟩)] w (BadP w B) := by
  have c0 : w.cell? ⟨s, 0, none⟩ = some (.pointer (some ⟨o, 0, none⟩)) := h.sb.cell 0
  have c7 : w.cell? ⟨s, 7, none⟩ = some (.int .i64 st.nb) := h.sb.cell 7
  have d0 : w.cell? ⟨o, 0, none⟩ = some (.string t) := h.ob.cell 0
  have f7 := h.sb.frozen 7
  have hlt := (List.getElem?_eq_some_iff.1 hb).1
  have hsz := size_data t
  have hlt' : st.nb < t.size := by omega
  have hb2 : t[st.nb] = 91 := Option.some.inj ((get_data t st.nb hlt').symm.trans hb)
  have hea := rE_ge isD t.data.toList a
  have hee := rE_le isD t.data.toList a (by omega)
  rw [he] at hea hee
  rw [← hsz] at hee
  have HY : Hid (hasNum t.data.toList a = false) := by
    show hasNum _ _ = false
    unfold hasNum
    rw [he]
    simp only [decide_eq_false_iff_not]
    omega
  have HA := hide ha
  have HE := hide he
  have HB := hide hb2
  have ha1 : st.nb + 1 ≤ a := by omega
  have ha2 : a ≤ st.nb + 1 := by omega
  clear hb hb2 ha he hsz hlt
  have hi0 : (0 : Int) ≤ (st.nb : Int) := by omega
  have hi1 : (st.nb : Int) < (t.size : Int) := by omega
  have hd : ((st.nb : Int) == (t.size : Int)) = false := by rw [beq_eq_false_iff_ne]; omega
  go_enter Tryd.func40, Tryd.ntmps40
  go_wp2
  go_quiet (fail)
  rw [unhide HB]
  have HP1 : Hid (∀ n, PS ((w.drewN n).setCell ⟨s, 7, none⟩ (.int .i64 ((st.nb : Int) + 1))) s o t first { st with nb := a }) := fun n => (h.drewN n).setNb _ a (by omega)
  have HB1 : Hid (∀ n, Below B w ((w.drewN n).setCell ⟨s, 7, none⟩ (.int .i64 ((st.nb : Int) + 1)))) := fun n => (below_drewN (Below.refl _ _) n).setCell hBs _
  have hae1 : a ≤ e := by omega
  have hae2 : e ≤ a := by omega
  clear hae
  go_wp2_with (go_at_call 44; refine (scan_no s o t first _ _ B e (unhide HP1 _) hBs hB4 (hG.below (unhide HB1 _) hB4) hs (by show a ≤ t.size; omega) (unhide HY) (unhide HE)).mono ?_; rintro x w2 ⟨rfl, hP2, hb2⟩; have c72 : w2.cell? ⟨s, 7, none⟩ = some (.int .i64 e) := hP2.sb.cell 7)
  have hB2 := (unhide HB1 _).trans hb2
  refine wgen (fun w3 => ∃ st3 : St, Hid (st3.nb = e) ∧ PS w3 s o t first st3 ∧ Below B w w3) ?_ ?_
  · exact ⟨{ st with nb := e }, rfl, hP2, hB2⟩
  clear c0 c7 d0 f7 c72 hP2 hb2 hB2
  rintro w3 ⟨st3, hst3, hP3, hb3⟩
  have c0 : w3.cell? ⟨s, 0, none⟩ = some (.pointer (some ⟨o, 0, none⟩)) := hP3.sb.cell 0
  have c7 : w3.cell? ⟨s, 7, none⟩ = some (.int .i64 e) := by have := hP3.sb.cell 7; rw [← unhide hst3]; exact this
  have d0 : w3.cell? ⟨o, 0, none⟩ = some (.string t) := hP3.ob.cell 0
  have f7 := hP3.sb.frozen 7
  have HG3 := hide (hG.below hb3 hB4)
  have HB3 := hide hb3
  clear hb3
  have j2 : ((e : Int) == (t.size : Int)) = false := by rw [beq_eq_false_iff_ne]; omega
  have j3 : ((e : Int) == (st.nb : Int) + 1) = true := by rw [beq_iff_eq]; omega
  go_quiet (fail)
  have j6 : (0 : Int) ≤ (st.nb : Int) + 1 := by omega
  have j7 : (st.nb : Int) + 1 ≤ (t.size : Int) := by omega
  have hx : (t.extract (st.nb + 1) t.size).size ≤ t.size := by simp
  have hx' : (t.extract (st.nb + 1) t.size).size ≤ 140737488351232 := by omega
  have hx2 : (t.extract (st.nb + 1) t.size).size = t.size - (st.nb + 1) := by simp
  have hx3 : ((t.extract (st.nb + 1) t.size).size : Int) ≤ (t.size : Int) - ((st.nb : Int) + 1) := by omega
  clear hx2
  have hszB := h.sb.lt
  by_cases hin : (93 : UInt8) ∈ (t.extract (st.nb + 1) t.size).data.toList
  · have HIN := hide hin
    clear hin
    go_wp2_with (go_at_call 36; refine (index_in _ _ 93 _ hx' (lit1 _) (lit1s _) (unhide HIN)).mono ?_; rintro x w' ⟨r, rfl, rfl, hr0, hr1⟩)
    have jr : r + ((st.nb : Int) + 1) ≤ (t.size : Int) := by omega
    have jr0 : (st.nb : Int) + 1 ≤ r + ((st.nb : Int) + 1) := by omega
    obtain ⟨m, hm⟩ : ∃ m : Nat, r + ((st.nb : Int) + 1) = (m : Int) := ⟨(r + ((st.nb : Int) + 1)).toNat, by omega⟩
    have hm0 : (st.nb : Int) + 1 ≤ (m : Int) := by omega
    have hm1 : (m : Int) ≤ (t.size : Int) := by omega
    refine wgen (fun w4 => PS w4 s o t first { st3 with nb := m } ∧ Below B w w4) ?_ ?_
    · exact ⟨((hP3.drewN _).setNb r r.toNat (by omega)).setNb _ m hm, ((below_drewN (unhide HB3) _).setCell hBs _).setCell hBs _⟩
    clear c0 c7 d0 f7 jr jr0 hm hr0 hr1
    rintro w4 ⟨hP4, hb4⟩
    have c0 : w4.cell? ⟨s, 0, none⟩ = some (.pointer (some ⟨o, 0, none⟩)) := hP4.sb.cell 0
    have c7 : w4.cell? ⟨s, 7, none⟩ = some (.int .i64 m) := hP4.sb.cell 7
    have d0 : w4.cell? ⟨o, 0, none⟩ = some (.string t) := hP4.ob.cell 0
    have HG4 := hide (hG.below hb4 hB4)
    have HB4 := hide hb4
    clear hb4
    have hx5 : (t.extract (st.nb + 1) m).size ≤ 140737488351232 := by simp; omega
    go_region_held3 (fun w' => w'.cell? ⟨s, 0, none⟩ = some (.pointer (some ⟨o, 0, none⟩)) ∧ w'.cell? ⟨s, 7, none⟩ = some (.int .i64 m) ∧ w'.cell? ⟨o, 0, none⟩ = some (.string t)) (simp [*])
      (first | (go_at_call 45; refine (pint_any (t.extract (st.nb + 1) m) _ hx5 ((unhide HG4).drew)).mono ?_; rintro x w5 ⟨v5, err5, rfl, hb5, hr5⟩; have hP5 := (hP4.drew).step hb5; have c0' : w5.cell? ⟨s, 0, none⟩ = some (.pointer (some ⟨o, 0, none⟩)) := hP5.sb.cell 0; have c7' : w5.cell? ⟨s, 7, none⟩ = some (.int .i64 m) := hP5.sb.cell 7; have d0' : w5.cell? ⟨o, 0, none⟩ = some (.string t) := hP5.ob.cell 0; have HR5 := hide hr5; clear hr5))
    clear c0 c7 d0
    have hlt4 := hP4.sb.lt
    have hb6 : Below B w w5 := ((unhide HB4).drew).trans (hb5.mono (by simp; omega))
    have hsz5 := hb6.size
    have HB6 := hide hb6
    clear hb6 hb5
    obtain ⟨nl, p5, herr⟩ : ∃ (nl : Bool) (p5 : Value), err5 = if nl then .nilIface else .iface 120 p5 := by
      rcases unhide HR5 with ⟨_, h5⟩ | ⟨_, _, p5, h5⟩ | ⟨p5, h5⟩
      · exact ⟨true, .nilIface, h5⟩
      · exact ⟨false, p5, h5⟩
      · exact ⟨false, p5, h5⟩
    cases nl
    all_goals
      simp only [if_true, if_false, Bool.false_eq_true] at herr
      subst herr
      clear HR5
      go_wp2_with (go_at_call 37; refine (errNew_any _ _).mono ?_; rintro x w6 ⟨⟨q, rfl⟩, hb6⟩)
      go_ret
      exact ⟨⟨102, q, rfl⟩, (unhide HB6).trans (hb6.mono (by omega))⟩
  · have HIN := hide hin
    clear hin
    go_wp2_with (first | (go_at_call 36; refine (index_out _ _ 93 _ hx' (lit1 _) (lit1s _) (unhide HIN)).mono ?_; rintro x w' ⟨rfl, rfl⟩) | (go_at_call 37; refine (errNew_any _ _).mono ?_; rintro x w6 ⟨⟨q, rfl⟩, hb6⟩))
    go_ret
    have hz := (unhide HB3).size
    exact ⟨⟨102, q, rfl⟩, ((below_drewN (unhide HB3) _).setCell hBs _).trans (hb6.mono (by simp [World.setCell]; omega))⟩
end Go.Proofs.YtjbmphfgckhaeaaDoor
