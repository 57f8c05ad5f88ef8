import Derived.Test.YtjbmphfgckhaeaaDoorWc
namespace Go.Proofs.YtjbmphfgckhaeaaDoor
open Go.RowKit

/-- What a call that may only write the parser's blocks leaves. -/
def OkP (s o : Nat) (t : ByteArray) (first : Int) (st : St) (w : World) (B : Nat) (v : Value) (e : Ending) (w' : World) : Prop :=
  e = .returned v ∧ PS w' s o t first st ∧ Below B w w'
def BadP (w : World) (B : Nat) (e : Ending) (w' : World) : Prop := (∃ T p, e = .returned (.iface T p)) ∧ Below B w w'

set_option maxRecDepth 100000 in
set_option maxHeartbeats 800000 in
theorem idx_none (s o : Nat) (t : ByteArray) (first : Int) (st : St) (w : World) (B : Nat) (h : PS w s o t first st) (hn : st.nb ≤ t.size) (hx : t.data.toList[st.nb]? ≠ some 91) :
    Calls Tryd.prog 40 #[.pointer (some ⟨s, 0, none⟩)] w (OkP s o t first st w B .nilIface) := by
  have c0 : w.cell? ⟨s, 0, none⟩ = some (.pointer (some ⟨o, 0, none⟩)) := h.sb.cell 0
  have c7 : w.cell? ⟨s, 7, none⟩ = some (.int .i64 st.nb) := h.sb.cell 7
  have d0 : w.cell? ⟨o, 0, none⟩ = some (.string t) := h.ob.cell 0
  by_cases hlt : st.nb < t.size
  · have hi0 : (0 : Int) ≤ (st.nb : Int) := by omega
    have hi1 : (st.nb : Int) < (t.size : Int) := by omega
    have hd : ((st.nb : Int) == (t.size : Int)) = false := by rw [beq_eq_false_iff_ne]; omega
    rw [get_data t st.nb hlt] at hx
    have hb : t[st.nb] ≠ 91 := fun e => hx (by rw [e])
    clear hx
    go_enter Tryd.func40, Tryd.ntmps40
    go_wp2
    go_quiet (fail)
    generalize t[st.nb] = c at hb ⊢
    have hb2 : ((c.toNat : Int) != 91) = true := by rw [bne_iff_ne]; intro e; exact hb (UInt8.toNat_inj.1 (by simpa using Int.ofNat.inj e))
    clear hb
    go_wp2
    go_ret
    exact ⟨rfl, h.drewN _, below_drewN (Below.refl _ _) _⟩
  · have hd : ((st.nb : Int) == (t.size : Int)) = true := by rw [beq_iff_eq]; omega
    go_enter Tryd.func40, Tryd.ntmps40
    go_wp2
    go_quiet (fail)
    go_wp2
    go_ret
    exact ⟨rfl, h.drewN _, below_drewN (Below.refl _ _) _⟩

set_option maxRecDepth 100000 in
set_option maxHeartbeats 1600000 in
theorem idx_ok (s o : Nat) (t : ByteArray) (first : Int) (st : St) (w : World) (B : Nat) (V : Int) (a e : Nat) (h : PS w s o t first st) (hBs : B ≤ s) (hB4 : 4 ≤ B) (hG : G w) (hs : t.size ≤ 140737488351232) (hf0 : 0 ≤ first) (hf1 : first ≤ 1000000000)
    (hb : t.data.toList[st.nb]? = some 91) (ha : st.nb + 1 = a) (he : rE isD t.data.toList a = e) (hae : a < e) (hc : t.data.toList[e]? = some 93) (hV : (dv (seg t.data.toList a e) : Int) = V) (hV1 : 1 ≤ V) (hV2 : V ≤ 2147483647) :
    Calls Tryd.prog 40 #[.pointer (some ⟨s, 0, none⟩)] w (OkP s o t first { st with ix := V, ip := st.nb, nb := e + 1, an := V + (first - 1), hi := true, pd := true } w B .nilIface) := by
  have c0 : w.cell? ⟨s, 0, none⟩ = some (.pointer (some ⟨o, 0, none⟩)) := h.sb.cell 0
  have c7 : w.cell? ⟨s, 7, none⟩ = some (.int .i64 st.nb) := h.sb.cell 7
  have d0 : w.cell? ⟨o, 0, none⟩ = some (.string t) := h.ob.cell 0
  have f7 := h.sb.frozen 7
  obtain ⟨hlt, hb1⟩ := List.getElem?_eq_some_iff.1 hb
  obtain ⟨hle, hc1⟩ := List.getElem?_eq_some_iff.1 hc
  have hsz := size_data t
  have hlt' : st.nb < t.size := by omega
  have hle' : e < t.size := by omega
  have hb2 : t[st.nb] = 91 := Option.some.inj ((get_data t st.nb hlt').symm.trans hb)
  have hc2 : t[e] = 93 := Option.some.inj ((get_data t e hle').symm.trans hc)
  have HY : Hid (hasNum t.data.toList a = true) := by
    show hasNum _ _ = true
    unfold hasNum
    rw [he]
    simp only [decide_eq_true_eq]
    omega
  have HN : Hid ((numM t.data.toList a : Int) = V) := by
    show ((numM t.data.toList a : Nat) : Int) = V
    unfold numM
    rw [he, Nat.min_eq_left (by unfold mx32; omega)]
    exact hV
  have HF : Hid (dv (seg t.data.toList a e) ≤ mx32) := by
    show dv (seg t.data.toList a e) ≤ mx32
    unfold mx32
    omega
  have HA := hide ha
  have HE := hide he
  have HB := hide hb2
  have HC := hide hc2
  have ha1 : st.nb + 1 ≤ a := by omega
  have ha2 : a ≤ st.nb + 1 := by omega
  clear hb hb1 hb2 hc hc1 hc2 ha he hV hsz hlt hle
  have hi0 : (0 : Int) ≤ (st.nb : Int) := by omega
  have hi1 : (st.nb : Int) < (t.size : Int) := by omega
  have hd : ((st.nb : Int) == (t.size : Int)) = false := by rw [beq_eq_false_iff_ne]; omega
  go_enter Tryd.func40, Tryd.ntmps40
  go_wp2
  go_quiet (fail)
  rw [unhide HB]
  have hP1 : ∀ n, PS ((w.drewN n).setCell ⟨s, 7, none⟩ (.int .i64 ((st.nb : Int) + 1))) s o t first { st with nb := a } := fun n => (h.drewN n).setNb _ a (by omega)
  have hb1 : ∀ n, Below B w ((w.drewN n).setCell ⟨s, 7, none⟩ (.int .i64 ((st.nb : Int) + 1))) := fun n => (below_drewN (Below.refl _ _) n).setCell hBs _
  have HP1 := hide hP1
  have HB1 := hide hb1
  clear hP1 hb1
  go_wp2_with (go_at_call 44; refine (scan_yes s o t first _ _ B V e (unhide HP1 _) hBs hB4 (hG.below (unhide HB1 _) hB4) hs (by show a ≤ t.size; omega) (unhide HY) (unhide HN) (unhide HE)).mono ?_; rintro x w2 ⟨rfl, hP2, hb2⟩; have c72 : w2.cell? ⟨s, 7, none⟩ = some (.int .i64 e) := hP2.sb.cell 7; have f42 := hP2.sb.frozen 4; have f52 := hP2.sb.frozen 5; have c42 : w2.cell? ⟨s, 4, none⟩ = some (.int .i64 st.ix) := hP2.sb.cell 4; have c52 : w2.cell? ⟨s, 5, none⟩ = some (.int .i64 st.ip) := hP2.sb.cell 5)
  have hB2 := (unhide HB1 _).trans hb2
  refine wgen (fun w3 => PS w3 s o t first { st with nb := e, ix := V, ip := st.nb } ∧ Below B w w3) ?_ ?_
  · exact ⟨(hP2.setIx V V rfl).setIp _ (st.nb : Int) rfl, (hB2.setCell hBs _).setCell hBs _⟩
  clear c0 c7 d0 f7 c72 f42 f52 c42 c52 hP2 hb2 hB2
  rintro w3 ⟨hP3, hb3⟩
  have c0 : w3.cell? ⟨s, 0, none⟩ = some (.pointer (some ⟨o, 0, none⟩)) := hP3.sb.cell 0
  have c1 : w3.cell? ⟨s, 1, none⟩ = some (.int .i64 first) := hP3.sb.cell 1
  have c2 : w3.cell? ⟨s, 2, none⟩ = some (.int .i64 st.an) := hP3.sb.cell 2
  have c3 : w3.cell? ⟨s, 3, none⟩ = some (.bool st.hi) := hP3.sb.cell 3
  have c6 : w3.cell? ⟨s, 6, none⟩ = some (.bool st.pd) := hP3.sb.cell 6
  have c7 : w3.cell? ⟨s, 7, none⟩ = some (.int .i64 e) := hP3.sb.cell 7
  have d0 : w3.cell? ⟨o, 0, none⟩ = some (.string t) := hP3.ob.cell 0
  have j0 : (0 : Int) ≤ (e : Int) := by omega
  have j1 : (e : Int) < (t.size : Int) := by omega
  have j2 : ((e : Int) == (t.size : Int)) = false := by rw [beq_eq_false_iff_ne]; omega
  have j3 : ((e : Int) == (st.nb : Int) + 1) = false := by rw [beq_eq_false_iff_ne]; omega
  go_quiet (fail)
  rw [unhide HC]
  have j4 : (st.nb : Int) + 1 ≤ (e : Int) := by omega
  go_wp2
  have hG3 := hG.below hb3 hB4
  have j5 : (e : Int) ≤ (t.size : Int) := by omega
  have j6 : (0 : Int) ≤ (st.nb : Int) + 1 := by omega
  have HG3 := hide hG3
  have HB3 := hide hb3
  clear hG3 hb3
  go_region_held3 (fun w' => w'.cell? ⟨s, 0, none⟩ = some (.pointer (some ⟨o, 0, none⟩)) ∧ w'.cell? ⟨s, 7, none⟩ = some (.int .i64 e) ∧ w'.cell? ⟨o, 0, none⟩ = some (.string t)) (simp [*])
    (first | (go_at_call 45; refine (pint_fit t (st.nb + 1) e V _ hs ((unhide HG3).drewN _) (by omega) (by rw [unhide HA]; exact unhide HE) (by rw [unhide HA]; exact unhide HN) (by rw [unhide HA]; exact unhide HF)).mono ?_; rintro x w4 ⟨rfl, hb4⟩; have hP4 := (hP3.drewN _).step hb4; have c0' : w4.cell? ⟨s, 0, none⟩ = some (.pointer (some ⟨o, 0, none⟩)) := hP4.sb.cell 0; have c7' : w4.cell? ⟨s, 7, none⟩ = some (.int .i64 e) := hP4.sb.cell 7; have d0' : w4.cell? ⟨o, 0, none⟩ = some (.string t) := hP4.ob.cell 0))
  clear c0 c1 c2 c3 c6 c7 d0
  have k1 : w4.cell? ⟨s, 1, none⟩ = some (.int .i64 first) := hP4.sb.cell 1
  have k2 : w4.cell? ⟨s, 2, none⟩ = some (.int .i64 st.an) := hP4.sb.cell 2
  have k3 : w4.cell? ⟨s, 3, none⟩ = some (.bool st.hi) := hP4.sb.cell 3
  have k6 : w4.cell? ⟨s, 6, none⟩ = some (.bool st.pd) := hP4.sb.cell 6
  have g2 := hP4.sb.frozen 2
  have g3 := hP4.sb.frozen 3
  have g6 := hP4.sb.frozen 6
  have g7 := hP4.sb.frozen 7
  go_wp2
  go_ret
  have hlt := hP3.sb.lt
  have hb5 : Below B w w4 := (below_drewN (unhide HB3) _).trans (hb4.mono (by simp; omega))
  exact ⟨rfl, (((hP4.setNb ((e : Int) + 1) (e + 1) (by omega)).setAn (V + (first - 1)) _ rfl).setHi true).setPd true, (((hb5.setCell hBs _).setCell hBs _).setCell hBs _).setCell hBs _⟩
end Go.Proofs.YtjbmphfgckhaeaaDoor
