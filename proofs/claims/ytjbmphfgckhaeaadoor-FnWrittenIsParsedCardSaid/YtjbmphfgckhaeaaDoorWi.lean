/-
  parsePrecision as the function pPrec. Conditions: the parser's blocks, places within the text, numbers far from int's ends.
-/
import Derived.Test.YtjbmphfgckhaeaaDoorWh
namespace Go.Proofs.YtjbmphfgckhaeaaDoor
open Go.RowKit

set_option maxRecDepth 100000 in
set_option maxHeartbeats 1600000 in
theorem prec_none (s o : Nat) (t : ByteArray) (first : Int) (st : St) (w : World) (B : Nat) (h : PS w s o t first st) (hb : t.data.toList[st.nb]? ≠ some 46) :
    Calls Tryd.prog 42 #[.pointer (some ⟨s, 0, none⟩)] w (OkP s o t first st w B .nilIface) := by
  have c0 : w.cell? ⟨s, 0, none⟩ = some (.pointer (some ⟨o, 0, none⟩)) := h.sb.cell 0
  have c7 : w.cell? ⟨s, 7, none⟩ = some (.int .i64 st.nb) := h.sb.cell 7
  have d0 : w.cell? ⟨o, 0, none⟩ = some (.string t) := h.ob.cell 0
  by_cases hlt : st.nb < t.size
  · have hi0 : (0 : Int) ≤ (st.nb : Int) := by omega
    have hi1 : (st.nb : Int) < (t.size : Int) := by omega
    have hd : decide ((st.nb : Int) < (t.size : Int)) = true := decide_eq_true (by omega)
    rw [get_data t st.nb hlt] at hb
    have hb3 : t[st.nb] ≠ 46 := fun e => hb (by rw [e])
    have HB := hide hb3
    clear hb hb3
    go_enter Tryd.func42, Tryd.ntmps42
    go_wp2
    go_quiet (fail)
    generalize hcc : t[st.nb] = c
    have hb9 : ((c.toNat : Int) == 46) = false := by rw [beq_eq_false_iff_ne]; intro e5; exact (unhide HB) (hcc.trans (UInt8.toNat_inj.1 (by simpa using Int.ofNat.inj e5)))
    clear hcc
    go_wp2
    go_ret
    exact ⟨rfl, h.drewN _, below_drewN (Below.refl _ _) _⟩
  · have hd : decide (st.nb < t.size) = false := decide_eq_false hlt
    clear hlt hb
    go_enter Tryd.func42, Tryd.ntmps42
    go_wp2
    go_quiet (fail)
    go_wp2
    go_ret
    exact ⟨rfl, h.drewN _, below_drewN (Below.refl _ _) _⟩

set_option maxRecDepth 100000 in
set_option maxHeartbeats 1600000 in
theorem prec_dot (s o : Nat) (t : ByteArray) (first : Int) (st st2 : St) (w : World) (B : Nat) (h : PS w s o t first st) (hBs : B ≤ s) (hBo : B ≤ o) (hB4 : 4 ≤ B) (hG : G w) (hs : t.size ≤ 140737488351232) (hf0 : 0 ≤ first) (hf1 : first ≤ 1000000000)
    (hok : OkSt t.data.toList 900000000000000000 st) (hb : t.data.toList[st.nb]? = some 46) (he : pIdx t.data.toList first { st with nb := st.nb + 1 } = some st2) :
    Calls Tryd.prog 42 #[.pointer (some ⟨s, 0, none⟩)] w (OkP s o t first (szM 1 t.data.toList st2) w B .nilIface) := by
  have c0 : w.cell? ⟨s, 0, none⟩ = some (.pointer (some ⟨o, 0, none⟩)) := h.sb.cell 0
  have c7 : w.cell? ⟨s, 7, none⟩ = some (.int .i64 st.nb) := h.sb.cell 7
  have d0 : w.cell? ⟨o, 0, none⟩ = some (.string t) := h.ob.cell 0
  have f7 := h.sb.frozen 7
  have hlt := (List.getElem?_eq_some_iff.1 hb).1
  have hsz := size_data t
  have hlt' : st.nb < t.size := by omega
  have hb2 : t[st.nb] = 46 := Option.some.inj ((get_data t st.nb hlt').symm.trans hb)
  have HB := hide hb2
  have hok2 : OkSt t.data.toList 900000000000000000 { st with nb := st.nb + 1 } := ⟨by show st.nb + 1 ≤ _; omega, hok.a0, hok.a1, hok.p0, hok.p1⟩
  have HO2 := hide (hok2.idx (by omega) hf0 hf1 he)
  have HE := hide he
  clear hb hb2 hlt hsz he hok2
  have hi0 : (0 : Int) ≤ (st.nb : Int) := by omega
  have hi1 : (st.nb : Int) < (t.size : Int) := by omega
  have hd : decide ((st.nb : Int) < (t.size : Int)) = true := decide_eq_true (by omega)
  go_enter Tryd.func42, Tryd.ntmps42
  go_wp2
  go_quiet (fail)
  rw [unhide HB]
  have HP1 : Hid (∀ n, PS ((w.drewN n).setCell ⟨s, 7, none⟩ (.int .i64 ((st.nb : Int) + 1))) s o t first { st with nb := st.nb + 1 }) := fun n => (h.drewN n).setNb _ _ (by omega)
  have HB1 : Hid (∀ n, Below B w ((w.drewN n).setCell ⟨s, 7, none⟩ (.int .i64 ((st.nb : Int) + 1)))) := fun n => (below_drewN (Below.refl _ _) n).setCell hBs _
  go_wp2_with (first | (go_at_call 40; refine (idx_some (unhide HP1 _) hBs hB4 (hG.below (unhide HB1 _) hB4) hs (Int.le_trans (by decide) hf0) hf1 (by show st.nb + 1 ≤ t.size; omega) (unhide HE)).mono ?_; rintro x w2 ⟨rfl, hP2, hb2⟩) | (go_at_call 41; refine (sz1 hP2 hBs hBo hB4 ((hG.below (unhide HB1 _) hB4).below hb2 hB4) hs (unhide HO2)).mono ?_; rintro x w3 ⟨rfl, hP3, hb3⟩))
  go_ret
  exact ⟨rfl, hP3, ((unhide HB1 _).trans hb2).trans hb3⟩

set_option maxRecDepth 100000 in
set_option maxHeartbeats 1600000 in
theorem prec_bad (s o : Nat) (t : ByteArray) (first : Int) (st : St) (w : World) (B : Nat) (h : PS w s o t first st) (hBs : B ≤ s) (hB4 : 4 ≤ B) (hG : G w) (hs : t.size ≤ 140737488351232)
    (hb : t.data.toList[st.nb]? = some 46) (he : pIdx t.data.toList first { st with nb := st.nb + 1 } = none) :
    Calls Tryd.prog 42 #[.pointer (some ⟨s, 0, none⟩)] w (BadP w B) := by
  have c0 : w.cell? ⟨s, 0, none⟩ = some (.pointer (some ⟨o, 0, none⟩)) := h.sb.cell 0
  have c7 : w.cell? ⟨s, 7, none⟩ = some (.int .i64 st.nb) := h.sb.cell 7
  have d0 : w.cell? ⟨o, 0, none⟩ = some (.string t) := h.ob.cell 0
  have f7 := h.sb.frozen 7
  have hlt := (List.getElem?_eq_some_iff.1 hb).1
  have hsz := size_data t
  have hlt' : st.nb < t.size := by omega
  have hb2 : t[st.nb] = 46 := Option.some.inj ((get_data t st.nb hlt').symm.trans hb)
  have HB := hide hb2
  have HE := hide he
  clear hb hb2 hlt hsz he
  have hi0 : (0 : Int) ≤ (st.nb : Int) := by omega
  have hi1 : (st.nb : Int) < (t.size : Int) := by omega
  have hd : decide ((st.nb : Int) < (t.size : Int)) = true := decide_eq_true (by omega)
  go_enter Tryd.func42, Tryd.ntmps42
  go_wp2
  go_quiet (fail)
  rw [unhide HB]
  have HP1 : Hid (∀ n, PS ((w.drewN n).setCell ⟨s, 7, none⟩ (.int .i64 ((st.nb : Int) + 1))) s o t first { st with nb := st.nb + 1 }) := fun n => (h.drewN n).setNb _ _ (by omega)
  have HB1 : Hid (∀ n, Below B w ((w.drewN n).setCell ⟨s, 7, none⟩ (.int .i64 ((st.nb : Int) + 1)))) := fun n => (below_drewN (Below.refl _ _) n).setCell hBs _
  go_wp2_with (go_at_call 40; refine (idx_fail (unhide HP1 _) hBs hB4 (hG.below (unhide HB1 _) hB4) hs (unhide HE)).mono ?_; rintro x w2 ⟨⟨T, q, rfl⟩, hb2⟩)
  go_ret
  exact ⟨⟨T, q, rfl⟩, (unhide HB1 _).trans hb2⟩

section
variable {s o : Nat} {t : ByteArray} {first : Int} {st : St} {w : World} {B : Nat}
theorem prec_some {st' : St} (h : PS w s o t first st) (hBs : B ≤ s) (hBo : B ≤ o) (hB4 : 4 ≤ B) (hG : G w) (hs : t.size ≤ 140737488351232) (hf0 : 0 ≤ first) (hf1 : first ≤ 1000000000) (hok : OkSt t.data.toList 900000000000000000 st)
    (he : pPrec t.data.toList first st = some st') : Calls Tryd.prog 42 #[.pointer (some ⟨s, 0, none⟩)] w (OkP s o t first st' w B .nilIface) := by
  unfold pPrec at he
  by_cases hb : t.data.toList[st.nb]? = some 46
  · rw [if_pos hb] at he
    obtain ⟨st2, h2, rfl⟩ := Option.map_eq_some_iff.1 he
    exact prec_dot s o t first st st2 w B h hBs hBo hB4 hG hs hf0 hf1 hok hb h2
  · rw [if_neg hb] at he
    injection he with he
    subst he
    exact prec_none s o t first st w B h hb
theorem prec_fail (h : PS w s o t first st) (hBs : B ≤ s) (hB4 : 4 ≤ B) (hG : G w) (hs : t.size ≤ 140737488351232)
    (he : pPrec t.data.toList first st = none) : Calls Tryd.prog 42 #[.pointer (some ⟨s, 0, none⟩)] w (BadP w B) := by
  unfold pPrec at he
  by_cases hb : t.data.toList[st.nb]? = some 46
  · rw [if_pos hb] at he
    exact prec_bad s o t first st w B h hBs hB4 hG hs hb (Option.map_eq_none_iff.1 he)
  · rw [if_neg hb] at he
    cases he
end
theorem OkSt.prec {l : L} {A first : Int} {st st' : St} (h : OkSt l A st) (hA : 3147483647 ≤ A) (hf0 : 0 ≤ first) (hf1 : first ≤ 1000000000) (he : pPrec l first st = some st') : OkSt l (A + 1) st' := by
  unfold pPrec at he
  by_cases hb : l[st.nb]? = some 46
  · rw [if_pos hb] at he
    obtain ⟨st2, h2, rfl⟩ := Option.map_eq_some_iff.1 he
    have hlt := (List.getElem?_eq_some_iff.1 hb).1
    have hok2 : OkSt l A { st with nb := st.nb + 1 } := ⟨by show st.nb + 1 ≤ _; omega, h.a0, h.a1, h.p0, h.p1⟩
    exact (hok2.idx hA hf0 hf1 h2).sz 1
  · rw [if_neg hb] at he
    injection he with he
    subst he
    exact h.mono (by omega)
end Go.Proofs.YtjbmphfgckhaeaaDoor
