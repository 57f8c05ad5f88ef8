import Derived.Test.YtjbmphfgckhaeaaDoorWb
namespace Go.Proofs.YtjbmphfgckhaeaaDoor
open Go.RowKit

def ScanP (s o : Nat) (t : ByteArray) (first : Int) (st : St) (w : World) (B : Nat) (e : Ending) (w' : World) : Prop :=
  e = .returned (.tuple #[.int .i64 (if hasNum t.data.toList st.nb then (numM t.data.toList st.nb : Int) else 0), .bool (hasNum t.data.toList st.nb)]) ∧
    PS w' s o t first { st with nb := rE isD t.data.toList st.nb } ∧ Below B w w'

def ScanR (s o : Nat) (t : ByteArray) (first : Int) (st : St) (w : World) (B : Nat) (g : Nat) (k : Nat) (wr : World) : Prop :=
  k + g = t.size + 1 ∧ st.nb ≤ k ∧ k ≤ t.size ∧ rE isD t.data.toList k = rE isD t.data.toList st.nb ∧ PS wr s o t first { st with nb := k } ∧ Below B w wr ∧ G wr

theorem pint_seg (t : ByteArray) (n e : Nat) (w : World) (hs : t.size ≤ 140737488351232) (hG : G w) (hlt : n < e) (he : rE isD t.data.toList n = e) :
    Calls Tryd.prog 45 #[.string (t.extract n e), .int .i64 10, .int .i64 32] w fun e w' => ∃ err, e = .returned (.tuple #[.int .i64 (numM t.data.toList n : Nat), err]) ∧ Below w.heap.size w w' := by
  have hx : (t.extract n e).data.toList = seg t.data.toList n (rE isD t.data.toList n) := by rw [Lib.extract_data, he]; rfl
  have hd := seg_run_all isD t.data.toList n
  have hne := seg_run_ne isD t.data.toList n (by omega)
  rw [← hx] at hd hne
  refine (pint_digits _ w (by simp; omega) hG hne hd).mono fun e w' ⟨err, h1, h2, _⟩ => ⟨err, ?_, h2⟩
  rw [h1, hx]
  rfl
theorem get_data (t : ByteArray) (k : Nat) (h : k < t.size) : (t.data.toList)[k]? = some t[k] := by
  have : k < t.data.toList.length := by simpa using h
  rw [List.getElem?_eq_getElem this]
  rfl
theorem rE_at_step {p : UInt8 → Bool} {l : L} {k : Nat} {c : UInt8} (h : l[k]? = some c) (hp : p c = true) : rE p l (k + 1) = rE p l k := by
  obtain ⟨h1, rfl⟩ := List.getElem?_eq_some_iff.1 h
  exact rE_step p l k h1 hp
theorem rE_at_stop {p : UInt8 → Bool} {l : L} {k : Nat} {c : UInt8} (h : l[k]? = some c) (hp : p c = false) : rE p l k = k := by
  obtain ⟨h1, rfl⟩ := List.getElem?_eq_some_iff.1 h
  exact rE_stop p l k h1 hp
theorem scan_short {l : L} {n : Nat} (h : rE isD l n = n) : hasNum l n = false := by
  unfold hasNum
  rw [h]
  simp
theorem scan_end {t : ByteArray} {n : Nat} (h : rE isD t.data.toList n = t.size) : hasNum t.data.toList n = false := by
  have := size_data t
  unfold hasNum
  rw [h, this]
  simp

set_option maxRecDepth 100000 in
set_option maxHeartbeats 800000 in
theorem scan_any (s o : Nat) (t : ByteArray) (first : Int) (st : St) (w : World) (B : Nat) (h : PS w s o t first st) (hBs : B ≤ s) (hB4 : 4 ≤ B) (hG : G w) (hs : t.size ≤ 140737488351232) (hn : st.nb ≤ t.size) :
    Calls Tryd.prog 44 #[.pointer (some ⟨s, 0, none⟩)] w (ScanP s o t first st w B) := by
  have hne := h.ne
  have hne' := h.ne.symm
  have c7 : w.cell? ⟨s, 7, none⟩ = some (.int .i64 st.nb) := h.sb.cell 7
  go_enter Tryd.func44, Tryd.ntmps44
  go_wp2
  go_loopg [] (t.size + 1 - st.nb) (fun g wr => ∃ k : Nat, Hid (ScanR s o t first st w B g k wr))
  case atStart => exact ⟨st.nb, by omega, Nat.le_refl _, hn, rfl, h, Below.refl _ _, hG⟩
  case round =>
    obtain ⟨k, hR⟩ := hrel
    obtain ⟨hg, hnk, hk, hr, hP, hb, hGr⟩ := unhide hR
    have HR := hide hr
    have HG := hide hg
    clear hr c7 hg
    have c0 : wr.cell? ⟨s, 0, none⟩ = some (.pointer (some ⟨o, 0, none⟩)) := hP.sb.cell 0
    have c7 : wr.cell? ⟨s, 7, none⟩ = some (.int .i64 k) := hP.sb.cell 7
    have d0 : wr.cell? ⟨o, 0, none⟩ = some (.string t) := hP.ob.cell 0
    have f7 := hP.sb.frozen 7
    by_cases hlt : k < t.size
    · have hd : decide ((k : Int) < (t.size : Int)) = true := decide_eq_true (by omega)
      have hi0 : (0 : Int) ≤ (k : Int) := by omega
      have hi1 : (k : Int) < (t.size : Int) := by omega
      go_wp2
      go_quiet (fail)
      go_wp2
      go_quiet (fail)
      generalize hc : t[k] = c
      have HC := hide hc
      clear hc
      have hb0 : (c.toNat : Int) < 256 := by have := c.toNat_lt; omega
      have hck : (t.data.toList)[k]? = some c := by rw [← unhide HC]; exact get_data t k hlt
      have HK := hide hck
      clear hck
      cases hdg : isD c with
      | true =>
        have hd2 : 48 ≤ (c.toNat : Int) ∧ (c.toNat : Int) ≤ 57 := by
          simp only [isD, Bool.and_eq_true, decide_eq_true_eq] at hdg; omega
        obtain ⟨hd3, hd4⟩ := hd2
        have HD := hide hdg
        clear hdg
        go_wp2
        go_roundg (gk - 1)
        case measure => have := unhide HG; omega
        case rel =>
          refine ⟨k + 1, ?_⟩
          have hg := unhide HG
          show ScanR s o t first st w B (gk - 1) (k + 1) _
          refine ⟨by omega, by omega, by omega, (rE_at_step (unhide HK) (unhide HD)).trans (unhide HR), ?_, ?_, ?_⟩
          · exact (hP.drewN _).setNb ((k : Int) + 1) (k + 1) (by omega)
          · exact (below_drewN hb _).setCell hBs _
          · exact hGr.below ((below_drewN (Below.refl B wr) _).setCell hBs _) hB4
      | false =>
        have hd2 : (c.toNat : Int) < 48 ∨ 57 < (c.toNat : Int) ∧ ¬ (c.toNat : Int) < 48 := by
          simp only [isD, Bool.and_eq_false_iff, decide_eq_false_iff_not] at hdg; omega
        have HD := hide hdg
        have HE := hide (rE_at_stop (unhide HK) hdg)
        have HEE := hide ((unhide HR).symm.trans (unhide HE))
        clear hdg
        by_cases hnk' : st.nb < k
        · have hi2 : (0 : Int) ≤ (st.nb : Int) := by omega
          have hi3 : (st.nb : Int) ≤ (k : Int) := by omega
          have hi4 : (k : Int) ≤ (t.size : Int) := by omega
          rcases hd2 with hd3 | ⟨hd3, hd4⟩
          all_goals
            go_wp2
            go_region_held3 (fun w' => w'.cell? ⟨s, 0, none⟩ = some (.pointer (some ⟨o, 0, none⟩)) ∧ w'.cell? ⟨s, 7, none⟩ = some (.int .i64 k) ∧ w'.cell? ⟨o, 0, none⟩ = some (.string t)) (simp [*]) (first | (go_at_call 45; refine (pint_seg t st.nb k _ hs (hGr.drewN _) hnk' (unhide HEE)).mono ?_; rintro e w' ⟨err, rfl, hb'⟩; have hP' := (hP.drewN _).step hb'; have c0' : w'.cell? ⟨s, 0, none⟩ = some (.pointer (some ⟨o, 0, none⟩)) := hP'.sb.cell 0; have c7' : w'.cell? ⟨s, 7, none⟩ = some (.int .i64 k) := hP'.sb.cell 7; have d0' : w'.cell? ⟨o, 0, none⟩ = some (.string t) := hP'.ob.cell 0))
            go_wp2
            go_ret2
            have hE : hasNum t.data.toList st.nb = true := by
              have := size_data t
              unfold hasNum
              rw [unhide HEE]
              simp only [decide_eq_true_eq]
              omega
            have hlt2 := hP.sb.lt
            rw [ScanP, hE, unhide HEE]
            exact ⟨rfl, hP', (below_drewN hb _).trans (hb'.mono (by simp; omega))⟩
        · obtain rfl : st.nb = k := by omega
          rcases hd2 with hd3 | ⟨hd3, hd4⟩
          all_goals
            go_wp2
            go_ret2
            have hE := scan_short (unhide HE)
            rw [ScanP, hE, unhide HE]
            exact ⟨rfl, hP.drewN _, below_drewN hb _⟩
    · have hd : decide ((k : Int) < (t.size : Int)) = false := decide_eq_false (by omega)
      go_wp2
      go_quiet (fail)
      go_wp2
      go_ret2
      obtain rfl : k = t.size := by omega
      have he : rE isD t.data.toList st.nb = t.size := by
        rw [← unhide HR, rE_end]
        have := size_data t
        omega
      have hE := scan_end he
      rw [ScanP, hE, he]
      exact ⟨rfl, hP.drewN _, below_drewN hb _⟩
theorem scan_yes (s o : Nat) (t : ByteArray) (first : Int) (st : St) (w : World) (B : Nat) (V : Int) (e : Nat) (h : PS w s o t first st) (hBs : B ≤ s) (hB4 : 4 ≤ B) (hG : G w) (hs : t.size ≤ 140737488351232) (hn : st.nb ≤ t.size)
    (hy : hasNum t.data.toList st.nb = true) (hV : (numM t.data.toList st.nb : Int) = V) (he : rE isD t.data.toList st.nb = e) :
    Calls Tryd.prog 44 #[.pointer (some ⟨s, 0, none⟩)] w fun x w' => x = .returned (.tuple #[.int .i64 V, .bool true]) ∧ PS w' s o t first { st with nb := e } ∧ Below B w w' :=
  (scan_any s o t first st w B h hBs hB4 hG hs hn).mono fun x w' hh => by
    rw [ScanP, hy, he] at hh
    subst hV
    exact hh
theorem scan_no (s o : Nat) (t : ByteArray) (first : Int) (st : St) (w : World) (B : Nat) (e : Nat) (h : PS w s o t first st) (hBs : B ≤ s) (hB4 : 4 ≤ B) (hG : G w) (hs : t.size ≤ 140737488351232) (hn : st.nb ≤ t.size)
    (hy : hasNum t.data.toList st.nb = false) (he : rE isD t.data.toList st.nb = e) :
    Calls Tryd.prog 44 #[.pointer (some ⟨s, 0, none⟩)] w fun x w' => x = .returned (.tuple #[.int .i64 0, .bool false]) ∧ PS w' s o t first { st with nb := e } ∧ Below B w w' :=
  (scan_any s o t first st w B h hBs hB4 hG hs hn).mono fun x w' hh => by
    rw [ScanP, hy, he] at hh
    exact hh
/-- ParseInt of the run of digits from n to e that fits. -/
theorem pint_fit (t : ByteArray) (n e : Nat) (V : Int) (w : World) (hs : t.size ≤ 140737488351232) (hG : G w) (hlt : n < e) (he : rE isD t.data.toList n = e) (hV : (numM t.data.toList n : Int) = V)
    (hf : dv (seg t.data.toList n e) ≤ mx32) :
    Calls Tryd.prog 45 #[.string (t.extract n e), .int .i64 10, .int .i64 32] w fun x w' => x = .returned (.tuple #[.int .i64 V, .nilIface]) ∧ Below w.heap.size w w' := by
  have hx : (t.extract n e).data.toList = seg t.data.toList n (rE isD t.data.toList n) := by rw [Lib.extract_data, he]; rfl
  have hd := seg_run_all isD t.data.toList n
  have hne := seg_run_ne isD t.data.toList n (by omega)
  rw [← hx] at hd hne
  refine (pint_digits _ w (by simp; omega) hG hne hd).mono fun x w' ⟨err, h1, h2, h3⟩ => ?_
  rw [hx, he] at h1 h3
  rcases h3 with ⟨_, rfl⟩ | ⟨h4, _⟩
  · subst hV
    refine ⟨?_, h2⟩
    rw [h1]
    unfold numM
    rw [he]
  · omega
/-- ParseInt of the run of digits from n to e that does not fit. -/
theorem pint_over (t : ByteArray) (n e : Nat) (w : World) (hs : t.size ≤ 140737488351232) (hG : G w) (hlt : n < e) (he : rE isD t.data.toList n = e) (hf : mx32 < dv (seg t.data.toList n e)) :
    Calls Tryd.prog 45 #[.string (t.extract n e), .int .i64 10, .int .i64 32] w fun x w' => ∃ (v : Int) (p : Value), x = .returned (.tuple #[.int .i64 v, .iface 120 p]) ∧ Below w.heap.size w w' := by
  have hx : (t.extract n e).data.toList = seg t.data.toList n (rE isD t.data.toList n) := by rw [Lib.extract_data, he]; rfl
  have hd := seg_run_all isD t.data.toList n
  have hne := seg_run_ne isD t.data.toList n (by omega)
  rw [← hx] at hd hne
  refine (pint_digits _ w (by simp; omega) hG hne hd).mono fun x w' ⟨err, h1, h2, h3⟩ => ?_
  rw [hx, he] at h1 h3
  rcases h3 with ⟨h4, _⟩ | ⟨_, q, rfl⟩
  · omega
  · exact ⟨_, q, h1, h2⟩
end Go.Proofs.YtjbmphfgckhaeaaDoor
