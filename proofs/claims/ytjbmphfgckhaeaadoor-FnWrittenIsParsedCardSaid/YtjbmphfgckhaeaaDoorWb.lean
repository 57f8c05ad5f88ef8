import Derived.Test.YtjbmphfgckhaeaaDoorWa
namespace Go.Proofs.YtjbmphfgckhaeaaDoor
open Go.RowKit

set_option maxHeartbeats 400000 in
theorem errNew_any (s : ByteArray) (w : World) : Calls Tryd.prog 37 #[.string s] w fun e w' => (∃ p, e = .returned (.iface 102 p)) ∧ Below w.heap.size w w' := by
  go_enter Tryd.func37, Tryd.ntmps37
  go_wp2
  go_ret
  exact ⟨⟨_, rfl⟩, (Below.refl _ _).alloc (Nat.le_refl _) _⟩

set_option maxHeartbeats 400000 in
theorem flags_any (s o : Nat) (t : ByteArray) (first : Int) (st : St) (w : World) (B : Nat) (h : PS w s o t first st) (hBs : B ≤ s) (hBo : B ≤ o) (hs : t.size ≤ 140737488351232) (hn : st.nb = 1) (h1 : 1 ≤ t.size) :
    Calls Tryd.prog 39 #[.pointer (some ⟨s, 0, none⟩)] w fun e w' => e = .returned (.tuple #[]) ∧
      PS w' s o t first { st with nb := rE isF t.data.toList 1, fl := mk ((t.data.toList.drop 1).takeWhile isF) } ∧ Below B w w' := by
  have hne := h.ne
  have hne' := h.ne.symm
  obtain ⟨an, hi, ix, ip, pd, nb, fl, wd, pr⟩ := st
  obtain rfl : nb = 1 := hn
  have c0 : w.cell? ⟨s, 0, none⟩ = some (.pointer (some ⟨o, 0, none⟩)) := h.sb.cell 0
  have c7 : w.cell? ⟨s, 7, none⟩ = some (.int .i64 1) := h.sb.cell 7
  have d0 : w.cell? ⟨o, 0, none⟩ = some (.string t) := h.ob.cell 0
  have d8 : w.cell? ⟨o, 8, none⟩ = some (.string fl) := h.ob.cell 8
  have f8 := h.ob.frozen 8
  have hx : (t.extract 1 t.size).size ≤ 140737488351232 := by simp; omega
  have hi1 : (1 : Int) ≤ (t.size : Int) := by omega
  obtain ⟨F, hF⟩ : ∃ F, mk ((t.extract 1 t.size).data.toList.takeWhile isF) = F := ⟨_, rfl⟩
  have hF0 : F = mk ((t.data.toList.drop 1).takeWhile isF) := by rw [← hF, Lib.extract_to_end]
  have hF1 : (F.size : Int) ≤ 140737488351232 := by
    rw [hF0, mk_size]
    have := takeWhile_le isF (t.data.toList.drop 1)
    have h2 := size_data t
    simp at this ⊢
    omega
  have HF := hide hF
  have HF0 := hide hF0
  have HS : Hid ((1 : Int) + F.size = (rE isF t.data.toList 1 : Nat)) := by
    rw [hF0, mk_size]
    unfold rE
    show _ = _
    omega
  clear hF0
  clear hF
  go_enter Tryd.func39, Tryd.ntmps39
  go_wp2
  go_region_held3 (fun w' => w'.cell? ⟨s, 0, none⟩ = some (.pointer (some ⟨o, 0, none⟩)) ∧ w'.cell? ⟨s, 7, none⟩ = some (.int .i64 1) ∧ w'.cell? ⟨o, 0, none⟩ = some (.string t)) (simp [*, World.cell?_setCell_far, World.cell?_setCell_other])
    (first | (go_at_call 43; refine (prefix_to _ F _ hx (unhide HF)).mono ?_; rintro e w' ⟨rfl, rfl⟩))
  go_wp2_with fail
  refine wgen (fun w1 => PS w1 s o t first ⟨an, hi, ix, ip, pd, 1, F, wd, pr⟩ ∧ Below B w w1) ?_ ?_
  · refine ⟨⟨?_, ?_⟩, ?_⟩
    · exact h.sb.far hne _
    · exact h.ob.set_ 8 _
    · exact (((Below.refl _ _).setCell hBo _).drew)
  rintro w1 ⟨h', hb⟩
  clear c0 c7 d0 d8 f8
  have c0 : w1.cell? ⟨s, 0, none⟩ = some (.pointer (some ⟨o, 0, none⟩)) := h'.sb.cell 0
  have c7 : w1.cell? ⟨s, 7, none⟩ = some (.int .i64 1) := h'.sb.cell 7
  have d8 : w1.cell? ⟨o, 8, none⟩ = some (.string F) := h'.ob.cell 8
  have f7 := h'.sb.frozen 7
  go_region
  go_wp2
  have e1 := unhide HS
  have e2 := unhide HF0
  go_end0
  refine ⟨rfl, ⟨?_, ?_⟩, ?_⟩
  · have := (h'.sb.set_ 7 (.int .i64 (1 + (F.size : Int))))
    rw [e1] at this ⊢
    exact this
  · have := (h'.ob.far (p := ⟨s, 7, none⟩) hne' (.int .i64 (1 + (F.size : Int))))
    rw [← e2]
    exact this
  · exact (hb.setCell hBs _).drew
end Go.Proofs.YtjbmphfgckhaeaaDoor
