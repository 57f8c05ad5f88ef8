/-
  The walk of laws.FnParse: true, whatever the input. Conditions: the library's tables and sentinels; the walk of the reference's op is a premise (SopAny), paid in the last text.
-/
import Derived.Test.YtjbmphfgckhaeaaDoorGe
import Derived.Test.YtjbmphfgckhaeaaDoorTwo
import Derived.Deep.DeepCutAuto
namespace Go.Proofs.YtjbmphfgckhaeaaDoor
open Go.RowKit

/-- The reference's operations lie one behind the other in block g. -/
def SosRow (w : World) (g : Nat) (os : List SO) : Prop := ∀ (k : Nat) (o : SO), os[k]? = some o → ∀ (j : Nat) (v : Value), (soC o)[j]? = some v → w.cell? ⟨g, k * 14 + j, none⟩ = some v
theorem flatS_at (os : List SO) : ∀ (k : Nat) (o : SO), os[k]? = some o → ∀ (j : Nat), j < 14 → (flatS os)[k * 14 + j]? = (soC o)[j]? := by
  induction os with
  | nil => intro k o h; cases h
  | cons y r ih =>
    intro k o h j hj
    have hl : (soC y).toList.length = 14 := rfl
    have hf : flatS (y :: r) = (soC y).toList ++ flatS r := rfl
    rw [hf]
    cases k with
    | zero =>
      simp only [List.getElem?_cons_zero, Option.some.injEq] at h
      subst h
      rw [Nat.zero_mul, Nat.zero_add, List.getElem?_append_left (by rw [hl]; exact hj), Array.getElem?_toList]
    | succ k =>
      simp only [List.getElem?_cons_succ] at h
      rw [List.getElem?_append_right (by rw [hl]; omega), hl, show (k + 1) * 14 + j - 14 = k * 14 + j from by omega]
      exact ih k o h j hj
theorem SosRow.of {w : World} {B g n cap : Nat} {os : List SO} (hn : os.length = n) (h : w.ownsRow B 26 14 (.slice (some ⟨g, 0, none⟩) n cap) n (flatS os)) : SosRow w g os := by
  intro k o hx j v hv
  have hk := (List.getElem?_eq_some_iff.1 hx).1
  have hj : j < 14 := (Array.getElem?_eq_some_iff.1 hv).1
  rw [h.cellAt (k * 14 + j) (by omega), flatS_at os k o hx j hj, hv]
theorem SosRow.lt {w : World} {g : Nat} {os : List SO} (h : SosRow w g os) (hn : 0 < os.length) : g < w.heap.size :=
  cell_lt_heap (h 0 os[0] (List.getElem?_eq_getElem hn) 0 _ rfl)
theorem SosRow.below {B : Nat} {w w' : World} {g : Nat} {os : List SO} (h : SosRow w g os) (hb : Below B w w') (hg : g < B) : SosRow w' g os := fun k x hx j v hv => by
  rw [hb.cell (p := ⟨g, k * 14 + j, none⟩) hg]
  exact h k x hx j v hv
theorem SosRow.range {w : World} {g : Nat} {os : List SO} (h : SosRow w g os) {k : Nat} {o : SO} (hx : os[k]? = some o) : w.rangeAt g (k * 14) (soC o).toList := fun j v hv => h k o hx j v (by simpa using hv)
/-- spec.Parse, of a text that the reference calls good. -/
theorem sparse_row (hop : SopAny) (t : ByteArray) (idx : Int) (w : World) (hG : G w) (hs : t.size ≤ 4096) (hi0 : 0 ≤ idx) (hi1 : idx ≤ 2000) (os : List SO) (n : Nat) (ho : spParse t.data.toList idx = .good os) (hn : os.length = n) (hn0 : 0 < n) :
    Calls Tryd.prog 13 #[.string t, .int .i64 idx] w fun e w' => ∃ g cap : Nat, e = .returned (.tuple #[.slice (some ⟨g, 0, none⟩) n cap, .int .i64 0]) ∧ SosRow w' g os ∧ g < w'.heap.size ∧ Below w.heap.size w w' := by
  refine (sparse_any hop t idx w hG hs hi0 hi1).mono ?_
  rw [ho]
  rintro e w' ⟨v, rfl, hown, hb⟩
  rw [hn] at hown
  obtain ⟨g, cap, rfl⟩ : ∃ g cap, v = .slice (some ⟨g, 0, none⟩) n cap := by
    rcases hown.2 with ⟨_, h0⟩ | ⟨g, cap, cur, hv, _⟩
    · omega
    · exact ⟨g, cap, hv⟩
  have hr := SosRow.of hn hown
  exact ⟨g, cap, rfl, hr, hr.lt (by omega), hb⟩
/-- A row of operations and a row of the reference's. -/
structure Mix (w : World) (b g h : Nat) (xs : List IOp) (os : List SO) (W : World) : Prop where
  rx : OpsRow W g xs
  ry : SosRow W h os
  gl : g < W.heap.size
  hl : h < W.heap.size
  bl : b ≤ W.heap.size
  bw : Below b w W
theorem Mix.step {w W W' : World} {b g h : Nat} {xs : List IOp} {os : List SO} (m : Mix w b g h xs os W) (hb : Below W.heap.size W W') : Mix w b g h xs os W' :=
  ⟨m.rx.below hb m.gl, m.ry.below hb m.hl, Nat.lt_of_lt_of_le m.gl hb.size, Nat.lt_of_lt_of_le m.hl hb.size, Nat.le_trans m.bl hb.size, m.bw.trans (hb.mono m.bl)⟩
theorem Mix.drew {w W : World} {b g h : Nat} {xs : List IOp} {os : List SO} (m : Mix w b g h xs os W) : Mix w b g h xs os W.drew := m.step (Below.refl _ _).drew

set_option maxRecDepth 100000 in
set_option maxHeartbeats 1600000 in
theorem par_big (t : ByteArray) (i : Int) (w : World) (ht : t.size ≤ maxLen) (hb : 2147483647 < t.size) :
    Calls Tryd.prog 5 #[.string t, .int .i64 i] w fun e w' => e = .returned (.bool true) ∧ Below w.heap.size w w' := by
  unfold maxLen at ht
  have d1 : decide ((t.size : Int) > 2147483647) = true := decide_eq_true (by omega)
  go_enter Tryd.func5, Tryd.ntmps5
  go_wp2
  go_ret
  exact ⟨rfl, Below.refl _ _⟩
set_option maxRecDepth 100000 in
set_option maxHeartbeats 1600000 in
theorem par_nocall (t : ByteArray) (i : Int) (w : World) (ht : t.size ≤ 2147483647) (hb : i < 0 ∨ 1000 ≤ i) :
    Calls Tryd.prog 5 #[.string t, .int .i64 i] w fun e w' => e = .returned (.bool true) ∧ Below w.heap.size w w' := by
  have d2 : decide ((t.size : Int) > 2147483647) = false := decide_eq_false (by omega)
  have HB := hide hb
  clear hb
  go_enter Tryd.func5, Tryd.ntmps5
  go_wp2_with fail
  refine (call_no i _ (unhide HB)).mono ?_
  rintro x w2 ⟨rfl, rfl⟩
  go_wp2
  go_ret
  exact ⟨rfl, Below.refl _ _⟩
set_option maxRecDepth 100000 in
set_option maxHeartbeats 1600000 in
theorem par_long (t : ByteArray) (i : Int) (w : World) (ht : t.size ≤ 2147483647) (h0 : 0 ≤ i) (h1 : i < 1000) (hb : 4096 < t.size) :
    Calls Tryd.prog 5 #[.string t, .int .i64 i] w fun e w' => e = .returned (.bool true) ∧ Below w.heap.size w w' := by
  have d2 : decide ((t.size : Int) > 2147483647) = false := decide_eq_false (by omega)
  have d3 : decide ((t.size : Int) > 4096) = true := decide_eq_true (by omega)
  go_enter Tryd.func5, Tryd.ntmps5
  go_wp2_with fail
  refine (call_yes i _ h0 h1).mono ?_
  rintro x w2 ⟨rfl, rfl⟩
  go_wp2
  go_ret
  exact ⟨rfl, Below.refl _ _⟩
set_option maxRecDepth 100000 in
set_option maxHeartbeats 1600000 in
theorem par_opn (hop : SopAny) (t : ByteArray) (i : Int) (w : World) (hGw : G w) (ht : t.size ≤ 4096) (h0 : 0 ≤ i) (h1 : i < 1000) (hp : spParse t.data.toList i = .opn) :
    Calls Tryd.prog 5 #[.string t, .int .i64 i] w fun e w' => e = .returned (.bool true) ∧ Below w.heap.size w w' := by
  have d2 : decide ((t.size : Int) > 2147483647) = false := decide_eq_false (by omega)
  have d3 : decide ((t.size : Int) > 4096) = false := decide_eq_false (by omega)
  have C1 : Hid (∀ w1, G w1 → Calls Tryd.prog 13 #[.string t, .int .i64 i] w1 fun e w' => e = .returned (.tuple #[.slice none 0 0, .int .i64 2]) ∧ Below w1.heap.size w1 w') := fun w1 h => (sparse_any hop t i w1 h ht h0 (by omega)).mono (by rw [hp]; exact fun _ _ h => h)
  clear hp
  go_enter Tryd.func5, Tryd.ntmps5
  go_wp2_with fail
  refine (call_yes i _ h0 h1).mono ?_
  rintro x w2 ⟨rfl, rfl⟩
  go_wp2_with fail
  refine (unhide C1 _ hGw).mono ?_
  rintro x w3 ⟨rfl, hb3⟩
  go_wp2
  go_ret
  exact ⟨rfl, hb3⟩
set_option maxRecDepth 100000 in
set_option maxHeartbeats 1600000 in
theorem par_bad (hop : SopAny) (t : ByteArray) (i : Int) (w : World) (hGw : G w) (ht : t.size ≤ 4096) (h0 : 0 ≤ i) (h1 : i < 1000) (hp : spParse t.data.toList i = .bad) :
    Calls Tryd.prog 5 #[.string t, .int .i64 i] w fun e w' => e = .returned (.bool true) ∧ Below w.heap.size w w' := by
  have d2 : decide ((t.size : Int) > 2147483647) = false := decide_eq_false (by omega)
  have d3 : decide ((t.size : Int) > 4096) = false := decide_eq_false (by omega)
  have C1 : Hid (∀ w1, G w1 → Calls Tryd.prog 13 #[.string t, .int .i64 i] w1 fun e w' => e = .returned (.tuple #[.slice none 0 0, .int .i64 1]) ∧ Below w1.heap.size w1 w') := fun w1 h => (sparse_any hop t i w1 h ht h0 (by omega)).mono (by rw [hp]; exact fun _ _ h => h)
  have C2 : Hid (∀ w1, G w1 → Calls Tryd.prog 14 #[.string t, .int .i64 i] w1 fun e w' => e = .returned (.tuple #[.slice none 0 0, .bool false]) ∧ Below w1.heap.size w1 w') := fun w1 h => iparse_none t _ i w1 h (by omega) h0 (by omega) rfl (sp_bad hp)
  clear hp
  go_enter Tryd.func5, Tryd.ntmps5
  go_wp2_with fail
  refine (call_yes i _ h0 h1).mono ?_
  rintro x w2 ⟨rfl, rfl⟩
  go_wp2_with fail
  refine (unhide C1 _ hGw).mono ?_
  rintro x w3 ⟨rfl, hb3⟩
  have hG3 := hGw.step hb3
  go_wp2_with fail
  refine (unhide C2 _ hG3).mono ?_
  rintro x w4 ⟨rfl, hb4⟩
  go_wp2
  go_ret
  exact ⟨rfl, hb3.trans (hb4.mono hb3.size)⟩

set_option maxRecDepth 100000 in
set_option maxHeartbeats 3200000 in
theorem par_good (hop : SopAny) (t : ByteArray) (i : Int) (w : World) (hGw : G w) (ht : t.size ≤ 4096) (h0 : 0 ≤ i) (h1 : i < 1000) (os : List SO) (hp : spParse t.data.toList i = .good os) :
    Calls Tryd.prog 5 #[.string t, .int .i64 i] w fun e w' => e = .returned (.bool true) ∧ Below w.heap.size w w' := by
  have d2 : decide ((t.size : Int) > 2147483647) = false := decide_eq_false (by omega)
  have d3 : decide ((t.size : Int) > 4096) = false := decide_eq_false (by omega)
  obtain ⟨xs, hx, hm⟩ := sp_good hp
  obtain ⟨n, hxn⟩ : ∃ n, xs.length = n := ⟨_, rfl⟩
  have hon : os.length = n := by rw [hm.1, hxn]
  have hn0 : 0 < n := by rw [← hxn]; exact parse_ne hx
  have hnn : n ≤ 100000 := by
    have hx' := hx
    unfold parseM at hx'
    split at hx'
    · have := iop_len _ _ _ _ _ _ hx'
      rw [← size_data] at this
      omega
    · cases hx'
  have C1 : Hid (∀ w1, G w1 → Calls Tryd.prog 13 #[.string t, .int .i64 i] w1 fun e w' => ∃ g cap : Nat, e = .returned (.tuple #[.slice (some ⟨g, 0, none⟩) n cap, .int .i64 0]) ∧ SosRow w' g os ∧ g < w'.heap.size ∧ Below w1.heap.size w1 w') := fun w1 h => sparse_row hop t i w1 h ht h0 (by omega) os n hp hon hn0
  have C2 : Hid (∀ w1, G w1 → Calls Tryd.prog 14 #[.string t, .int .i64 i] w1 fun e w' => ∃ g cap : Nat, e = .returned (.tuple #[.slice (some ⟨g, 0, none⟩) n cap, .bool true]) ∧ OpsRow w' g xs ∧ g < w'.heap.size ∧ w1.heap.size ≤ g ∧ Below w1.heap.size w1 w') := fun w1 h => iparse_row t _ i w1 xs n h (by omega) h0 (by omega) rfl hx hxn
  have HM := hide hm
  have HXN := hide hxn
  have HON := hide hon
  clear hp hx hm hxn hon
  go_enter Tryd.func5, Tryd.ntmps5
  go_wp2_with fail
  refine (call_yes i _ h0 h1).mono ?_
  rintro x w2 ⟨rfl, rfl⟩
  go_wp2_with fail
  refine (unhide C1 _ hGw).mono ?_
  rintro x w3 ⟨h, ch, rfl, hr3, hh3, hb3⟩
  have hG3 := hGw.step hb3
  have HR3 := hide hr3
  clear hr3
  go_wp2_with fail
  refine (unhide C2 _ hG3).mono ?_
  rintro x w4 ⟨g, cg, rfl, hr4, hg4, hg4', hb4⟩
  have HT : Hid (Mix w w.heap.size g h xs os w4) := ⟨hr4, (unhide HR3).below hb4 hh3, hg4, Nat.lt_of_lt_of_le hh3 hb4.size, Nat.le_trans hb3.size hb4.size, hb3.trans (hb4.mono hb3.size)⟩
  clear hr4 HR3 hh3 hb3 hg4 hg4' hb4 hG3
  go_wp2_with fail
  go_loopg [50] (n + 1) (fun f s50 wr => ∃ k : Nat, k ≤ n ∧ n - k < f ∧ s50 = .int .i64 k ∧ Hid (Mix w w.heap.size g h xs os wr))
  case atStart => exact ⟨0, Nat.zero_le _, by omega, rfl, HT⟩
  case round =>
    obtain ⟨k2, hk, hG, rfl, hR⟩ := hrel
    clear HT
    by_cases hlt : k2 < n
    · have hj0 : (0 : Int) ≤ (k2 : Int) := by omega
      have hj1 : (k2 : Int) < (n : Int) := by omega
      obtain ⟨x, hx⟩ : ∃ x, xs[k2]? = some x := ⟨xs[k2]'(by have := unhide HXN; omega), List.getElem?_eq_getElem _⟩
      obtain ⟨o, ho⟩ : ∃ o, os[k2]? = some o := ⟨os[k2]'(by have := unhide HON; omega), List.getElem?_eq_getElem _⟩
      have HOM := hide ((unhide HM).2 k2 o x ho hx)
      have hT := unhide hR
      clear hR
      go_upto_region 16 with fail
      refine wp_region_held_drew (S := fun W => Mix w w.heap.size g h xs os W) (by kernel_rfl) hT.drew ?_
      intro hS
      clear hT
      generalize wr.drew = W0 at hS ⊢
      refine wpAnyH_pre (fuel := 2) (by kernel_rfl) (fun _ _ d _ _ h => by cases d <;> exact h) [0, 1, 2, 3, 4, 5, 6, 7] _ _ _ (by kernel_rfl) hS ?_
      refine Pre.step (v := ?_) rfl ?_ ?_ ?_
      rotate_left
      · rfl
      · intro w9 hS9; clear hS9; go_simp; try with_reducible rfl
      simp only [Act.put, List.getElem_toArray, List.getElem_cons_zero, List.getElem_cons_succ, List.setIfInBounds_toArray, List.set_cons_zero, List.set_cons_succ]
      refine Pre.step (v := ?_) rfl ?_ ?_ ?_
      rotate_left
      · rfl
      · intro w9 hS9; clear hS9; go_simp; try with_reducible rfl
      simp only [Act.put, List.getElem_toArray, List.getElem_cons_zero, List.getElem_cons_succ, List.setIfInBounds_toArray, List.set_cons_zero, List.set_cons_succ]
      refine Pre.step (v := ?_) rfl ?_ ?_ ?_
      rotate_left
      · rfl
      · intro w9 hS9; clear hS9; go_simp; try with_reducible rfl
      simp only [Act.put, List.getElem_toArray, List.getElem_cons_zero, List.getElem_cons_succ, List.setIfInBounds_toArray, List.set_cons_zero, List.set_cons_succ]
      refine ⟨_, .agg (iCells x).toList.toArray, rfl, yieldsIf_load_mid (by rfl) 32 _ rfl g (k2 * 19) (by rfl) _ _ (fun W hW => hW.rx.range hx) Tryd.underlying32 rfl (by kernel_rfl), ?_⟩
      simp only [Act.put, List.getElem_toArray, List.getElem_cons_zero, List.getElem_cons_succ, List.setIfInBounds_toArray, List.set_cons_zero, List.set_cons_succ]
      refine Pre.step (v := ?_) rfl ?_ ?_ ?_
      rotate_left
      · rfl
      · intro w9 hS9; clear hS9; go_simp; try with_reducible rfl
      simp only [Act.put, List.getElem_toArray, List.getElem_cons_zero, List.getElem_cons_succ, List.setIfInBounds_toArray, List.set_cons_zero, List.set_cons_succ]
      refine Pre.step (v := ?_) rfl ?_ ?_ ?_
      rotate_left
      · rfl
      · intro w9 hS9; clear hS9; go_simp; try with_reducible rfl
      simp only [Act.put, List.getElem_toArray, List.getElem_cons_zero, List.getElem_cons_succ, List.setIfInBounds_toArray, List.set_cons_zero, List.set_cons_succ]
      refine Pre.step (v := ?_) rfl ?_ ?_ ?_
      rotate_left
      · rfl
      · intro w9 hS9; clear hS9; go_simp; try with_reducible rfl
      simp only [Act.put, List.getElem_toArray, List.getElem_cons_zero, List.getElem_cons_succ, List.setIfInBounds_toArray, List.set_cons_zero, List.set_cons_succ]
      refine ⟨_, .agg (soC o).toList.toArray, rfl, yieldsIf_load_mid (by rfl) 26 _ rfl h (k2 * 14) (by rfl) _ _ (fun W hW => hW.ry.range ho) Tryd.underlying26 rfl (by kernel_rfl), ?_⟩
      simp only [Act.put, List.getElem_toArray, List.getElem_cons_zero, List.getElem_cons_succ, List.setIfInBounds_toArray, List.set_cons_zero, List.set_cons_succ]
      refine Pre.nil ?_
      refine wpAnyH_ready (rs := [8]) (by kernel_rfl) (by simp) (AllReadyH.cons rfl (fun K hK => ?_) AllReadyH.nil)
      go_simp
      go_at_call 12
      refine (op_true x o (unhide HOM) _).mono ?_
      rintro y W1 ⟨rfl, hb1⟩
      replace hS := hS.step hb1
      refine hK.out _ _ hS (fun _ => ?_)
      clear hK K hb1
      refine wpAnyH_ready (rs := [9]) (by kernel_rfl) (by simp) (AllReadyH.cons rfl (fun K hK => ?_) AllReadyH.nil)
      go_simp
      refine hK.out _ _ hS (fun _ => ?_)
      clear hK K
      refine wpAnyH_done (by kernel_rfl) ?_ _
      have HS5 := hide hS
      clear hS hx ho
      go_wp2_with fail
      go_roundg (gk - 1)
      case measure => omega
      case rel => exact ⟨k2 + 1, by omega, by omega, by go_num, HS5⟩
    · have hd : decide (k2 < n) = false := decide_eq_false hlt
      have hT := unhide hR
      have hG5 : G wr := hGw.step hT.bw
      have hb5 := hT.bw
      clear hT hR
      go_wp2_with fail
      refine (impl0_any _ hG5).mono ?_
      rintro x w5 ⟨rfl, hb6⟩
      go_wp2
      go_ret
      exact ⟨rfl, hb5.trans (hb6.mono hb5.size)⟩
theorem law5 (hop : SopAny) (t : ByteArray) (i : Int) (w : World) (ht : t.size ≤ maxLen) (hG : G w) : Calls Tryd.prog 5 #[.string t, .int .i64 i] w fun e w' => e = .returned (.bool true) ∧ Below w.heap.size w w' := by
  by_cases hb : 2147483647 < t.size
  · exact par_big t i w ht hb
  by_cases hc : i < 0 ∨ 1000 ≤ i
  · exact par_nocall t i w (by omega) hc
  by_cases hl : 4096 < t.size
  · exact par_long t i w (by omega) (by omega) (by omega) hl
  cases hp : spParse t.data.toList i with
  | opn => exact par_opn hop t i w hG (by omega) (by omega) (by omega) hp
  | bad => exact par_bad hop t i w hG (by omega) (by omega) (by omega) hp
  | good os => exact par_good hop t i w hG (by omega) (by omega) (by omega) os hp
end Go.Proofs.YtjbmphfgckhaeaaDoor
