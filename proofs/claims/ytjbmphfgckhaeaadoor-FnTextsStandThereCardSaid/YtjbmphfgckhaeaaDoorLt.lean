/-
  The walk of laws.FnTextsStandThere: true, whatever the input. Conditions: the library's tables and sentinels.
-/
import Derived.Test.YtjbmphfgckhaeaaDoorPt
import Derived.Test.YtjbmphfgckhaeaaDoorTwo
import Derived.Deep.DeepCutAuto
import Derived.Deep.QuietTactic
import Derived.BigQuiet
namespace Go.Proofs.YtjbmphfgckhaeaaDoor
open Go.RowKit

set_option maxRecDepth 100000 in
set_option maxHeartbeats 1600000 in
theorem stand_big (t : ByteArray) (i : Int) (w : World) (ht : t.size ≤ maxLen) (hb : 2147483647 < t.size) :
    Calls Tryd.prog 7 #[.string t, .int .i64 i] w fun e w' => e = .returned (.bool true) ∧ Below w.heap.size w w' := by
  unfold maxLen at ht
  have d1 : decide ((t.size : Int) > 2147483647) = true := decide_eq_true (by omega)
  go_enter Tryd.func7, Tryd.ntmps7
  go_wp2
  go_ret
  exact ⟨rfl, Below.refl _ _⟩

set_option maxRecDepth 100000 in
set_option maxHeartbeats 1600000 in
theorem stand_nocall (t : ByteArray) (i : Int) (w : World) (ht : t.size ≤ 2147483647) (hb : i < 0 ∨ 1000 ≤ i) :
    Calls Tryd.prog 7 #[.string t, .int .i64 i] w fun e w' => e = .returned (.bool true) ∧ Below w.heap.size w w' := by
  have d2 : decide ((t.size : Int) > 2147483647) = false := decide_eq_false (by omega)
  have HB := hide hb
  clear hb
  go_enter Tryd.func7, Tryd.ntmps7
  go_wp2_with fail
  refine (call_no i _ (unhide HB)).mono ?_
  rintro x w2 ⟨rfl, rfl⟩
  go_wp2
  go_ret
  exact ⟨rfl, Below.refl _ _⟩

set_option maxRecDepth 100000 in
set_option maxHeartbeats 1600000 in
theorem stand_long (t : ByteArray) (i : Int) (w : World) (ht : t.size ≤ 2147483647) (h0 : 0 ≤ i) (h1 : i < 1000) (hb : 4096 < t.size) :
    Calls Tryd.prog 7 #[.string t, .int .i64 i] w fun e w' => e = .returned (.bool true) ∧ Below w.heap.size w w' := by
  have d2 : decide ((t.size : Int) > 2147483647) = false := decide_eq_false (by omega)
  have d3 : decide ((t.size : Int) > 4096) = true := decide_eq_true (by omega)
  go_enter Tryd.func7, Tryd.ntmps7
  go_wp2_with fail
  refine (call_yes i _ h0 h1).mono ?_
  rintro x w2 ⟨rfl, rfl⟩
  go_wp2
  go_ret
  exact ⟨rfl, Below.refl _ _⟩

set_option maxRecDepth 100000 in
set_option maxHeartbeats 1600000 in
theorem stand_none (t : ByteArray) (i : Int) (w : World) (hGw : G w) (ht : t.size ≤ 4096) (h0 : 0 ≤ i) (h1 : i < 1000) (hp : parseM t.data.toList i = none) :
    Calls Tryd.prog 7 #[.string t, .int .i64 i] w fun e w' => e = .returned (.bool true) ∧ Below w.heap.size w w' := by
  have d2 : decide ((t.size : Int) > 2147483647) = false := decide_eq_false (by omega)
  have d3 : decide ((t.size : Int) > 4096) = false := decide_eq_false (by omega)
  have C1 : Hid (∀ w1, G w1 → Calls Tryd.prog 14 #[.string t, .int .i64 i] w1 fun e w' => e = .returned (.tuple #[.slice none 0 0, .bool false]) ∧ Below w1.heap.size w1 w') := fun w1 h => iparse_none t _ i w1 h (by omega) h0 (by omega) rfl hp
  clear hp
  go_enter Tryd.func7, Tryd.ntmps7
  go_wp2_with fail
  refine (call_yes i _ h0 h1).mono ?_
  rintro x w2 ⟨rfl, rfl⟩
  go_wp2_with fail
  refine (unhide C1 _ hGw).mono ?_
  rintro x w3 ⟨rfl, hb3⟩
  have hG3 := hGw.step hb3
  go_wp2_with fail
  refine (impl0_any _ hG3).mono ?_
  rintro x w5 ⟨rfl, hb5⟩
  go_wp2
  go_ret
  exact ⟨rfl, hb3.trans (hb5.mono hb3.size)⟩

/-- One row of operations in a block below n0; below block number b all is as it was in w. -/
structure One (w : World) (b n0 g : Nat) (xs : List IOp) (W : World) : Prop where
  rx : OpsRow W g xs
  gl : g < n0
  bl : b ≤ n0
  sz : n0 ≤ W.heap.size
  bw : Below b w W
theorem One.alloc {w W : World} {b n0 g : Nat} {xs : List IOp} (t : One w b n0 g xs W) (o : Obj) : One w b n0 g xs (W.alloc o) :=
  ⟨t.rx.alloc (Nat.lt_of_lt_of_le t.gl t.sz) o, t.gl, t.bl, by simp; exact Nat.le_succ_of_le t.sz, t.bw.alloc (Nat.le_trans t.bl t.sz) o⟩
theorem One.store {w W : World} {b n0 g : Nat} {xs : List IOp} (t : One w b n0 g xs W) {p : Nat} (hp : n0 ≤ p) (vs : List Value) : One w b n0 g xs (W.setCells p 0 vs) :=
  ⟨t.rx.cells (Nat.ne_of_lt (Nat.lt_of_lt_of_le t.gl hp)) 0 vs, t.gl, t.bl, by rw [setCells_size]; exact t.sz, below_cells t.bw (Nat.le_trans t.bl hp) 0 vs⟩
theorem One.drewN {w W : World} {b n0 g : Nat} {xs : List IOp} (t : One w b n0 g xs W) (n : Nat) : One w b n0 g xs (W.drewN n) := ⟨t.rx, t.gl, t.bl, t.sz, below_drewN t.bw n⟩
theorem One.drew {w W : World} {b n0 g : Nat} {xs : List IOp} (t : One w b n0 g xs W) : One w b n0 g xs W.drew := ⟨t.rx, t.gl, t.bl, t.sz, t.bw.drew⟩

set_option maxRecDepth 100000 in
set_option maxHeartbeats 6400000 in
theorem stand_some (t : ByteArray) (i : Int) (w : World) (hGw : G w) (ht : t.size ≤ 4096) (h0 : 0 ≤ i) (h1 : i < 1000) (xs : List IOp) (hp : parseM t.data.toList i = some xs) :
    Calls Tryd.prog 7 #[.string t, .int .i64 i] w fun e w' => e = .returned (.bool true) ∧ Below w.heap.size w w' := by
  have d2 : decide ((t.size : Int) > 2147483647) = false := decide_eq_false (by omega)
  have d3 : decide ((t.size : Int) > 4096) = false := decide_eq_false (by omega)
  obtain ⟨n, hxn⟩ : ∃ n, xs.length = n := ⟨_, rfl⟩
  have hnn : n ≤ 100000 := by
    unfold parseM at hp
    split at hp
    · have := iop_len _ _ _ _ _ _ hp
      rw [← size_data] at this
      omega
    · cases hp
  have C1 : Hid (∀ w1, G w1 → Calls Tryd.prog 14 #[.string t, .int .i64 i] w1 fun e w' => ∃ g cap : Nat, e = .returned (.tuple #[.slice (some ⟨g, 0, none⟩) n cap, .bool true]) ∧ OpsRow w' g xs ∧ g < w'.heap.size ∧ w1.heap.size ≤ g ∧ Below w1.heap.size w1 w') := fun w1 h => iparse_row t _ i w1 xs n h (by omega) h0 (by omega) rfl hp hxn
  have HC : Hid (Chain t.data.toList 0 xs) := chain_of hp
  have HXN := hide hxn
  clear hp hxn
  go_enter Tryd.func7, Tryd.ntmps7
  go_wp2_with fail
  refine (call_yes i _ h0 h1).mono ?_
  rintro x w2 ⟨rfl, rfl⟩
  go_wp2_with fail
  refine (unhide C1 _ hGw).mono ?_
  rintro x w3 ⟨g, cg, rfl, hr3, hg3, hg3', hb3⟩
  have hG3 := hGw.step hb3
  have HT : Hid (One w w.heap.size w3.heap.size g xs w3) := ⟨hr3, hg3, hb3.size, Nat.le_refl _, hb3⟩
  clear hr3 hg3 hg3' hb3 hG3
  go_wp2_with fail
  go_loopg [7, 32] (n + 1) (fun f s7 s32 wr => ∃ k a : Nat, k ≤ n ∧ n - k < f ∧ s32 = .int .i64 k ∧ s7 = .int .i64 a ∧ Hid (One w w.heap.size w3.heap.size g xs wr ∧ Chain t.data.toList a (xs.drop k)))
  case atStart => exact ⟨0, 0, Nat.zero_le _, by omega, rfl, rfl, HT, HC⟩
  case round =>
    obtain ⟨k2, a, hk, hG, rfl, rfl, hR⟩ := hrel
    clear HT HC
    by_cases hlt : k2 < n
    · have hj0 : (0 : Int) ≤ (k2 : Int) := by omega
      have hj1 : (k2 : Int) < (n : Int) := by omega
      obtain ⟨x, hx⟩ : ∃ x, xs[k2]? = some x := ⟨xs[k2]'(by have := unhide HXN; omega), List.getElem?_eq_getElem _⟩
      have hxl : k2 < xs.length := (List.getElem?_eq_some_iff.1 hx).1
      have hdr : xs.drop k2 = x :: xs.drop (k2 + 1) := by
        rw [List.drop_eq_getElem_cons hxl, (List.getElem?_eq_some_iff.1 hx).2]
      obtain ⟨hT, hC⟩ := unhide hR
      rw [hdr] at hC
      obtain ⟨q, ⟨s, v, x1, x2, x3, x4, x5, x6, x7, x8, x9, x10, x11, x12, x13⟩, hC2⟩ := hC
      obtain ⟨text, st, en, fl, vb, vs, ve, ix, arg, ⟨v1, v2, v3, v4, v5⟩, ⟨p1, p2, p3, p4, p5⟩⟩ := x
      replace x1 : st = s := x1
      replace x2 : en = q := x2
      replace x3 : ve = q := x3
      replace x4 : vs = v := x4
      have hl := size_data t
      have hq : q ≤ t.size := by omega
      replace x9 : text = mk (seg t.data.toList s q) := x9
      have hex : mk (seg t.data.toList s q) = t.extract s q := (eq_mk (Lib.extract_data t s q)).symm
      rw [hex] at x9
      obtain ⟨U, hU⟩ : ∃ U, U = t.extract s q := ⟨_, rfl⟩
      rw [← hU] at x9
      have hvb : vb = 65533 ∨ (vb ≠ 65533 ∧ ∃ m : Nat, (Utf8.encode vb).size = m ∧ v + m ≤ q ∧ (Utf8.encode vb) = t.extract (q - m) q) := by
        by_cases hv : vb = 65533
        · exact .inl hv
        · obtain ⟨m, m1, m2, m3⟩ := x13 hv
          refine .inr ⟨hv, m, m1, m2, m3.trans (eq_mk (Lib.extract_data t (q - m) q)).symm⟩
      have hst : (t.extract s q).size = q - s := by
        rw [size_data, Lib.extract_data, List.length_take, List.length_drop, ← hl]
        omega
      have hfst : (t.extract s q).data.toList[0]? = some 37 := by
        rw [Lib.extract_data, List.getElem?_take, if_pos (by omega), List.getElem?_drop, Nat.add_zero]
        exact x10
      have h37 : ∀ V : ByteArray, V.data.toList[0]? = some 37 → ∀ h : 0 < V.size, V[0] = 37 := fun V hV h => Option.some.inj ((get_data _ 0 h).symm.trans hV)
      subst x1
      subst x2
      subst x3
      subst x4
      subst x9
      rw [← hU] at hst hfst
      replace h37 := h37 text hfst
      have e1 : (text.toList == (t.extract s q).toList) = true := by rw [hU]; exact beq_self_eq_true _
      have HU := hide hU
      clear hU
      obtain ⟨Ls, hLs⟩ : ∃ Ls : List Value, Ls = (#[.string text, .int .i64 s, .int .i64 q, .string fl, .int .i32 vb, .int .i64 v, .int .i64 q, .int .i64 ix, .int .i64 arg, .int .i64 v1, .int .i64 v2, .int .i64 v3, .int .i64 v4, .int .i64 v5, .int .i64 p1, .int .i64 p2, .int .i64 p3, .int .i64 p4, .int .i64 p5] : Array Value).toList := ⟨_, rfl⟩
      have hpl : w3.heap.size ≤ wr.heap.size := hT.sz
      have hAs : Ls.toArray.size = 19 := by rw [hLs]; rfl
      have hrg : wr.rangeAt g (k2 * 19) Ls := by
        rw [hLs]
        exact hT.rx.range hx
      have hZ : Blk (wr.alloc (.cells #[.string ⟨#[]⟩, .int .i64 0, .int .i64 0, .string ⟨#[]⟩, .int .i32 0, .int .i64 0, .int .i64 0, .int .i64 0, .int .i64 0, .int .i64 0, .int .i64 0, .int .i64 0, .int .i64 0, .int .i64 0, .int .i64 0, .int .i64 0, .int .i64 0, .int .i64 0, .int .i64 0] 32)) wr.heap.size 32 #[.string ⟨#[]⟩, .int .i64 0, .int .i64 0, .string ⟨#[]⟩, .int .i32 0, .int .i64 0, .int .i64 0, .int .i64 0, .int .i64 0, .int .i64 0, .int .i64 0, .int .i64 0, .int .i64 0, .int .i64 0, .int .i64 0, .int .i64 0, .int .i64 0, .int .i64 0, .int .i64 0] := Blk.new wr 32 #[.string ⟨#[]⟩, .int .i64 0, .int .i64 0, .string ⟨#[]⟩, .int .i32 0, .int .i64 0, .int .i64 0, .int .i64 0, .int .i64 0, .int .i64 0, .int .i64 0, .int .i64 0, .int .i64 0, .int .i64 0, .int .i64 0, .int .i64 0, .int .i64 0, .int .i64 0, .int .i64 0]
      obtain ⟨W1, hW1⟩ : ∃ W1, W1 = (wr.alloc (.cells #[.string ⟨#[]⟩, .int .i64 0, .int .i64 0, .string ⟨#[]⟩, .int .i32 0, .int .i64 0, .int .i64 0, .int .i64 0, .int .i64 0, .int .i64 0, .int .i64 0, .int .i64 0, .int .i64 0, .int .i64 0, .int .i64 0, .int .i64 0, .int .i64 0, .int .i64 0, .int .i64 0] 32)).setCells wr.heap.size 0 Ls.toArray.toList := ⟨_, rfl⟩
      have hi1 : (Tryd.prog.info? 32).map (·.size) = some Ls.length := by
        rw [hLs]
        kernel_rfl
      have hi2 : (Tryd.prog.info? 32).map (·.size) = some Ls.toArray.size := by
        rw [hLs]
        kernel_rfl
      have hth : (wr.alloc (.cells #[.string ⟨#[]⟩, .int .i64 0, .int .i64 0, .string ⟨#[]⟩, .int .i32 0, .int .i64 0, .int .i64 0, .int .i64 0, .int .i64 0, .int .i64 0, .int .i64 0, .int .i64 0, .int .i64 0, .int .i64 0, .int .i64 0, .int .i64 0, .int .i64 0, .int .i64 0, .int .i64 0] 32)).there wr.heap.size 0 Ls.toArray.size := there_blk hZ (by rw [hAs]; rfl)
      have hoc : Ls.toArray.all (·.oneCell') = true := by
        rw [hLs]
        simp [Value.oneCell']
      have hT1 : One w w.heap.size w3.heap.size g xs W1 := by
        rw [hW1]
        exact (hT.alloc _).store hpl _
      have hB1 : Blk W1 wr.heap.size 32 #[.string text, .int .i64 s, .int .i64 q, .string fl, .int .i32 vb, .int .i64 v, .int .i64 q, .int .i64 ix, .int .i64 arg, .int .i64 v1, .int .i64 v2, .int .i64 v3, .int .i64 v4, .int .i64 v5, .int .i64 p1, .int .i64 p2, .int .i64 p3, .int .i64 p4, .int .i64 p5] := by
        have h5 := hZ.cells_all Ls.toArray (by rw [hAs]; rfl)
        rw [← hW1] at h5
        rw [hLs] at h5
        exact h5
      have HX := hide (And.intro hT1 hC2)
      have a0 := hB1.cell 0
      have a1 := hB1.cell 1
      have a2 := hB1.cell 2
      have a4 := hB1.cell 4
      have a5 := hB1.cell 5
      have a6 := hB1.cell 6
      simp only [List.getElem?_toArray, List.getElem?_cons_zero, List.getElem?_cons_succ] at a0 a1 a2 a4 a5 a6
      have H37 := hide h37
      have HST := hide hst
      have HRG := hide hrg
      have HW1 := hide hW1
      have HI1 := hide hi1
      have HI2 := hide hi2
      have HTH := hide hth
      have HOC := hide hoc
      clear hT1 hC2 hT hR hx hxl hdr hLs hAs hrg hZ hW1 hi1 hi2 hth hoc hB1 hpl hex hfst h37 hst x10 x13 hl
      have f1 : decide (s < a) = false := decide_eq_false (by omega)
      have f2 : decide (q ≤ s) = false := decide_eq_false (by omega)
      have f3 : decide (t.size < q) = false := decide_eq_false (by omega)
      have f5 : decide (v ≤ s) = false := decide_eq_false (by omega)
      have f6 : decide (q ≤ v) = false := decide_eq_false (by omega)
      go_upto_region 12 with (first | (refine wpList_load_mid rfl 32 (.tmp 34) rfl g (k2 * 19) rfl Ls _ (unhide HRG) Tryd.underlying32 rfl (unhide HI1) ?_) | (refine wpList_store_mid rfl 32 (.tmp 9) (.tmp 35) rfl wr.heap.size 0 Ls.toArray rfl rfl (unhide HTH) (unhide HI2) (unhide HOC) ?_; rw [← unhide HW1]))
      clear HRG HW1 HI1 HI2 HTH HOC
      simp only [Act.put]
      generalize wr.heap.size = p at a0 a1 a2 a4 a5 a6 ⊢
      have g0 : 0 < text.size := by rw [unhide HST]; omega
      have g37 : ((text[0].toNat : Int) != 37) = false := by rw [unhide H37 g0]; rfl
      have q0 : (0 : Int) ≤ (s : Int) := by omega
      have q1 : (s : Int) ≤ (q : Int) := by omega
      have q2 : (q : Int) ≤ (t.size : Int) := by omega
      have q3 : (0 : Int) < (text.size : Int) := by omega
      rcases hvb with hvb | ⟨hvb, m, m1, m2, m3⟩
      · have hb : (vb != 65533) = false := by rw [hvb]; rfl
        clear hvb
        simp only [List.append]
        go_quiet (fail)
        go_wp2
        go_roundg (gk - 1)
        case measure => omega
        case rel => exact ⟨k2 + 1, q, by omega, by omega, by go_num, rfl, (unhide HX).1.drewN _, (unhide HX).2⟩
      · have hb : (vb != 65533) = true := by rw [bne_iff_ne]; exact hvb
        have k0 : (0 : Int) ≤ (q : Int) - (m : Int) := by omega
        have k1 : (q : Int) - (m : Int) ≤ (q : Int) := by omega
        have k3 : ((q : Int) - (m : Int)).toNat = q - m := by omega
        have k4 : decide ((q : Int) - (v : Int) < (m : Int)) = false := decide_eq_false (by omega)
        have e2 : ((Utf8.encode vb).toList == (t.extract (q - m) q).toList) = true := by rw [← m3]; exact beq_self_eq_true _
        have e3 : (Utf8.encode vb).size = m := m1
        have m4 : m ≤ q := by omega
        clear hvb m3 m1
        simp only [List.append]
        go_quiet (fail)
        go_wp2
        go_roundg (gk - 1)
        case measure => omega
        case rel => exact ⟨k2 + 1, q, by omega, by omega, by go_num, rfl, (unhide HX).1.drewN _, (unhide HX).2⟩
    · have hd : decide (k2 < n) = false := decide_eq_false hlt
      have hT := (unhide hR).1
      have hG5 : G wr := hGw.step hT.bw
      have hb5 := hT.bw
      clear hT hR
      go_wp2_with fail
      refine (impl0_any _ hG5).mono ?_
      rintro x w5 ⟨rfl, hb6⟩
      go_wp2
      go_ret
      exact ⟨rfl, hb5.trans (hb6.mono hb5.size)⟩
theorem law7 (t : ByteArray) (i : Int) (w : World) (ht : t.size ≤ maxLen) (hG : G w) : Calls Tryd.prog 7 #[.string t, .int .i64 i] w fun e w' => e = .returned (.bool true) ∧ Below w.heap.size w w' := by
  by_cases hb : 2147483647 < t.size
  · exact stand_big t i w ht hb
  by_cases hc : i < 0 ∨ 1000 ≤ i
  · exact stand_nocall t i w (by omega) hc
  by_cases hl : 4096 < t.size
  · exact stand_long t i w (by omega) (by omega) (by omega) hl
  cases hp : parseM t.data.toList i with
  | none => exact stand_none t i w hG (by omega) (by omega) (by omega) hp
  | some xs => exact stand_some t i w hG (by omega) (by omega) (by omega) xs hp
end Go.Proofs.YtjbmphfgckhaeaaDoor
