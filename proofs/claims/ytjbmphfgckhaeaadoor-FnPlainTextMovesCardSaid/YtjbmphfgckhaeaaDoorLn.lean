/-
  The walk of laws.FnPlainTextMoves where both texts have operations. Conditions: the library's tables and sentinels.
-/
import Derived.Test.YtjbmphfgckhaeaaDoorLm
import Derived.Test.YtjbmphfgckhaeaaDoorTwo
import Derived.Test.YtjbmphfgckhaeaaDoorPt
import Derived.Deep.DeepCutAuto
namespace Go.Proofs.YtjbmphfgckhaeaaDoor
open Go.RowKit

set_option maxRecDepth 100000 in
set_option maxHeartbeats 3200000 in
theorem moves_some (s t : ByteArray) (i : Int) (w : World) (hGw : G w) (hs : s.size ≤ 4096) (ht : t.size ≤ 4096) (hst : s.size + t.size ≤ 4096) (h0 : 0 ≤ i) (h1 : i < 1000) (hb : ¬ (37 : UInt8) ∈ s.data.toList)
    (xs ys : List IOp) (hp : parseM t.data.toList i = some xs) (hp2 : parseM (s ++ t).data.toList i = some ys) (h2 : All2 (Mv s.size) xs ys) :
    Calls Tryd.prog 6 #[.string s, .string t, .int .i64 i] w fun e w' => e = .returned (.bool true) ∧ Below w.heap.size w w' := by
  have d1 : decide ((s.size : Int) > 2147483647) = false := decide_eq_false (by omega)
  have d2 : decide ((t.size : Int) > 2147483647) = false := decide_eq_false (by omega)
  have d3 : decide ((s.size : Int) + (t.size : Int) > 4096) = false := decide_eq_false (by omega)
  have hsz : (s ++ t).size ≤ 400000000000 := by simp; omega
  obtain ⟨n, hxn⟩ : ∃ n, xs.length = n := ⟨_, rfl⟩
  have hyn : ys.length = n := by rw [← h2.1, hxn]
  have hnn : n ≤ 100000 := by
    unfold parseM at hp
    split at hp
    · have := iop_len _ _ _ _ _ _ hp
      rw [← size_data] at this
      omega
    · cases hp
  have C1 : Hid (∀ w1, G w1 → Calls Tryd.prog 14 #[.string t, .int .i64 i] w1 fun e w' => ∃ g cap : Nat, e = .returned (.tuple #[.slice (some ⟨g, 0, none⟩) n cap, .bool true]) ∧ OpsRow w' g xs ∧ g < w'.heap.size ∧ w1.heap.size ≤ g ∧ Below w1.heap.size w1 w') := fun w1 h => iparse_row t _ i w1 xs n h (by omega) h0 (by omega) rfl hp hxn
  have C2 : Hid (∀ w1, G w1 → Calls Tryd.prog 14 #[.string (s ++ t), .int .i64 i] w1 fun e w' => ∃ g cap : Nat, e = .returned (.tuple #[.slice (some ⟨g, 0, none⟩) n cap, .bool true]) ∧ OpsRow w' g ys ∧ g < w'.heap.size ∧ w1.heap.size ≤ g ∧ Below w1.heap.size w1 w') := fun w1 h => iparse_row (s ++ t) _ i w1 ys n h hsz h0 (by omega) rfl hp2 hyn
  have HS : Hid (∀ (k : Nat) (x : IOp), xs[k]? = some x → 0 ≤ x.st ∧ x.st ≤ 4096) := fun k x hx => by
    have h5 := st_bounds hp hx
    rw [← size_data] at h5
    exact ⟨h5.1, by omega⟩
  have HB := hide hb
  have H2 := hide h2
  have HXN := hide hxn
  have HYN := hide hyn
  clear hb hp hp2 hsz h2 hxn hyn
  go_enter Tryd.func6, Tryd.ntmps6
  go_wp2_with fail
  refine (call_yes i _ h0 h1).mono ?_
  rintro x w2 ⟨rfl, rfl⟩
  go_wp2
  go_loopg [36] (s.size + 1) (fun g s36 wr => ∃ k : Nat, k ≤ s.size ∧ s.size - k < g ∧ s36 = .int .i64 k ∧ Below w.heap.size w wr)
  case atStart => exact ⟨0, Nat.zero_le _, by omega, rfl, Below.refl _ _⟩
  case round =>
    obtain ⟨k, hk, hG, rfl, hB⟩ := hrel
    by_cases hlt : k < s.size
    · have hj0 : (0 : Int) ≤ (k : Int) := by omega
      have hj1 : (k : Int) < (s.size : Int) := by omega
      have hc : s[k] ≠ 37 := fun e => unhide HB (by
        rw [← e]
        exact List.getElem_mem (l := s.data.toList) (n := k) (by rw [← size_data]; exact hlt))
      have hne : ((s[k].toNat : Int) == 37) = false := by rw [beq_eq_false_iff_ne]; intro e5; exact hc (UInt8.toNat_inj.1 (by simpa using Int.ofNat.inj e5))
      clear hc
      go_wp2
      go_roundg (gk - 1)
      case measure => omega
      case rel => exact ⟨k + 1, by omega, by omega, by go_num, hB⟩
    · have hd : decide (k < s.size) = false := decide_eq_false hlt
      have hG1 := hGw.step hB
      have hsz1 := hB.size
      go_wp2_with fail
      refine (unhide C1 _ hG1).mono ?_
      rintro x w3 ⟨g, cg, rfl, hr3, hg3, hg3', hb3⟩
      have hG3 := hG1.step hb3
      have HR3 := hide hr3
      clear hr3
      go_wp2_with fail
      refine (unhide C2 _ hG3).mono ?_
      rintro x w4 ⟨h, ch, rfl, hr4, hh4, hh4', hb4⟩
      have hG4 := hG3.step hb4
      have HT : Hid (Two w w.heap.size w4.heap.size g h xs ys w4) := ⟨(unhide HR3).below hb4 hg3, hr4, Nat.lt_of_lt_of_le hg3 hb4.size, hh4, Nat.le_trans hsz1 (Nat.le_trans hb3.size hb4.size), Nat.le_refl _, (hB.trans (hb3.mono hsz1)).trans (hb4.mono (Nat.le_trans hsz1 hb3.size))⟩
      have hG0 : G w4 := hG4
      clear hr4 HR3 hg3 hg3' hb3 hh4 hh4' hb4 hG3 hG1 hB hd hlt hk hG hsz1 hG4
      go_wp2_with fail
      go_loopg [71] (n + 1) (fun f s71 wr => ∃ k : Nat, k ≤ n ∧ n - k < f ∧ s71 = .int .i64 k ∧ Hid (Two w w.heap.size w4.heap.size g h xs ys wr))
      case atStart => exact ⟨0, Nat.zero_le _, by omega, rfl, HT⟩
      case round =>
        obtain ⟨k2, hk, hG, rfl, hR⟩ := hrel
        clear HT
        by_cases hlt : k2 < n
        · have hj0 : (0 : Int) ≤ (k2 : Int) := by omega
          have hj1 : (k2 : Int) < (n : Int) := by omega
          obtain ⟨x, hx⟩ : ∃ x, xs[k2]? = some x := ⟨xs[k2]'(by have := unhide HXN; omega), List.getElem?_eq_getElem _⟩
          obtain ⟨y, hy⟩ : ∃ y, ys[k2]? = some y := ⟨ys[k2]'(by have := unhide HYN; omega), List.getElem?_eq_getElem _⟩
          have hm := (unhide H2).2 k2 x y hx hy
          obtain ⟨hs0, hs1⟩ := unhide HS k2 x hx
          obtain ⟨text', st, en, fl', vb', vs, ve, ix', arg', ⟨v1, v2, v3, v4, v5⟩, ⟨p1, p2, p3, p4, p5⟩⟩ := x
          obtain ⟨text, st', en2, fl, vb, vs2, ve2, ix, arg, ⟨y1, y2, y3, y4, y5⟩, ⟨z1, z2, z3, z4, z5⟩⟩ := y
          replace hs0 : 0 ≤ st := hs0
          replace hs1 : st ≤ 4096 := hs1
          obtain ⟨m1, m2, m3, m4, m5, m6⟩ := hm
          replace m1 : text = text' := m1
          replace m2 : st + s.size = st' := m2
          replace m3 : arg = arg' := m3
          replace m4 : vb = vb' := m4
          replace m5 : fl = fl' := m5
          replace m6 : ix = ix' := m6
          subst m1
          subst m2
          subst m3
          subst m4
          subst m5
          subst m6
          have hT := unhide hR
          have HT := hide hT
          clear hT
          go_upto_region 22 with fail
          go_cut [13, 14] (fun s13 s14 wx => ∃ p q : Nat, s13 = .pointer (some ⟨p, 0, none⟩) ∧ s14 = .pointer (some ⟨q, 0, none⟩) ∧ Hid (Blk wx p 32 #[.string text, .int .i64 st, .int .i64 en, .string fl, .int .i32 vb, .int .i64 vs, .int .i64 ve, .int .i64 ix, .int .i64 arg, .int .i64 v1, .int .i64 v2, .int .i64 v3, .int .i64 v4, .int .i64 v5, .int .i64 p1, .int .i64 p2, .int .i64 p3, .int .i64 p4, .int .i64 p5] ∧ Blk wx q 32 #[.string text, .int .i64 (st + s.size), .int .i64 en2, .string fl, .int .i32 vb, .int .i64 vs2, .int .i64 ve2, .int .i64 ix, .int .i64 arg, .int .i64 y1, .int .i64 y2, .int .i64 y3, .int .i64 y4, .int .i64 y5, .int .i64 z1, .int .i64 z2, .int .i64 z3, .int .i64 z4, .int .i64 z5] ∧ Two w w.heap.size w4.heap.size g h xs ys wx))
          case first =>
            have hT := unhide HT
            clear HT hR
            refine wp_region_held_drew (S := fun W => Two w w.heap.size w4.heap.size g h xs ys W) (by kernel_rfl) hT.drew ?_
            intro hS
            clear hT
            generalize wr.drew = W0 at hS ⊢
            refine wpAnyH_pre (fuel := 4) (by kernel_rfl) (fun _ _ d _ _ h => by cases d <;> exact h) [0, 1, 2, 3, 4, 5, 6, 7] _ _ _ (by kernel_rfl) hS ?_
            refine Pre.step (v := ?_) rfl ?_ ?_ ?_
            rotate_left
            · rfl
            · intro w9 hS9; clear hS9; go_simp; try with_reducible rfl
            simp only [Act.put, List.getElem_toArray, List.getElem_cons_zero, List.setIfInBounds_toArray, List.set_cons_zero, List.set_cons_succ]
            refine Pre.step (v := ?_) rfl ?_ ?_ ?_
            rotate_left
            · rfl
            · intro w9 hS9; clear hS9; go_simp; try with_reducible rfl
            simp only [Act.put, List.getElem_toArray, List.getElem_cons_zero, List.getElem_cons_succ, List.setIfInBounds_toArray, List.set_cons_zero, List.set_cons_succ]
            refine Pre.step (v := ?_) rfl ?_ ?_ ?_
            rotate_left
            · rfl
            · intro w9 hS9; clear hS9; go_simp; try with_reducible rfl
            simp only [Act.put, List.getElem_toArray, List.getElem_cons_zero, List.getElem_cons_succ, List.setIfInBounds_toArray, List.set_cons_zero, List.set_cons_succ]
            refine ⟨_, .agg (#[.string text, .int .i64 st, .int .i64 en, .string fl, .int .i32 vb, .int .i64 vs, .int .i64 ve, .int .i64 ix, .int .i64 arg, .int .i64 v1, .int .i64 v2, .int .i64 v3, .int .i64 v4, .int .i64 v5, .int .i64 p1, .int .i64 p2, .int .i64 p3, .int .i64 p4, .int .i64 p5] : Array Value).toList.toArray, rfl, yieldsIf_load_mid (by rfl) 32 _ rfl g (k2 * 19) (by rfl) _ _ (fun W hW => hW.rx.range hx) Tryd.underlying32 rfl (by kernel_rfl), ?_⟩
            simp only [Act.put, List.getElem_toArray, List.getElem_cons_zero, List.getElem_cons_succ, List.setIfInBounds_toArray, List.set_cons_zero, List.set_cons_succ]
            refine Pre.step (v := ?_) rfl ?_ ?_ ?_
            rotate_left
            · rfl
            · intro w9 hS9; clear hS9; go_simp; try with_reducible rfl
            simp only [Act.put, List.getElem_toArray, List.getElem_cons_zero, List.getElem_cons_succ, List.setIfInBounds_toArray, List.set_cons_zero, List.set_cons_succ]
            refine Pre.step (v := ?_) rfl ?_ ?_ ?_
            rotate_left
            · rfl
            · intro w9 hS9; clear hS9; go_simp; try with_reducible rfl
            simp only [Act.put, List.getElem_toArray, List.getElem_cons_zero, List.getElem_cons_succ, List.setIfInBounds_toArray, List.set_cons_zero, List.set_cons_succ]
            refine Pre.step (v := ?_) rfl ?_ ?_ ?_
            rotate_left
            · rfl
            · intro w9 hS9; clear hS9; go_simp; try with_reducible rfl
            simp only [Act.put, List.getElem_toArray, List.getElem_cons_zero, List.getElem_cons_succ, List.setIfInBounds_toArray, List.set_cons_zero, List.set_cons_succ]
            refine ⟨_, .agg (#[.string text, .int .i64 (st + s.size), .int .i64 en2, .string fl, .int .i32 vb, .int .i64 vs2, .int .i64 ve2, .int .i64 ix, .int .i64 arg, .int .i64 y1, .int .i64 y2, .int .i64 y3, .int .i64 y4, .int .i64 y5, .int .i64 z1, .int .i64 z2, .int .i64 z3, .int .i64 z4, .int .i64 z5] : Array Value).toList.toArray, rfl, yieldsIf_load_mid (by rfl) 32 _ rfl h (k2 * 19) (by rfl) _ _ (fun W hW => hW.ry.range hy) Tryd.underlying32 rfl (by kernel_rfl), ?_⟩
            simp only [Act.put, List.getElem_toArray, List.getElem_cons_zero, List.getElem_cons_succ, List.setIfInBounds_toArray, List.set_cons_zero, List.set_cons_succ]
            refine Pre.nil ?_
            refine wpAnyH_ready (rs := [8, 9]) (by kernel_rfl) (by simp) (AllReadyH.cons rfl (fun K hK => ?_) (AllReadyH.cons rfl (fun K hK => ?_) AllReadyH.nil))
            · go_simp
              refine hK.out _ _ (hS.alloc _) (fun _ => ?_)
              clear hK K
              have hA : Blk (W0.alloc (.cells #[.string ⟨#[]⟩, .int .i64 0, .int .i64 0, .string ⟨#[]⟩, .int .i32 0, .int .i64 0, .int .i64 0, .int .i64 0, .int .i64 0, .int .i64 0, .int .i64 0, .int .i64 0, .int .i64 0, .int .i64 0, .int .i64 0, .int .i64 0, .int .i64 0, .int .i64 0, .int .i64 0] 32)) W0.heap.size 32 #[.string ⟨#[]⟩, .int .i64 0, .int .i64 0, .string ⟨#[]⟩, .int .i32 0, .int .i64 0, .int .i64 0, .int .i64 0, .int .i64 0, .int .i64 0, .int .i64 0, .int .i64 0, .int .i64 0, .int .i64 0, .int .i64 0, .int .i64 0, .int .i64 0, .int .i64 0, .int .i64 0] := Blk.new W0 32 #[.string ⟨#[]⟩, .int .i64 0, .int .i64 0, .string ⟨#[]⟩, .int .i32 0, .int .i64 0, .int .i64 0, .int .i64 0, .int .i64 0, .int .i64 0, .int .i64 0, .int .i64 0, .int .i64 0, .int .i64 0, .int .i64 0, .int .i64 0, .int .i64 0, .int .i64 0, .int .i64 0]
              have hpA : w4.heap.size ≤ W0.heap.size := hS.sz
              replace hS := hS.alloc (.cells #[.string ⟨#[]⟩, .int .i64 0, .int .i64 0, .string ⟨#[]⟩, .int .i32 0, .int .i64 0, .int .i64 0, .int .i64 0, .int .i64 0, .int .i64 0, .int .i64 0, .int .i64 0, .int .i64 0, .int .i64 0, .int .i64 0, .int .i64 0, .int .i64 0, .int .i64 0, .int .i64 0] 32)
              generalize W0.alloc (.cells #[.string ⟨#[]⟩, .int .i64 0, .int .i64 0, .string ⟨#[]⟩, .int .i32 0, .int .i64 0, .int .i64 0, .int .i64 0, .int .i64 0, .int .i64 0, .int .i64 0, .int .i64 0, .int .i64 0, .int .i64 0, .int .i64 0, .int .i64 0, .int .i64 0, .int .i64 0, .int .i64 0] 32) = W1 at hA hS ⊢
              generalize W0.heap.size = p at hA hpA ⊢
              refine wpAnyH_ready (rs := [9]) (by kernel_rfl) (by simp) (AllReadyH.cons rfl (fun K hK => ?_) AllReadyH.nil)
              go_simp
              refine hK.out _ _ (hS.alloc _) (fun _ => ?_)
              clear hK K
              have hB : Blk (W1.alloc (.cells #[.string ⟨#[]⟩, .int .i64 0, .int .i64 0, .string ⟨#[]⟩, .int .i32 0, .int .i64 0, .int .i64 0, .int .i64 0, .int .i64 0, .int .i64 0, .int .i64 0, .int .i64 0, .int .i64 0, .int .i64 0, .int .i64 0, .int .i64 0, .int .i64 0, .int .i64 0, .int .i64 0] 32)) W1.heap.size 32 #[.string ⟨#[]⟩, .int .i64 0, .int .i64 0, .string ⟨#[]⟩, .int .i32 0, .int .i64 0, .int .i64 0, .int .i64 0, .int .i64 0, .int .i64 0, .int .i64 0, .int .i64 0, .int .i64 0, .int .i64 0, .int .i64 0, .int .i64 0, .int .i64 0, .int .i64 0, .int .i64 0] := Blk.new W1 32 #[.string ⟨#[]⟩, .int .i64 0, .int .i64 0, .string ⟨#[]⟩, .int .i32 0, .int .i64 0, .int .i64 0, .int .i64 0, .int .i64 0, .int .i64 0, .int .i64 0, .int .i64 0, .int .i64 0, .int .i64 0, .int .i64 0, .int .i64 0, .int .i64 0, .int .i64 0, .int .i64 0]
              have hpB : w4.heap.size ≤ W1.heap.size := hS.sz
              have hne : p ≠ W1.heap.size := Nat.ne_of_lt hA.lt
              replace hA := hA.alloc (.cells #[.string ⟨#[]⟩, .int .i64 0, .int .i64 0, .string ⟨#[]⟩, .int .i32 0, .int .i64 0, .int .i64 0, .int .i64 0, .int .i64 0, .int .i64 0, .int .i64 0, .int .i64 0, .int .i64 0, .int .i64 0, .int .i64 0, .int .i64 0, .int .i64 0, .int .i64 0, .int .i64 0] 32)
              replace hS := hS.alloc (.cells #[.string ⟨#[]⟩, .int .i64 0, .int .i64 0, .string ⟨#[]⟩, .int .i32 0, .int .i64 0, .int .i64 0, .int .i64 0, .int .i64 0, .int .i64 0, .int .i64 0, .int .i64 0, .int .i64 0, .int .i64 0, .int .i64 0, .int .i64 0, .int .i64 0, .int .i64 0, .int .i64 0] 32)
              generalize W1.alloc (.cells #[.string ⟨#[]⟩, .int .i64 0, .int .i64 0, .string ⟨#[]⟩, .int .i32 0, .int .i64 0, .int .i64 0, .int .i64 0, .int .i64 0, .int .i64 0, .int .i64 0, .int .i64 0, .int .i64 0, .int .i64 0, .int .i64 0, .int .i64 0, .int .i64 0, .int .i64 0, .int .i64 0] 32) = W2 at hB hS hA ⊢
              generalize W1.heap.size = q at hB hpB hne ⊢
              refine wpAnyH_ready (rs := [10]) (by kernel_rfl) (by simp) (AllReadyH.cons rfl (fun K hK => ?_) AllReadyH.nil)
              rw [if_pos (by rfl)]
              refine wp_store_mid 32 (.tmp 13) (.tmp 77) rfl p 0 #[.string text, .int .i64 st, .int .i64 en, .string fl, .int .i32 vb, .int .i64 vs, .int .i64 ve, .int .i64 ix, .int .i64 arg, .int .i64 v1, .int .i64 v2, .int .i64 v3, .int .i64 v4, .int .i64 v5, .int .i64 p1, .int .i64 p2, .int .i64 p3, .int .i64 p4, .int .i64 p5] ?_ ?_ (there_blk hA rfl) (by kernel_rfl) ?_ ?_
              · rfl
              · rfl
              · simp [Value.oneCell']
              simp only [Act.put]
              refine hK.out _ _ (hS.store hpA _) (fun _ => ?_)
              clear hK K
              replace hA : Blk (W2.setCells p 0 (#[.string text, .int .i64 st, .int .i64 en, .string fl, .int .i32 vb, .int .i64 vs, .int .i64 ve, .int .i64 ix, .int .i64 arg, .int .i64 v1, .int .i64 v2, .int .i64 v3, .int .i64 v4, .int .i64 v5, .int .i64 p1, .int .i64 p2, .int .i64 p3, .int .i64 p4, .int .i64 p5] : Array Value).toList) p 32 #[.string text, .int .i64 st, .int .i64 en, .string fl, .int .i32 vb, .int .i64 vs, .int .i64 ve, .int .i64 ix, .int .i64 arg, .int .i64 v1, .int .i64 v2, .int .i64 v3, .int .i64 v4, .int .i64 v5, .int .i64 p1, .int .i64 p2, .int .i64 p3, .int .i64 p4, .int .i64 p5] := hA.cells_all _ rfl
              replace hB := hB.cells_far (g := p) hne.symm 0 (#[.string text, .int .i64 st, .int .i64 en, .string fl, .int .i32 vb, .int .i64 vs, .int .i64 ve, .int .i64 ix, .int .i64 arg, .int .i64 v1, .int .i64 v2, .int .i64 v3, .int .i64 v4, .int .i64 v5, .int .i64 p1, .int .i64 p2, .int .i64 p3, .int .i64 p4, .int .i64 p5] : Array Value).toList
              replace hS := hS.store hpA (#[.string text, .int .i64 st, .int .i64 en, .string fl, .int .i32 vb, .int .i64 vs, .int .i64 ve, .int .i64 ix, .int .i64 arg, .int .i64 v1, .int .i64 v2, .int .i64 v3, .int .i64 v4, .int .i64 v5, .int .i64 p1, .int .i64 p2, .int .i64 p3, .int .i64 p4, .int .i64 p5] : Array Value).toList
              generalize W2.setCells p 0 (#[.string text, .int .i64 st, .int .i64 en, .string fl, .int .i32 vb, .int .i64 vs, .int .i64 ve, .int .i64 ix, .int .i64 arg, .int .i64 v1, .int .i64 v2, .int .i64 v3, .int .i64 v4, .int .i64 v5, .int .i64 p1, .int .i64 p2, .int .i64 p3, .int .i64 p4, .int .i64 p5] : Array Value).toList = W3 at hA hB hS ⊢
              refine wpAnyH_ready (rs := [11]) (by kernel_rfl) (by simp) (AllReadyH.cons rfl (fun K hK => ?_) AllReadyH.nil)
              rw [if_pos (by rfl)]
              refine wp_store_mid 32 (.tmp 14) (.tmp 81) rfl q 0 #[.string text, .int .i64 (st + s.size), .int .i64 en2, .string fl, .int .i32 vb, .int .i64 vs2, .int .i64 ve2, .int .i64 ix, .int .i64 arg, .int .i64 y1, .int .i64 y2, .int .i64 y3, .int .i64 y4, .int .i64 y5, .int .i64 z1, .int .i64 z2, .int .i64 z3, .int .i64 z4, .int .i64 z5] ?_ ?_ (there_blk hB rfl) (by kernel_rfl) ?_ ?_
              · rfl
              · rfl
              · simp [Value.oneCell']
              simp only [Act.put]
              refine hK.out _ _ (hS.store hpB _) (fun _ => ?_)
              clear hK K
              replace hB : Blk (W3.setCells q 0 (#[.string text, .int .i64 (st + s.size), .int .i64 en2, .string fl, .int .i32 vb, .int .i64 vs2, .int .i64 ve2, .int .i64 ix, .int .i64 arg, .int .i64 y1, .int .i64 y2, .int .i64 y3, .int .i64 y4, .int .i64 y5, .int .i64 z1, .int .i64 z2, .int .i64 z3, .int .i64 z4, .int .i64 z5] : Array Value).toList) q 32 #[.string text, .int .i64 (st + s.size), .int .i64 en2, .string fl, .int .i32 vb, .int .i64 vs2, .int .i64 ve2, .int .i64 ix, .int .i64 arg, .int .i64 y1, .int .i64 y2, .int .i64 y3, .int .i64 y4, .int .i64 y5, .int .i64 z1, .int .i64 z2, .int .i64 z3, .int .i64 z4, .int .i64 z5] := hB.cells_all _ rfl
              replace hA := hA.cells_far (g := q) hne 0 (#[.string text, .int .i64 (st + s.size), .int .i64 en2, .string fl, .int .i32 vb, .int .i64 vs2, .int .i64 ve2, .int .i64 ix, .int .i64 arg, .int .i64 y1, .int .i64 y2, .int .i64 y3, .int .i64 y4, .int .i64 y5, .int .i64 z1, .int .i64 z2, .int .i64 z3, .int .i64 z4, .int .i64 z5] : Array Value).toList
              replace hS := hS.store hpB (#[.string text, .int .i64 (st + s.size), .int .i64 en2, .string fl, .int .i32 vb, .int .i64 vs2, .int .i64 ve2, .int .i64 ix, .int .i64 arg, .int .i64 y1, .int .i64 y2, .int .i64 y3, .int .i64 y4, .int .i64 y5, .int .i64 z1, .int .i64 z2, .int .i64 z3, .int .i64 z4, .int .i64 z5] : Array Value).toList
              generalize W3.setCells q 0 (#[.string text, .int .i64 (st + s.size), .int .i64 en2, .string fl, .int .i32 vb, .int .i64 vs2, .int .i64 ve2, .int .i64 ix, .int .i64 arg, .int .i64 y1, .int .i64 y2, .int .i64 y3, .int .i64 y4, .int .i64 y5, .int .i64 z1, .int .i64 z2, .int .i64 z3, .int .i64 z4, .int .i64 z5] : Array Value).toList = W4 at hB hA hS ⊢
              refine wpAnyH_done (by kernel_rfl) ?_ _
              go_wp2_with fail
              go_meet
              exact ⟨p, q, rfl, rfl, hA, hB, hS⟩
            · go_simp
              refine hK.out _ _ (hS.alloc _) (fun _ => ?_)
              clear hK K
              have hB : Blk (W0.alloc (.cells #[.string ⟨#[]⟩, .int .i64 0, .int .i64 0, .string ⟨#[]⟩, .int .i32 0, .int .i64 0, .int .i64 0, .int .i64 0, .int .i64 0, .int .i64 0, .int .i64 0, .int .i64 0, .int .i64 0, .int .i64 0, .int .i64 0, .int .i64 0, .int .i64 0, .int .i64 0, .int .i64 0] 32)) W0.heap.size 32 #[.string ⟨#[]⟩, .int .i64 0, .int .i64 0, .string ⟨#[]⟩, .int .i32 0, .int .i64 0, .int .i64 0, .int .i64 0, .int .i64 0, .int .i64 0, .int .i64 0, .int .i64 0, .int .i64 0, .int .i64 0, .int .i64 0, .int .i64 0, .int .i64 0, .int .i64 0, .int .i64 0] := Blk.new W0 32 #[.string ⟨#[]⟩, .int .i64 0, .int .i64 0, .string ⟨#[]⟩, .int .i32 0, .int .i64 0, .int .i64 0, .int .i64 0, .int .i64 0, .int .i64 0, .int .i64 0, .int .i64 0, .int .i64 0, .int .i64 0, .int .i64 0, .int .i64 0, .int .i64 0, .int .i64 0, .int .i64 0]
              have hpB : w4.heap.size ≤ W0.heap.size := hS.sz
              replace hS := hS.alloc (.cells #[.string ⟨#[]⟩, .int .i64 0, .int .i64 0, .string ⟨#[]⟩, .int .i32 0, .int .i64 0, .int .i64 0, .int .i64 0, .int .i64 0, .int .i64 0, .int .i64 0, .int .i64 0, .int .i64 0, .int .i64 0, .int .i64 0, .int .i64 0, .int .i64 0, .int .i64 0, .int .i64 0] 32)
              generalize W0.alloc (.cells #[.string ⟨#[]⟩, .int .i64 0, .int .i64 0, .string ⟨#[]⟩, .int .i32 0, .int .i64 0, .int .i64 0, .int .i64 0, .int .i64 0, .int .i64 0, .int .i64 0, .int .i64 0, .int .i64 0, .int .i64 0, .int .i64 0, .int .i64 0, .int .i64 0, .int .i64 0, .int .i64 0] 32) = W1 at hB hS ⊢
              generalize W0.heap.size = q at hB hpB ⊢
              refine wpAnyH_ready (rs := [8]) (by kernel_rfl) (by simp) (AllReadyH.cons rfl (fun K hK => ?_) AllReadyH.nil)
              go_simp
              refine hK.out _ _ (hS.alloc _) (fun _ => ?_)
              clear hK K
              have hA : Blk (W1.alloc (.cells #[.string ⟨#[]⟩, .int .i64 0, .int .i64 0, .string ⟨#[]⟩, .int .i32 0, .int .i64 0, .int .i64 0, .int .i64 0, .int .i64 0, .int .i64 0, .int .i64 0, .int .i64 0, .int .i64 0, .int .i64 0, .int .i64 0, .int .i64 0, .int .i64 0, .int .i64 0, .int .i64 0] 32)) W1.heap.size 32 #[.string ⟨#[]⟩, .int .i64 0, .int .i64 0, .string ⟨#[]⟩, .int .i32 0, .int .i64 0, .int .i64 0, .int .i64 0, .int .i64 0, .int .i64 0, .int .i64 0, .int .i64 0, .int .i64 0, .int .i64 0, .int .i64 0, .int .i64 0, .int .i64 0, .int .i64 0, .int .i64 0] := Blk.new W1 32 #[.string ⟨#[]⟩, .int .i64 0, .int .i64 0, .string ⟨#[]⟩, .int .i32 0, .int .i64 0, .int .i64 0, .int .i64 0, .int .i64 0, .int .i64 0, .int .i64 0, .int .i64 0, .int .i64 0, .int .i64 0, .int .i64 0, .int .i64 0, .int .i64 0, .int .i64 0, .int .i64 0]
              have hpA : w4.heap.size ≤ W1.heap.size := hS.sz
              have hne : q ≠ W1.heap.size := Nat.ne_of_lt hB.lt
              replace hB := hB.alloc (.cells #[.string ⟨#[]⟩, .int .i64 0, .int .i64 0, .string ⟨#[]⟩, .int .i32 0, .int .i64 0, .int .i64 0, .int .i64 0, .int .i64 0, .int .i64 0, .int .i64 0, .int .i64 0, .int .i64 0, .int .i64 0, .int .i64 0, .int .i64 0, .int .i64 0, .int .i64 0, .int .i64 0] 32)
              replace hS := hS.alloc (.cells #[.string ⟨#[]⟩, .int .i64 0, .int .i64 0, .string ⟨#[]⟩, .int .i32 0, .int .i64 0, .int .i64 0, .int .i64 0, .int .i64 0, .int .i64 0, .int .i64 0, .int .i64 0, .int .i64 0, .int .i64 0, .int .i64 0, .int .i64 0, .int .i64 0, .int .i64 0, .int .i64 0] 32)
              generalize W1.alloc (.cells #[.string ⟨#[]⟩, .int .i64 0, .int .i64 0, .string ⟨#[]⟩, .int .i32 0, .int .i64 0, .int .i64 0, .int .i64 0, .int .i64 0, .int .i64 0, .int .i64 0, .int .i64 0, .int .i64 0, .int .i64 0, .int .i64 0, .int .i64 0, .int .i64 0, .int .i64 0, .int .i64 0] 32) = W2 at hA hS hB ⊢
              generalize W1.heap.size = p at hA hpA hne ⊢
              replace hne := hne.symm
              refine wpAnyH_ready (rs := [10]) (by kernel_rfl) (by simp) (AllReadyH.cons rfl (fun K hK => ?_) AllReadyH.nil)
              rw [if_pos (by rfl)]
              refine wp_store_mid 32 (.tmp 13) (.tmp 77) rfl p 0 #[.string text, .int .i64 st, .int .i64 en, .string fl, .int .i32 vb, .int .i64 vs, .int .i64 ve, .int .i64 ix, .int .i64 arg, .int .i64 v1, .int .i64 v2, .int .i64 v3, .int .i64 v4, .int .i64 v5, .int .i64 p1, .int .i64 p2, .int .i64 p3, .int .i64 p4, .int .i64 p5] ?_ ?_ (there_blk hA rfl) (by kernel_rfl) ?_ ?_
              · rfl
              · rfl
              · simp [Value.oneCell']
              simp only [Act.put]
              refine hK.out _ _ (hS.store hpA _) (fun _ => ?_)
              clear hK K
              replace hA : Blk (W2.setCells p 0 (#[.string text, .int .i64 st, .int .i64 en, .string fl, .int .i32 vb, .int .i64 vs, .int .i64 ve, .int .i64 ix, .int .i64 arg, .int .i64 v1, .int .i64 v2, .int .i64 v3, .int .i64 v4, .int .i64 v5, .int .i64 p1, .int .i64 p2, .int .i64 p3, .int .i64 p4, .int .i64 p5] : Array Value).toList) p 32 #[.string text, .int .i64 st, .int .i64 en, .string fl, .int .i32 vb, .int .i64 vs, .int .i64 ve, .int .i64 ix, .int .i64 arg, .int .i64 v1, .int .i64 v2, .int .i64 v3, .int .i64 v4, .int .i64 v5, .int .i64 p1, .int .i64 p2, .int .i64 p3, .int .i64 p4, .int .i64 p5] := hA.cells_all _ rfl
              replace hB := hB.cells_far (g := p) hne.symm 0 (#[.string text, .int .i64 st, .int .i64 en, .string fl, .int .i32 vb, .int .i64 vs, .int .i64 ve, .int .i64 ix, .int .i64 arg, .int .i64 v1, .int .i64 v2, .int .i64 v3, .int .i64 v4, .int .i64 v5, .int .i64 p1, .int .i64 p2, .int .i64 p3, .int .i64 p4, .int .i64 p5] : Array Value).toList
              replace hS := hS.store hpA (#[.string text, .int .i64 st, .int .i64 en, .string fl, .int .i32 vb, .int .i64 vs, .int .i64 ve, .int .i64 ix, .int .i64 arg, .int .i64 v1, .int .i64 v2, .int .i64 v3, .int .i64 v4, .int .i64 v5, .int .i64 p1, .int .i64 p2, .int .i64 p3, .int .i64 p4, .int .i64 p5] : Array Value).toList
              generalize W2.setCells p 0 (#[.string text, .int .i64 st, .int .i64 en, .string fl, .int .i32 vb, .int .i64 vs, .int .i64 ve, .int .i64 ix, .int .i64 arg, .int .i64 v1, .int .i64 v2, .int .i64 v3, .int .i64 v4, .int .i64 v5, .int .i64 p1, .int .i64 p2, .int .i64 p3, .int .i64 p4, .int .i64 p5] : Array Value).toList = W3 at hA hB hS ⊢
              refine wpAnyH_ready (rs := [11]) (by kernel_rfl) (by simp) (AllReadyH.cons rfl (fun K hK => ?_) AllReadyH.nil)
              rw [if_pos (by rfl)]
              refine wp_store_mid 32 (.tmp 14) (.tmp 81) rfl q 0 #[.string text, .int .i64 (st + s.size), .int .i64 en2, .string fl, .int .i32 vb, .int .i64 vs2, .int .i64 ve2, .int .i64 ix, .int .i64 arg, .int .i64 y1, .int .i64 y2, .int .i64 y3, .int .i64 y4, .int .i64 y5, .int .i64 z1, .int .i64 z2, .int .i64 z3, .int .i64 z4, .int .i64 z5] ?_ ?_ (there_blk hB rfl) (by kernel_rfl) ?_ ?_
              · rfl
              · rfl
              · simp [Value.oneCell']
              simp only [Act.put]
              refine hK.out _ _ (hS.store hpB _) (fun _ => ?_)
              clear hK K
              replace hB : Blk (W3.setCells q 0 (#[.string text, .int .i64 (st + s.size), .int .i64 en2, .string fl, .int .i32 vb, .int .i64 vs2, .int .i64 ve2, .int .i64 ix, .int .i64 arg, .int .i64 y1, .int .i64 y2, .int .i64 y3, .int .i64 y4, .int .i64 y5, .int .i64 z1, .int .i64 z2, .int .i64 z3, .int .i64 z4, .int .i64 z5] : Array Value).toList) q 32 #[.string text, .int .i64 (st + s.size), .int .i64 en2, .string fl, .int .i32 vb, .int .i64 vs2, .int .i64 ve2, .int .i64 ix, .int .i64 arg, .int .i64 y1, .int .i64 y2, .int .i64 y3, .int .i64 y4, .int .i64 y5, .int .i64 z1, .int .i64 z2, .int .i64 z3, .int .i64 z4, .int .i64 z5] := hB.cells_all _ rfl
              replace hA := hA.cells_far (g := q) hne 0 (#[.string text, .int .i64 (st + s.size), .int .i64 en2, .string fl, .int .i32 vb, .int .i64 vs2, .int .i64 ve2, .int .i64 ix, .int .i64 arg, .int .i64 y1, .int .i64 y2, .int .i64 y3, .int .i64 y4, .int .i64 y5, .int .i64 z1, .int .i64 z2, .int .i64 z3, .int .i64 z4, .int .i64 z5] : Array Value).toList
              replace hS := hS.store hpB (#[.string text, .int .i64 (st + s.size), .int .i64 en2, .string fl, .int .i32 vb, .int .i64 vs2, .int .i64 ve2, .int .i64 ix, .int .i64 arg, .int .i64 y1, .int .i64 y2, .int .i64 y3, .int .i64 y4, .int .i64 y5, .int .i64 z1, .int .i64 z2, .int .i64 z3, .int .i64 z4, .int .i64 z5] : Array Value).toList
              generalize W3.setCells q 0 (#[.string text, .int .i64 (st + s.size), .int .i64 en2, .string fl, .int .i32 vb, .int .i64 vs2, .int .i64 ve2, .int .i64 ix, .int .i64 arg, .int .i64 y1, .int .i64 y2, .int .i64 y3, .int .i64 y4, .int .i64 y5, .int .i64 z1, .int .i64 z2, .int .i64 z3, .int .i64 z4, .int .i64 z5] : Array Value).toList = W4 at hB hA hS ⊢
              refine wpAnyH_done (by kernel_rfl) ?_ _
              go_wp2_with fail
              go_meet
              exact ⟨p, q, rfl, rfl, hA, hB, hS⟩
          case rest =>
            obtain ⟨p, q, rfl, rfl, hX⟩ := hcut
            have hp' := (unhide hX).1
            have hq' := (unhide hX).2.1
            have a0 := hp'.cell 0
            have a1 := hp'.cell 1
            have a3 := hp'.cell 3
            have a4 := hp'.cell 4
            have a7 := hp'.cell 7
            have a8 := hp'.cell 8
            have b0 := hq'.cell 0
            have b1 := hq'.cell 1
            have b3 := hq'.cell 3
            have b4 := hq'.cell 4
            have b7 := hq'.cell 7
            have b8 := hq'.cell 8
            clear hp' hq'
            simp only [List.getElem?_toArray, List.getElem?_cons_zero, List.getElem?_cons_succ] at a0 a1 a3 a4 a7 a8 b0 b1 b3 b4 b7 b8
            go_wp2_with fail
            go_roundg (gk - 1)
            case measure => omega
            case rel => exact ⟨k2 + 1, by omega, by omega, by go_num, (unhide hX).2.2⟩
        · have hd : decide (k2 < n) = false := decide_eq_false hlt
          have hG5 := hG0.step (Below.refl _ _)
          clear hG5
          have hT := unhide hR
          have hG5 : G wr := hGw.step hT.bw
          have hb5 := hT.bw
          clear hT hR hG0
          go_wp2_with fail
          refine (impl0_any _ hG5).mono ?_
          rintro x w5 ⟨rfl, hb6⟩
          go_wp2
          go_ret
          exact ⟨rfl, hb5.trans (hb6.mono hb5.size)⟩
end Go.Proofs.YtjbmphfgckhaeaaDoor
