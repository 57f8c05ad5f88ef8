/-
  The walk of laws.FnIndexIsAdded: true, whatever the input. Conditions: the library's tables and sentinels; the walk of the reference's op is a premise (SopAny), paid in the last text. Its middle printed by gen_Li.py.
-/
import Derived.Test.YtjbmphfgckhaeaaDoorLp
import Derived.Test.YtjbmphfgckhaeaaDoorGi
import Derived.Deep.QuietTactic
import Derived.BigQuiet
namespace Go.Proofs.YtjbmphfgckhaeaaDoor
open Go.RowKit

/-! ### Bounds on the arguments -/
structure ArB (A : Int) (s : St) : Prop where
  a0 : 0 ≤ s.an
  a1 : s.an ≤ A
  wd : s.wd.dyn ≤ A
  pr : s.pr.dyn ≤ A
theorem ArB.idx {A : Int} {l : L} {first : Int} {s s' : St} (hA : 3147483647 ≤ A) (hf0 : 1 ≤ first) (hf1 : first ≤ 1000000000) (h : ArB A s) (he : pIdx l first s = some s') : ArB A s' := by
  obtain ⟨h1, h2, h3, h4⟩ := h
  unfold pIdx at he
  split at he
  · split at he
    · rename_i hc
      have hd := hc.2.2.2
      have hd1 := hc.2.2.1
      unfold mx32 at hd
      injection he with he
      subst he
      exact ⟨by show (0 : Int) ≤ _ + (first - 1); omega, by show (_ : Int) + (first - 1) ≤ A; omega, h3, h4⟩
    · cases he
  · injection he with he
    subst he
    exact ⟨h1, h2, h3, h4⟩
theorem ArB.sz {A : Int} {l : L} {s : St} (k : Nat) (hA : 0 ≤ A) (h : ArB A s) : ArB (A + 1) (szM k l s) := by
  obtain ⟨h1, h2, h3, h4⟩ := h
  unfold szM
  split
  · have hz : (if s.pd then (⟨-1, s.an, s.ix, s.ip - k, s.nb + 1⟩ : Sz) else ⟨-1, s.an, -1, (s.nb : Int) - k, s.nb + 1⟩).dyn ≤ A + 1 := by
      split <;> (show s.an ≤ A + 1; omega)
    unfold put
    split
    · exact ⟨by show 0 ≤ s.an + 1; omega, by show s.an + 1 ≤ A + 1; omega, hz, by show s.pr.dyn ≤ A + 1; omega⟩
    · exact ⟨by show 0 ≤ s.an + 1; omega, by show s.an + 1 ≤ A + 1; omega, by show s.wd.dyn ≤ A + 1; omega, hz⟩
  · split
    · unfold put
      split
      · exact ⟨h1, by show s.an ≤ A + 1; omega, by show (-1 : Int) ≤ A + 1; omega, by show s.pr.dyn ≤ A + 1; omega⟩
      · exact ⟨h1, by show s.an ≤ A + 1; omega, by show s.wd.dyn ≤ A + 1; omega, by show (-1 : Int) ≤ A + 1; omega⟩
    · exact ⟨h1, by show s.an ≤ A + 1; omega, by show s.wd.dyn ≤ A + 1; omega, by show s.pr.dyn ≤ A + 1; omega⟩
theorem ArB.mono {A B : Int} {s : St} (h : ArB A s) (hB : A ≤ B) : ArB B s := ⟨h.a0, Int.le_trans h.a1 hB, Int.le_trans h.wd hB, Int.le_trans h.pr hB⟩
theorem op_arb {l : L} {first an A : Int} {x : OpR} (hA : 3147483647 ≤ A) (hf0 : 1 ≤ first) (hf1 : first ≤ 1000000000) (h0 : 0 ≤ an) (h1 : an ≤ A) (he : opM l first an = some x) : ArB (A + 2) x.st := by
  have b0 : ArB A (st0 l an) := ⟨h0, h1, by show (-1 : Int) ≤ A; omega, by show (-1 : Int) ≤ A; omega⟩
  unfold opM at he
  obtain ⟨s1, he1, he⟩ := Option.bind_eq_some_iff.1 he
  obtain ⟨s3, he3, he⟩ := Option.bind_eq_some_iff.1 he
  obtain ⟨s4, he4, he⟩ := Option.bind_eq_some_iff.1 he
  have b2 := (b0.idx hA hf0 hf1 he1).sz 0 (l := l) (by omega)
  have b3 : ArB (A + 1 + 1) s3 := by
    unfold pPrec at he3
    split at he3
    · obtain ⟨s2, h2, rfl⟩ := Option.map_eq_some_iff.1 he3
      have bb : ArB (A + 1) { (szM 0 l s1) with nb := (szM 0 l s1).nb + 1 } := ⟨b2.a0, b2.a1, b2.wd, b2.pr⟩
      exact (bb.idx (by omega) hf0 hf1 h2).sz 1 (by omega)
    · injection he3 with he3
      subst he3
      exact b2.mono (by omega)
  have b4 : ArB (A + 1 + 1) s4 := by
    unfold lastIdx at he4
    split at he4
    · injection he4 with he4
      subst he4
      exact b3
    · exact b3.idx (by omega) hf0 hf1 he4
  unfold verbM at he
  split at he
  · cases he
  · injection he with he
    subst he
    exact b4.mono (by omega)
structure ArX (A : Int) (x : IOp) : Prop where
  a0 : 0 ≤ x.arg
  a1 : x.arg ≤ A
  wd : x.wd.dyn ≤ A
  pr : x.pr.dyn ≤ A
theorem from_arb (first : Int) (hf0 : 1 ≤ first) (hf1 : first ≤ 1000000000) : ∀ (f i : Nat) (l : L) (an A : Int) (xs : List IOp), 3147483647 ≤ A → 0 ≤ an → an ≤ A → parseFrom first f i l an = some xs → ∀ x ∈ xs, ArX (A + 3 * f) x
  | 0, _, _, _, _, xs, _, _, _, h, x, hx => by
    injection h with h
    subst h
    cases hx
  | f + 1, _, [], _, _, xs, _, _, _, h, x, hx => by
    injection h with h
    subst h
    cases hx
  | f + 1, i, c :: r, an, A, xs, hA, h0, h1, h, x, hx => by
    simp only [parseFrom] at h
    split at h
    · obtain ⟨y, hy, h2⟩ := Option.bind_eq_some_iff.1 h
      obtain ⟨ys, h3, rfl⟩ := Option.map_eq_some_iff.1 h2
      have hb := op_arb hA hf0 hf1 h0 h1 hy
      rcases List.mem_cons.1 hx with rfl | hx
      · have hb' := hb.mono (B := A + 3 * ((f + 1 : Nat) : Int)) (by omega)
        exact ⟨hb'.a0, hb'.a1, by show (y.st.wd.add i).dyn ≤ _; rw [(add_fix _ _).2]; exact hb'.wd, by show (y.st.pr.add i).dyn ≤ _; rw [(add_fix _ _).2]; exact hb'.pr⟩
      · have hn0 : 0 ≤ nextA y an := by
          unfold nextA
          split
          · exact h0
          · have := hb.a0; omega
        have hn1 : nextA y an ≤ A + 3 := by
          unfold nextA
          split
          · omega
          · have := hb.a1; omega
        have ih := from_arb first hf0 hf1 f _ _ _ (A + 3) ys (by omega) hn0 hn1 h3 x hx
        exact ⟨ih.a0, by have := ih.a1; omega, by have := ih.wd; omega, by have := ih.pr; omega⟩
    · have ih := from_arb first hf0 hf1 f _ _ _ A xs hA h0 h1 h x hx
      exact ⟨ih.a0, by have := ih.a1; omega, by have := ih.wd; omega, by have := ih.pr; omega⟩
theorem parse_arb {l : L} {idx : Int} {xs : List IOp} (h0 : 0 ≤ idx) (h1 : idx ≤ 1000) (hl : l.length ≤ 4096) (h : parseM l idx = some xs) {k : Nat} {x : IOp} (hx : xs[k]? = some x) : ArX 4000000000 x := by
  unfold parseM at h
  split at h
  · have hb := from_arb (idx + 1) (by omega) (by omega) _ _ _ _ 3147483647 xs (by omega) (by omega) (by omega) h x (List.mem_of_getElem? hx)
    exact ⟨hb.a0, by have := hb.a1; omega, by have := hb.wd; omega, by have := hb.pr; omega⟩
  · cases h

theorem Two.drewN {w W : World} {b n0 g h : Nat} {xs ys : List IOp} (t : Two w b n0 g h xs ys W) (n : Nat) : Two w b n0 g h xs ys (W.drewN n) := ⟨t.rx, t.ry, t.gl, t.hl, t.bl, t.sz, below_drewN t.bw n⟩
/-! ### The walk -/
set_option maxRecDepth 100000 in
set_option maxHeartbeats 1600000 in
theorem moved_any (c m : Nat) (a b : Int) (w : World) (hc : w.cell? ⟨c, 0, none⟩ = some (.int .i64 m)) (hm : MvD m a b) (ha : a ≤ 4000000000) (hm1 : m ≤ 1000) :
    Calls Tryd.prog 15 #[.int .i64 a, .int .i64 b, .pointer (some ⟨c, 0, none⟩)] w fun e w' => e = .returned (.bool true) ∧ w' = w := by
  rcases hm with ⟨h1, rfl⟩ | ⟨h1, rfl⟩
  · have d1 : decide (b < 0) = true := decide_eq_true h1
    go_enter Tryd.func15, Tryd.ntmps15
    go_wp2
    go_ret
    exact ⟨rfl, rfl⟩
  · have d1 : decide (a < 0) = false := decide_eq_false (by omega)
    have d2 : decide (a ≥ 0) = true := decide_eq_true (by omega)
    go_enter Tryd.func15, Tryd.ntmps15
    go_wp2
    go_ret
    exact ⟨rfl, rfl⟩
set_option maxRecDepth 100000 in
set_option maxHeartbeats 1600000 in
theorem ind_big (t : ByteArray) (i j : Int) (w : World) (ht : t.size ≤ maxLen) (hb : 2147483647 < t.size) :
    Calls Tryd.prog 4 #[.string t, .int .i64 i, .int .i64 j] w fun e w' => e = .returned (.bool true) ∧ Below w.heap.size w w' := by
  unfold maxLen at ht
  have d1 : decide ((t.size : Int) > 2147483647) = true := decide_eq_true (by omega)
  go_enter Tryd.func4, Tryd.ntmps4
  go_wp2
  go_ret
  exact ⟨rfl, (Below.refl _ _).alloc (Nat.le_refl _) _⟩
set_option maxRecDepth 100000 in
set_option maxHeartbeats 1600000 in
theorem ind_nocall (t : ByteArray) (i j : Int) (w : World) (ht : t.size ≤ 2147483647) (hb : i < 0 ∨ 1000 ≤ i) :
    Calls Tryd.prog 4 #[.string t, .int .i64 i, .int .i64 j] w fun e w' => e = .returned (.bool true) ∧ Below w.heap.size w w' := by
  have d2 : decide ((t.size : Int) > 2147483647) = false := decide_eq_false (by omega)
  have HB := hide hb
  clear hb
  go_enter Tryd.func4, Tryd.ntmps4
  go_wp2_with fail
  refine (call_no i _ (unhide HB)).mono ?_
  rintro x w2 ⟨rfl, rfl⟩
  go_wp2
  go_ret
  exact ⟨rfl, (Below.refl _ _).alloc (Nat.le_refl _) _⟩
set_option maxRecDepth 100000 in
set_option maxHeartbeats 1600000 in
theorem ind_nocall2 (t : ByteArray) (i j : Int) (w : World) (ht : t.size ≤ 2147483647) (h0 : 0 ≤ i) (h1 : i < 1000) (hb : j < 0 ∨ 1000 ≤ j) :
    Calls Tryd.prog 4 #[.string t, .int .i64 i, .int .i64 j] w fun e w' => e = .returned (.bool true) ∧ Below w.heap.size w w' := by
  have d2 : decide ((t.size : Int) > 2147483647) = false := decide_eq_false (by omega)
  have HB := hide hb
  clear hb
  go_enter Tryd.func4, Tryd.ntmps4
  go_wp2_with fail
  refine (call_yes i _ h0 h1).mono ?_
  rintro x w2 ⟨rfl, rfl⟩
  go_wp2_with fail
  refine (call_no j _ (unhide HB)).mono ?_
  rintro x w2 ⟨rfl, rfl⟩
  go_wp2
  go_ret
  exact ⟨rfl, (Below.refl _ _).alloc (Nat.le_refl _) _⟩
set_option maxRecDepth 100000 in
set_option maxHeartbeats 1600000 in
theorem ind_long (t : ByteArray) (i j : Int) (w : World) (ht : t.size ≤ 2147483647) (h0 : 0 ≤ i) (h1 : i < 1000) (k0 : 0 ≤ j) (k1 : j < 1000) (hb : 4096 < t.size) :
    Calls Tryd.prog 4 #[.string t, .int .i64 i, .int .i64 j] w fun e w' => e = .returned (.bool true) ∧ Below w.heap.size w w' := by
  have d2 : decide ((t.size : Int) > 2147483647) = false := decide_eq_false (by omega)
  have d3 : decide ((t.size : Int) > 4096) = true := decide_eq_true (by omega)
  go_enter Tryd.func4, Tryd.ntmps4
  go_wp2_with fail
  refine (call_yes i _ h0 h1).mono ?_
  rintro x w2 ⟨rfl, rfl⟩
  go_wp2_with fail
  refine (call_yes j _ k0 k1).mono ?_
  rintro x w2 ⟨rfl, rfl⟩
  go_wp2
  go_ret
  exact ⟨rfl, (Below.refl _ _).alloc (Nat.le_refl _) _⟩
set_option maxRecDepth 100000 in
set_option maxHeartbeats 1600000 in
theorem ind_not (t : ByteArray) (i j : Int) (w : World) (ht : t.size ≤ 4096) (h0 : 0 ≤ i) (h1 : i < 1000) (k0 : 0 ≤ j) (k1 : j < 1000) (k : Int) (hk : (k != 0) = true) (hG : G w)
    (C1 : Hid (∀ w1, G w1 → Calls Tryd.prog 13 #[.string t, .int .i64 i] w1 fun e w' => e = .returned (.tuple #[.slice none 0 0, .int .i64 k]) ∧ Below w1.heap.size w1 w')) :
    Calls Tryd.prog 4 #[.string t, .int .i64 i, .int .i64 j] w fun e w' => e = .returned (.bool true) ∧ Below w.heap.size w w' := by
  have d2 : decide ((t.size : Int) > 2147483647) = false := decide_eq_false (by omega)
  have d3 : decide ((t.size : Int) > 4096) = false := decide_eq_false (by omega)
  have hB0 : Below w.heap.size w (w.alloc (.cells #[.int .i64 j] 3)) := (Below.refl _ _).alloc (Nat.le_refl _) _
  have hG0 := hG.step hB0
  go_enter Tryd.func4, Tryd.ntmps4
  go_wp2_with fail
  refine (call_yes i _ h0 h1).mono ?_
  rintro x w2 ⟨rfl, rfl⟩
  go_wp2_with fail
  refine (call_yes j _ k0 k1).mono ?_
  rintro x w2 ⟨rfl, rfl⟩
  go_wp2_with fail
  refine (unhide C1 _ hG0).mono ?_
  rintro x w3 ⟨rfl, hb3⟩
  have HB3 := hide (hB0.trans (hb3.mono hB0.size))
  clear hb3
  go_wp2
  go_ret
  exact ⟨rfl, unhide HB3⟩

set_option maxRecDepth 100000 in
set_option maxHeartbeats 12800000 in
theorem ind_good (hop : SopAny) (t : ByteArray) (i : Int) (m : Nat) (w : World) (hGw : G w) (ht : t.size ≤ 4096) (h0 : 0 ≤ i) (h1 : i < 1000) (k1 : m < 1000) (os : List SO) (hp : spParse t.data.toList i = .good os) :
    Calls Tryd.prog 4 #[.string t, .int .i64 i, .int .i64 m] w fun e w' => e = .returned (.bool true) ∧ Below w.heap.size w w' := by
  have d2 : decide ((t.size : Int) > 2147483647) = false := decide_eq_false (by omega)
  have d3 : decide ((t.size : Int) > 4096) = false := decide_eq_false (by omega)
  obtain ⟨xs, hx, hm⟩ := sp_good hp
  obtain ⟨n, hxn⟩ : ∃ n, xs.length = n := ⟨_, rfl⟩
  have hon : os.length = n := by rw [hm.1, hxn]
  have hn0 : 0 < n := by rw [← hxn]; exact parse_ne hx
  obtain ⟨ys, hy, h2⟩ := (plain_index t.data.toList i m h0).some_iff hx
  have hyn : ys.length = n := by rw [← h2.1, hxn]
  have hnn : n ≤ 100000 := by
    have hx' := hx
    unfold parseM at hx'
    split at hx'
    · have := iop_len _ _ _ _ _ _ hx'
      rw [← size_data] at this
      omega
    · cases hx'
  have C0 : Hid (∀ w1, G w1 → Calls Tryd.prog 13 #[.string t, .int .i64 i] w1 fun e w' => ∃ g cap : Nat, e = .returned (.tuple #[.slice (some ⟨g, 0, none⟩) n cap, .int .i64 0]) ∧ SosRow w' g os ∧ g < w'.heap.size ∧ Below w1.heap.size w1 w') := fun w1 h => sparse_row hop t i w1 h ht h0 (by omega) os n hp hon hn0
  have C1 : Hid (∀ w1, G w1 → Calls Tryd.prog 14 #[.string t, .int .i64 i] w1 fun e w' => ∃ g cap : Nat, e = .returned (.tuple #[.slice (some ⟨g, 0, none⟩) n cap, .bool true]) ∧ OpsRow w' g xs ∧ g < w'.heap.size ∧ w1.heap.size ≤ g ∧ Below w1.heap.size w1 w') := fun w1 h => iparse_row t _ i w1 xs n h (by omega) h0 (by omega) rfl hx hxn
  have C2 : Hid (∀ w1, G w1 → Calls Tryd.prog 14 #[.string t, .int .i64 (i + m)] w1 fun e w' => ∃ g cap : Nat, e = .returned (.tuple #[.slice (some ⟨g, 0, none⟩) n cap, .bool true]) ∧ OpsRow w' g ys ∧ g < w'.heap.size ∧ w1.heap.size ≤ g ∧ Below w1.heap.size w1 w') := fun w1 h => iparse_row t _ (i + m) w1 ys n h (by omega) (by omega) (by omega) rfl hy hyn
  have HS : Hid (∀ (k : Nat) (x : IOp), xs[k]? = some x → ArX 4000000000 x) := fun k x hk => parse_arb h0 (by omega) (by rw [← size_data]; exact ht) hx hk
  have H2 := hide h2
  have HXN := hide hxn
  have HYN := hide hyn
  have hB0 : Below w.heap.size w (w.alloc (.cells #[.int .i64 m] 3)) := (Below.refl _ _).alloc (Nat.le_refl _) _
  have hG0 := hGw.step hB0
  have hmf : ∀ (fn : Fn) (first cap : Array Value) (w : World), (Instr.makeFunc fn first cap).run Tryd.prog w = .ok (.func fn first cap) w := fun _ _ _ _ => rfl
  have HCE : Hid ((w.alloc (.cells #[.int .i64 m] 3)).cell? ⟨w.heap.size, 0, none⟩ = some (.int .i64 m)) := (Blk.new w 3 #[.int .i64 m]).cell 0
  have HSZ : Hid (w.heap.size < (w.alloc (.cells #[.int .i64 m] 3)).heap.size) := by show _ < _; simp
  clear hp hx hm hxn hon hy h2 hyn
  go_enter Tryd.func4, Tryd.ntmps4
  go_wp2_with fail
  refine (call_yes i _ h0 h1).mono ?_
  rintro x w2 ⟨rfl, rfl⟩
  go_wp2_with fail
  refine (call_yes m _ (by omega) (by omega)).mono ?_
  rintro x w2 ⟨rfl, rfl⟩
  generalize w.alloc (.cells #[.int .i64 m] 3) = W0 at hB0 hG0 HCE HSZ ⊢
  go_wp2_with fail
  refine (unhide C0 _ hG0).mono ?_
  rintro x w4 ⟨g0, cg0, rfl, hr0, _, hb4⟩
  clear hr0
  have hG4 := hG0.step hb4
  have c5 : w4.cell? ⟨w.heap.size, 0, none⟩ = some (.int .i64 m) := by
    rw [hb4.cell (p := ⟨w.heap.size, 0, none⟩) (unhide HSZ)]
    exact unhide HCE
  go_wp2_with fail
  refine (unhide C1 _ hG4).mono ?_
  rintro x w5 ⟨g, cg, rfl, hr5, hg5, _, hb5⟩
  have hG5 := hG4.step hb5
  have hb5' := hb4.trans (hb5.mono hb4.size)
  clear c5
  have c5 : w5.cell? ⟨w.heap.size, 0, none⟩ = some (.int .i64 m) := by
    rw [hb5'.cell (p := ⟨w.heap.size, 0, none⟩) (unhide HSZ)]
    exact unhide HCE
  have HR5 := hide hr5
  clear hr5
  go_wp2_with fail
  refine (unhide C2 _ hG5).mono ?_
  rintro x w6 ⟨h, ch, rfl, hr6, hh6, _, hb6⟩
  have HT : Hid (Two W0 W0.heap.size w6.heap.size g h xs ys w6) := ⟨(unhide HR5).below hb6 hg5, hr6, Nat.lt_of_lt_of_le hg5 hb6.size, hh6, Nat.le_trans hb5'.size hb6.size, Nat.le_refl _, hb5'.trans (hb6.mono hb5'.size)⟩
  have HB0 := hide hB0
  clear c5 hr6 HR5 hg5 hh6 hb4 hb5 hb6 hb5' hG4 hG5 hB0
  go_wp2_with fail
  go_loopg [71] (n + 1) (fun f s71 wr => ∃ k : Nat, k ≤ n ∧ n - k < f ∧ s71 = .int .i64 k ∧ Hid (Two W0 W0.heap.size w6.heap.size g h xs ys wr))
  case atStart => exact ⟨0, Nat.zero_le _, by omega, rfl, HT⟩
  case round =>
    obtain ⟨k2, hk, hG, rfl, hR⟩ := hrel
    clear HT
    by_cases hlt : k2 < n
    · have hj0 : (0 : Int) ≤ (k2 : Int) := by omega
      have hj1 : (k2 : Int) < (n : Int) := by omega
      obtain ⟨x, hx⟩ : ∃ x, xs[k2]? = some x := ⟨xs[k2]'(by have := unhide HXN; omega), List.getElem?_eq_getElem _⟩
      obtain ⟨y, hy⟩ : ∃ y, ys[k2]? = some y := ⟨ys[k2]'(by have := unhide HYN; omega), List.getElem?_eq_getElem _⟩
      have hm := (unhide H2).2 k2 x y hx hy
      obtain ⟨ha0, ha1, ha2, ha3⟩ := unhide HS k2 x hx
      obtain ⟨text', st', en, fl, vb', vs, ve, ix', arg, ⟨v1', v2, v3, v4, v5⟩, ⟨p1', p2, p3, p4, p5⟩⟩ := x
      replace ha0 : 0 ≤ arg := ha0
      replace ha1 : arg ≤ 4000000000 := ha1
      replace ha2 : v2 ≤ 4000000000 := ha2
      replace ha3 : p2 ≤ 4000000000 := ha3
      obtain ⟨text, st, en2, fl2, vb, vs2, ve2, ix, arg', ⟨v1, y2, y3, y4, y5⟩, ⟨p1, z2, z3, z4, z5⟩⟩ := y
      obtain ⟨m1, m2, m3, m4, m5, m6, m7, m8, m9⟩ := hm
      replace m1 : text = text' := m1
      replace m2 : st = st' := m2
      replace m3 : ix = ix' := m3
      replace m4 : vb = vb' := m4
      replace m5 : arg' = arg + m := m5
      replace m6 : v1 = v1' := m6
      replace m7 : MvD m v2 y2 := m7
      replace m8 : p1 = p1' := m8
      replace m9 : MvD m p2 z2 := m9
      subst m1
      subst m2
      subst m3
      subst m4
      subst m5
      subst m6
      subst m8
      have HM7 := hide m7
      have HM9 := hide m9
      clear m7 m9
      go_upto_region 16 with fail
      go_cut [15, 16] (fun s15 s16 wx => ∃ p q : Nat, s15 = .pointer (some ⟨p, 0, none⟩) ∧ s16 = .pointer (some ⟨q, 0, none⟩) ∧ Hid (Blk wx p 32 #[.string text, .int .i64 st, .int .i64 en, .string fl, .int .i32 vb, .int .i64 vs, .int .i64 ve, .int .i64 ix, .int .i64 arg, .int .i64 v1, .int .i64 v2, .int .i64 v3, .int .i64 v4, .int .i64 v5, .int .i64 p1, .int .i64 p2, .int .i64 p3, .int .i64 p4, .int .i64 p5] ∧ Blk wx q 32 #[.string text, .int .i64 st, .int .i64 en2, .string fl2, .int .i32 vb, .int .i64 vs2, .int .i64 ve2, .int .i64 ix, .int .i64 (arg + (m : Int)), .int .i64 v1, .int .i64 y2, .int .i64 y3, .int .i64 y4, .int .i64 y5, .int .i64 p1, .int .i64 z2, .int .i64 z3, .int .i64 z4, .int .i64 z5] ∧ Two W0 W0.heap.size w6.heap.size g h xs ys wx))
      case first =>
        have hT := unhide hR
        clear hR
        refine wp_region_held_drew (S := fun W => Two W0 W0.heap.size w6.heap.size g h xs ys W) (by kernel_rfl) hT.drew ?_
        intro hS
        clear hT
        generalize wr.drew = W0 at hS ⊢
        refine wpAnyH_pre (fuel := 4) (by kernel_rfl) (fun _ _ d _ _ h => by cases d <;> exact h) [0, 1, 2, 3, 4, 5, 6, 7] _ _ _ (by kernel_rfl) hS ?_
        refine Pre.step (v := ?_) rfl ?_ ?_ ?_
        rotate_left
        · rfl
        · intro w9 hS9; clear hS9; go_simp; try with_reducible rfl
        simp only [Act.put, List.getElem_toArray, List.getElem_cons_zero, List.setIfInBounds_toArray, List.set_cons_zero, List.set_cons_succ]
        refine Pre.step (v := ?_) rfl ?_ ?_ ?_
        rotate_left
        · rfl
        · intro w9 hS9; clear hS9; go_simp; try with_reducible rfl
        simp only [Act.put, List.getElem_toArray, List.getElem_cons_zero, List.getElem_cons_succ, List.setIfInBounds_toArray, List.set_cons_zero, List.set_cons_succ]
        refine Pre.step (v := ?_) rfl ?_ ?_ ?_
        rotate_left
        · rfl
        · intro w9 hS9; clear hS9; go_simp; try with_reducible rfl
        simp only [Act.put, List.getElem_toArray, List.getElem_cons_zero, List.getElem_cons_succ, List.setIfInBounds_toArray, List.set_cons_zero, List.set_cons_succ]
        refine ⟨_, .agg (#[.string text, .int .i64 st, .int .i64 en, .string fl, .int .i32 vb, .int .i64 vs, .int .i64 ve, .int .i64 ix, .int .i64 arg, .int .i64 v1, .int .i64 v2, .int .i64 v3, .int .i64 v4, .int .i64 v5, .int .i64 p1, .int .i64 p2, .int .i64 p3, .int .i64 p4, .int .i64 p5] : Array Value).toList.toArray, rfl, yieldsIf_load_mid (by rfl) 32 _ rfl g (k2 * 19) (by rfl) _ _ (fun W hW => hW.rx.range hx) Tryd.underlying32 rfl (by kernel_rfl), ?_⟩
        simp only [Act.put, List.getElem_toArray, List.getElem_cons_zero, List.getElem_cons_succ, List.setIfInBounds_toArray, List.set_cons_zero, List.set_cons_succ]
        refine Pre.step (v := ?_) rfl ?_ ?_ ?_
        rotate_left
        · rfl
        · intro w9 hS9; clear hS9; go_simp; try with_reducible rfl
        simp only [Act.put, List.getElem_toArray, List.getElem_cons_zero, List.getElem_cons_succ, List.setIfInBounds_toArray, List.set_cons_zero, List.set_cons_succ]
        refine Pre.step (v := ?_) rfl ?_ ?_ ?_
        rotate_left
        · rfl
        · intro w9 hS9; clear hS9; go_simp; try with_reducible rfl
        simp only [Act.put, List.getElem_toArray, List.getElem_cons_zero, List.getElem_cons_succ, List.setIfInBounds_toArray, List.set_cons_zero, List.set_cons_succ]
        refine Pre.step (v := ?_) rfl ?_ ?_ ?_
        rotate_left
        · rfl
        · intro w9 hS9; clear hS9; go_simp; try with_reducible rfl
        simp only [Act.put, List.getElem_toArray, List.getElem_cons_zero, List.getElem_cons_succ, List.setIfInBounds_toArray, List.set_cons_zero, List.set_cons_succ]
        refine ⟨_, .agg (#[.string text, .int .i64 st, .int .i64 en2, .string fl2, .int .i32 vb, .int .i64 vs2, .int .i64 ve2, .int .i64 ix, .int .i64 (arg + (m : Int)), .int .i64 v1, .int .i64 y2, .int .i64 y3, .int .i64 y4, .int .i64 y5, .int .i64 p1, .int .i64 z2, .int .i64 z3, .int .i64 z4, .int .i64 z5] : Array Value).toList.toArray, rfl, yieldsIf_load_mid (by rfl) 32 _ rfl h (k2 * 19) (by rfl) _ _ (fun W hW => hW.ry.range hy) Tryd.underlying32 rfl (by kernel_rfl), ?_⟩
        simp only [Act.put, List.getElem_toArray, List.getElem_cons_zero, List.getElem_cons_succ, List.setIfInBounds_toArray, List.set_cons_zero, List.set_cons_succ]
        refine Pre.nil ?_
        refine wpAnyH_ready (rs := [8, 9]) (by kernel_rfl) (by simp) (AllReadyH.cons rfl (fun K hK => ?_) (AllReadyH.cons rfl (fun K hK => ?_) AllReadyH.nil))
        · go_simp
          refine hK.out _ _ (hS.alloc _) (fun _ => ?_)
          clear hK K
          have hA : Blk (W0.alloc (.cells #[.string ⟨#[]⟩, .int .i64 0, .int .i64 0, .string ⟨#[]⟩, .int .i32 0, .int .i64 0, .int .i64 0, .int .i64 0, .int .i64 0, .int .i64 0, .int .i64 0, .int .i64 0, .int .i64 0, .int .i64 0, .int .i64 0, .int .i64 0, .int .i64 0, .int .i64 0, .int .i64 0] 32)) W0.heap.size 32 #[.string ⟨#[]⟩, .int .i64 0, .int .i64 0, .string ⟨#[]⟩, .int .i32 0, .int .i64 0, .int .i64 0, .int .i64 0, .int .i64 0, .int .i64 0, .int .i64 0, .int .i64 0, .int .i64 0, .int .i64 0, .int .i64 0, .int .i64 0, .int .i64 0, .int .i64 0, .int .i64 0] := Blk.new W0 32 #[.string ⟨#[]⟩, .int .i64 0, .int .i64 0, .string ⟨#[]⟩, .int .i32 0, .int .i64 0, .int .i64 0, .int .i64 0, .int .i64 0, .int .i64 0, .int .i64 0, .int .i64 0, .int .i64 0, .int .i64 0, .int .i64 0, .int .i64 0, .int .i64 0, .int .i64 0, .int .i64 0]
          have hpA : w6.heap.size ≤ W0.heap.size := hS.sz
          replace hS := hS.alloc (.cells #[.string ⟨#[]⟩, .int .i64 0, .int .i64 0, .string ⟨#[]⟩, .int .i32 0, .int .i64 0, .int .i64 0, .int .i64 0, .int .i64 0, .int .i64 0, .int .i64 0, .int .i64 0, .int .i64 0, .int .i64 0, .int .i64 0, .int .i64 0, .int .i64 0, .int .i64 0, .int .i64 0] 32)
          generalize W0.alloc (.cells #[.string ⟨#[]⟩, .int .i64 0, .int .i64 0, .string ⟨#[]⟩, .int .i32 0, .int .i64 0, .int .i64 0, .int .i64 0, .int .i64 0, .int .i64 0, .int .i64 0, .int .i64 0, .int .i64 0, .int .i64 0, .int .i64 0, .int .i64 0, .int .i64 0, .int .i64 0, .int .i64 0] 32) = W1 at hA hS ⊢
          generalize W0.heap.size = p at hA hpA ⊢
          refine wpAnyH_ready (rs := [9]) (by kernel_rfl) (by simp) (AllReadyH.cons rfl (fun K hK => ?_) AllReadyH.nil)
          go_simp
          refine hK.out _ _ (hS.alloc _) (fun _ => ?_)
          clear hK K
          have hB : Blk (W1.alloc (.cells #[.string ⟨#[]⟩, .int .i64 0, .int .i64 0, .string ⟨#[]⟩, .int .i32 0, .int .i64 0, .int .i64 0, .int .i64 0, .int .i64 0, .int .i64 0, .int .i64 0, .int .i64 0, .int .i64 0, .int .i64 0, .int .i64 0, .int .i64 0, .int .i64 0, .int .i64 0, .int .i64 0] 32)) W1.heap.size 32 #[.string ⟨#[]⟩, .int .i64 0, .int .i64 0, .string ⟨#[]⟩, .int .i32 0, .int .i64 0, .int .i64 0, .int .i64 0, .int .i64 0, .int .i64 0, .int .i64 0, .int .i64 0, .int .i64 0, .int .i64 0, .int .i64 0, .int .i64 0, .int .i64 0, .int .i64 0, .int .i64 0] := Blk.new W1 32 #[.string ⟨#[]⟩, .int .i64 0, .int .i64 0, .string ⟨#[]⟩, .int .i32 0, .int .i64 0, .int .i64 0, .int .i64 0, .int .i64 0, .int .i64 0, .int .i64 0, .int .i64 0, .int .i64 0, .int .i64 0, .int .i64 0, .int .i64 0, .int .i64 0, .int .i64 0, .int .i64 0]
          have hpB : w6.heap.size ≤ W1.heap.size := hS.sz
          have hne : p ≠ W1.heap.size := Nat.ne_of_lt hA.lt
          replace hA := hA.alloc (.cells #[.string ⟨#[]⟩, .int .i64 0, .int .i64 0, .string ⟨#[]⟩, .int .i32 0, .int .i64 0, .int .i64 0, .int .i64 0, .int .i64 0, .int .i64 0, .int .i64 0, .int .i64 0, .int .i64 0, .int .i64 0, .int .i64 0, .int .i64 0, .int .i64 0, .int .i64 0, .int .i64 0] 32)
          replace hS := hS.alloc (.cells #[.string ⟨#[]⟩, .int .i64 0, .int .i64 0, .string ⟨#[]⟩, .int .i32 0, .int .i64 0, .int .i64 0, .int .i64 0, .int .i64 0, .int .i64 0, .int .i64 0, .int .i64 0, .int .i64 0, .int .i64 0, .int .i64 0, .int .i64 0, .int .i64 0, .int .i64 0, .int .i64 0] 32)
          generalize W1.alloc (.cells #[.string ⟨#[]⟩, .int .i64 0, .int .i64 0, .string ⟨#[]⟩, .int .i32 0, .int .i64 0, .int .i64 0, .int .i64 0, .int .i64 0, .int .i64 0, .int .i64 0, .int .i64 0, .int .i64 0, .int .i64 0, .int .i64 0, .int .i64 0, .int .i64 0, .int .i64 0, .int .i64 0] 32) = W2 at hB hS hA ⊢
          generalize W1.heap.size = q at hB hpB hne ⊢
          refine wpAnyH_ready (rs := [10]) (by kernel_rfl) (by simp) (AllReadyH.cons rfl (fun K hK => ?_) AllReadyH.nil)
          rw [if_pos (by rfl)]
          refine wp_store_mid 32 (.tmp 15) (.tmp 77) rfl p 0 #[.string text, .int .i64 st, .int .i64 en, .string fl, .int .i32 vb, .int .i64 vs, .int .i64 ve, .int .i64 ix, .int .i64 arg, .int .i64 v1, .int .i64 v2, .int .i64 v3, .int .i64 v4, .int .i64 v5, .int .i64 p1, .int .i64 p2, .int .i64 p3, .int .i64 p4, .int .i64 p5] ?_ ?_ (there_blk hA rfl) (by kernel_rfl) ?_ ?_
          · rfl
          · rfl
          · simp [Value.oneCell']
          simp only [Act.put]
          refine hK.out _ _ (hS.store hpA _) (fun _ => ?_)
          clear hK K
          replace hA : Blk (W2.setCells p 0 (#[.string text, .int .i64 st, .int .i64 en, .string fl, .int .i32 vb, .int .i64 vs, .int .i64 ve, .int .i64 ix, .int .i64 arg, .int .i64 v1, .int .i64 v2, .int .i64 v3, .int .i64 v4, .int .i64 v5, .int .i64 p1, .int .i64 p2, .int .i64 p3, .int .i64 p4, .int .i64 p5] : Array Value).toList) p 32 #[.string text, .int .i64 st, .int .i64 en, .string fl, .int .i32 vb, .int .i64 vs, .int .i64 ve, .int .i64 ix, .int .i64 arg, .int .i64 v1, .int .i64 v2, .int .i64 v3, .int .i64 v4, .int .i64 v5, .int .i64 p1, .int .i64 p2, .int .i64 p3, .int .i64 p4, .int .i64 p5] := hA.cells_all _ rfl
          replace hB := hB.cells_far (g := p) hne.symm 0 (#[.string text, .int .i64 st, .int .i64 en, .string fl, .int .i32 vb, .int .i64 vs, .int .i64 ve, .int .i64 ix, .int .i64 arg, .int .i64 v1, .int .i64 v2, .int .i64 v3, .int .i64 v4, .int .i64 v5, .int .i64 p1, .int .i64 p2, .int .i64 p3, .int .i64 p4, .int .i64 p5] : Array Value).toList
          replace hS := hS.store hpA (#[.string text, .int .i64 st, .int .i64 en, .string fl, .int .i32 vb, .int .i64 vs, .int .i64 ve, .int .i64 ix, .int .i64 arg, .int .i64 v1, .int .i64 v2, .int .i64 v3, .int .i64 v4, .int .i64 v5, .int .i64 p1, .int .i64 p2, .int .i64 p3, .int .i64 p4, .int .i64 p5] : Array Value).toList
          generalize W2.setCells p 0 (#[.string text, .int .i64 st, .int .i64 en, .string fl, .int .i32 vb, .int .i64 vs, .int .i64 ve, .int .i64 ix, .int .i64 arg, .int .i64 v1, .int .i64 v2, .int .i64 v3, .int .i64 v4, .int .i64 v5, .int .i64 p1, .int .i64 p2, .int .i64 p3, .int .i64 p4, .int .i64 p5] : Array Value).toList = W3 at hA hB hS ⊢
          refine wpAnyH_ready (rs := [11]) (by kernel_rfl) (by simp) (AllReadyH.cons rfl (fun K hK => ?_) AllReadyH.nil)
          rw [if_pos (by rfl)]
          refine wp_store_mid 32 (.tmp 16) (.tmp 81) rfl q 0 #[.string text, .int .i64 st, .int .i64 en2, .string fl2, .int .i32 vb, .int .i64 vs2, .int .i64 ve2, .int .i64 ix, .int .i64 (arg + (m : Int)), .int .i64 v1, .int .i64 y2, .int .i64 y3, .int .i64 y4, .int .i64 y5, .int .i64 p1, .int .i64 z2, .int .i64 z3, .int .i64 z4, .int .i64 z5] ?_ ?_ (there_blk hB rfl) (by kernel_rfl) ?_ ?_
          · rfl
          · rfl
          · simp [Value.oneCell']
          simp only [Act.put]
          refine hK.out _ _ (hS.store hpB _) (fun _ => ?_)
          clear hK K
          replace hB : Blk (W3.setCells q 0 (#[.string text, .int .i64 st, .int .i64 en2, .string fl2, .int .i32 vb, .int .i64 vs2, .int .i64 ve2, .int .i64 ix, .int .i64 (arg + (m : Int)), .int .i64 v1, .int .i64 y2, .int .i64 y3, .int .i64 y4, .int .i64 y5, .int .i64 p1, .int .i64 z2, .int .i64 z3, .int .i64 z4, .int .i64 z5] : Array Value).toList) q 32 #[.string text, .int .i64 st, .int .i64 en2, .string fl2, .int .i32 vb, .int .i64 vs2, .int .i64 ve2, .int .i64 ix, .int .i64 (arg + (m : Int)), .int .i64 v1, .int .i64 y2, .int .i64 y3, .int .i64 y4, .int .i64 y5, .int .i64 p1, .int .i64 z2, .int .i64 z3, .int .i64 z4, .int .i64 z5] := hB.cells_all _ rfl
          replace hA := hA.cells_far (g := q) hne 0 (#[.string text, .int .i64 st, .int .i64 en2, .string fl2, .int .i32 vb, .int .i64 vs2, .int .i64 ve2, .int .i64 ix, .int .i64 (arg + (m : Int)), .int .i64 v1, .int .i64 y2, .int .i64 y3, .int .i64 y4, .int .i64 y5, .int .i64 p1, .int .i64 z2, .int .i64 z3, .int .i64 z4, .int .i64 z5] : Array Value).toList
          replace hS := hS.store hpB (#[.string text, .int .i64 st, .int .i64 en2, .string fl2, .int .i32 vb, .int .i64 vs2, .int .i64 ve2, .int .i64 ix, .int .i64 (arg + (m : Int)), .int .i64 v1, .int .i64 y2, .int .i64 y3, .int .i64 y4, .int .i64 y5, .int .i64 p1, .int .i64 z2, .int .i64 z3, .int .i64 z4, .int .i64 z5] : Array Value).toList
          generalize W3.setCells q 0 (#[.string text, .int .i64 st, .int .i64 en2, .string fl2, .int .i32 vb, .int .i64 vs2, .int .i64 ve2, .int .i64 ix, .int .i64 (arg + (m : Int)), .int .i64 v1, .int .i64 y2, .int .i64 y3, .int .i64 y4, .int .i64 y5, .int .i64 p1, .int .i64 z2, .int .i64 z3, .int .i64 z4, .int .i64 z5] : Array Value).toList = W4 at hB hA hS ⊢
          refine wpAnyH_done (by kernel_rfl) ?_ _
          go_wp2_with fail
          go_meet
          exact ⟨p, q, rfl, rfl, hA, hB, hS⟩
        · go_simp
          refine hK.out _ _ (hS.alloc _) (fun _ => ?_)
          clear hK K
          have hB : Blk (W0.alloc (.cells #[.string ⟨#[]⟩, .int .i64 0, .int .i64 0, .string ⟨#[]⟩, .int .i32 0, .int .i64 0, .int .i64 0, .int .i64 0, .int .i64 0, .int .i64 0, .int .i64 0, .int .i64 0, .int .i64 0, .int .i64 0, .int .i64 0, .int .i64 0, .int .i64 0, .int .i64 0, .int .i64 0] 32)) W0.heap.size 32 #[.string ⟨#[]⟩, .int .i64 0, .int .i64 0, .string ⟨#[]⟩, .int .i32 0, .int .i64 0, .int .i64 0, .int .i64 0, .int .i64 0, .int .i64 0, .int .i64 0, .int .i64 0, .int .i64 0, .int .i64 0, .int .i64 0, .int .i64 0, .int .i64 0, .int .i64 0, .int .i64 0] := Blk.new W0 32 #[.string ⟨#[]⟩, .int .i64 0, .int .i64 0, .string ⟨#[]⟩, .int .i32 0, .int .i64 0, .int .i64 0, .int .i64 0, .int .i64 0, .int .i64 0, .int .i64 0, .int .i64 0, .int .i64 0, .int .i64 0, .int .i64 0, .int .i64 0, .int .i64 0, .int .i64 0, .int .i64 0]
          have hpB : w6.heap.size ≤ W0.heap.size := hS.sz
          replace hS := hS.alloc (.cells #[.string ⟨#[]⟩, .int .i64 0, .int .i64 0, .string ⟨#[]⟩, .int .i32 0, .int .i64 0, .int .i64 0, .int .i64 0, .int .i64 0, .int .i64 0, .int .i64 0, .int .i64 0, .int .i64 0, .int .i64 0, .int .i64 0, .int .i64 0, .int .i64 0, .int .i64 0, .int .i64 0] 32)
          generalize W0.alloc (.cells #[.string ⟨#[]⟩, .int .i64 0, .int .i64 0, .string ⟨#[]⟩, .int .i32 0, .int .i64 0, .int .i64 0, .int .i64 0, .int .i64 0, .int .i64 0, .int .i64 0, .int .i64 0, .int .i64 0, .int .i64 0, .int .i64 0, .int .i64 0, .int .i64 0, .int .i64 0, .int .i64 0] 32) = W1 at hB hS ⊢
          generalize W0.heap.size = q at hB hpB ⊢
          refine wpAnyH_ready (rs := [8]) (by kernel_rfl) (by simp) (AllReadyH.cons rfl (fun K hK => ?_) AllReadyH.nil)
          go_simp
          refine hK.out _ _ (hS.alloc _) (fun _ => ?_)
          clear hK K
          have hA : Blk (W1.alloc (.cells #[.string ⟨#[]⟩, .int .i64 0, .int .i64 0, .string ⟨#[]⟩, .int .i32 0, .int .i64 0, .int .i64 0, .int .i64 0, .int .i64 0, .int .i64 0, .int .i64 0, .int .i64 0, .int .i64 0, .int .i64 0, .int .i64 0, .int .i64 0, .int .i64 0, .int .i64 0, .int .i64 0] 32)) W1.heap.size 32 #[.string ⟨#[]⟩, .int .i64 0, .int .i64 0, .string ⟨#[]⟩, .int .i32 0, .int .i64 0, .int .i64 0, .int .i64 0, .int .i64 0, .int .i64 0, .int .i64 0, .int .i64 0, .int .i64 0, .int .i64 0, .int .i64 0, .int .i64 0, .int .i64 0, .int .i64 0, .int .i64 0] := Blk.new W1 32 #[.string ⟨#[]⟩, .int .i64 0, .int .i64 0, .string ⟨#[]⟩, .int .i32 0, .int .i64 0, .int .i64 0, .int .i64 0, .int .i64 0, .int .i64 0, .int .i64 0, .int .i64 0, .int .i64 0, .int .i64 0, .int .i64 0, .int .i64 0, .int .i64 0, .int .i64 0, .int .i64 0]
          have hpA : w6.heap.size ≤ W1.heap.size := hS.sz
          have hne : q ≠ W1.heap.size := Nat.ne_of_lt hB.lt
          replace hB := hB.alloc (.cells #[.string ⟨#[]⟩, .int .i64 0, .int .i64 0, .string ⟨#[]⟩, .int .i32 0, .int .i64 0, .int .i64 0, .int .i64 0, .int .i64 0, .int .i64 0, .int .i64 0, .int .i64 0, .int .i64 0, .int .i64 0, .int .i64 0, .int .i64 0, .int .i64 0, .int .i64 0, .int .i64 0] 32)
          replace hS := hS.alloc (.cells #[.string ⟨#[]⟩, .int .i64 0, .int .i64 0, .string ⟨#[]⟩, .int .i32 0, .int .i64 0, .int .i64 0, .int .i64 0, .int .i64 0, .int .i64 0, .int .i64 0, .int .i64 0, .int .i64 0, .int .i64 0, .int .i64 0, .int .i64 0, .int .i64 0, .int .i64 0, .int .i64 0] 32)
          generalize W1.alloc (.cells #[.string ⟨#[]⟩, .int .i64 0, .int .i64 0, .string ⟨#[]⟩, .int .i32 0, .int .i64 0, .int .i64 0, .int .i64 0, .int .i64 0, .int .i64 0, .int .i64 0, .int .i64 0, .int .i64 0, .int .i64 0, .int .i64 0, .int .i64 0, .int .i64 0, .int .i64 0, .int .i64 0] 32) = W2 at hA hS hB ⊢
          generalize W1.heap.size = p at hA hpA hne ⊢
          replace hne := hne.symm
          refine wpAnyH_ready (rs := [10]) (by kernel_rfl) (by simp) (AllReadyH.cons rfl (fun K hK => ?_) AllReadyH.nil)
          rw [if_pos (by rfl)]
          refine wp_store_mid 32 (.tmp 15) (.tmp 77) rfl p 0 #[.string text, .int .i64 st, .int .i64 en, .string fl, .int .i32 vb, .int .i64 vs, .int .i64 ve, .int .i64 ix, .int .i64 arg, .int .i64 v1, .int .i64 v2, .int .i64 v3, .int .i64 v4, .int .i64 v5, .int .i64 p1, .int .i64 p2, .int .i64 p3, .int .i64 p4, .int .i64 p5] ?_ ?_ (there_blk hA rfl) (by kernel_rfl) ?_ ?_
          · rfl
          · rfl
          · simp [Value.oneCell']
          simp only [Act.put]
          refine hK.out _ _ (hS.store hpA _) (fun _ => ?_)
          clear hK K
          replace hA : Blk (W2.setCells p 0 (#[.string text, .int .i64 st, .int .i64 en, .string fl, .int .i32 vb, .int .i64 vs, .int .i64 ve, .int .i64 ix, .int .i64 arg, .int .i64 v1, .int .i64 v2, .int .i64 v3, .int .i64 v4, .int .i64 v5, .int .i64 p1, .int .i64 p2, .int .i64 p3, .int .i64 p4, .int .i64 p5] : Array Value).toList) p 32 #[.string text, .int .i64 st, .int .i64 en, .string fl, .int .i32 vb, .int .i64 vs, .int .i64 ve, .int .i64 ix, .int .i64 arg, .int .i64 v1, .int .i64 v2, .int .i64 v3, .int .i64 v4, .int .i64 v5, .int .i64 p1, .int .i64 p2, .int .i64 p3, .int .i64 p4, .int .i64 p5] := hA.cells_all _ rfl
          replace hB := hB.cells_far (g := p) hne.symm 0 (#[.string text, .int .i64 st, .int .i64 en, .string fl, .int .i32 vb, .int .i64 vs, .int .i64 ve, .int .i64 ix, .int .i64 arg, .int .i64 v1, .int .i64 v2, .int .i64 v3, .int .i64 v4, .int .i64 v5, .int .i64 p1, .int .i64 p2, .int .i64 p3, .int .i64 p4, .int .i64 p5] : Array Value).toList
          replace hS := hS.store hpA (#[.string text, .int .i64 st, .int .i64 en, .string fl, .int .i32 vb, .int .i64 vs, .int .i64 ve, .int .i64 ix, .int .i64 arg, .int .i64 v1, .int .i64 v2, .int .i64 v3, .int .i64 v4, .int .i64 v5, .int .i64 p1, .int .i64 p2, .int .i64 p3, .int .i64 p4, .int .i64 p5] : Array Value).toList
          generalize W2.setCells p 0 (#[.string text, .int .i64 st, .int .i64 en, .string fl, .int .i32 vb, .int .i64 vs, .int .i64 ve, .int .i64 ix, .int .i64 arg, .int .i64 v1, .int .i64 v2, .int .i64 v3, .int .i64 v4, .int .i64 v5, .int .i64 p1, .int .i64 p2, .int .i64 p3, .int .i64 p4, .int .i64 p5] : Array Value).toList = W3 at hA hB hS ⊢
          refine wpAnyH_ready (rs := [11]) (by kernel_rfl) (by simp) (AllReadyH.cons rfl (fun K hK => ?_) AllReadyH.nil)
          rw [if_pos (by rfl)]
          refine wp_store_mid 32 (.tmp 16) (.tmp 81) rfl q 0 #[.string text, .int .i64 st, .int .i64 en2, .string fl2, .int .i32 vb, .int .i64 vs2, .int .i64 ve2, .int .i64 ix, .int .i64 (arg + (m : Int)), .int .i64 v1, .int .i64 y2, .int .i64 y3, .int .i64 y4, .int .i64 y5, .int .i64 p1, .int .i64 z2, .int .i64 z3, .int .i64 z4, .int .i64 z5] ?_ ?_ (there_blk hB rfl) (by kernel_rfl) ?_ ?_
          · rfl
          · rfl
          · simp [Value.oneCell']
          simp only [Act.put]
          refine hK.out _ _ (hS.store hpB _) (fun _ => ?_)
          clear hK K
          replace hB : Blk (W3.setCells q 0 (#[.string text, .int .i64 st, .int .i64 en2, .string fl2, .int .i32 vb, .int .i64 vs2, .int .i64 ve2, .int .i64 ix, .int .i64 (arg + (m : Int)), .int .i64 v1, .int .i64 y2, .int .i64 y3, .int .i64 y4, .int .i64 y5, .int .i64 p1, .int .i64 z2, .int .i64 z3, .int .i64 z4, .int .i64 z5] : Array Value).toList) q 32 #[.string text, .int .i64 st, .int .i64 en2, .string fl2, .int .i32 vb, .int .i64 vs2, .int .i64 ve2, .int .i64 ix, .int .i64 (arg + (m : Int)), .int .i64 v1, .int .i64 y2, .int .i64 y3, .int .i64 y4, .int .i64 y5, .int .i64 p1, .int .i64 z2, .int .i64 z3, .int .i64 z4, .int .i64 z5] := hB.cells_all _ rfl
          replace hA := hA.cells_far (g := q) hne 0 (#[.string text, .int .i64 st, .int .i64 en2, .string fl2, .int .i32 vb, .int .i64 vs2, .int .i64 ve2, .int .i64 ix, .int .i64 (arg + (m : Int)), .int .i64 v1, .int .i64 y2, .int .i64 y3, .int .i64 y4, .int .i64 y5, .int .i64 p1, .int .i64 z2, .int .i64 z3, .int .i64 z4, .int .i64 z5] : Array Value).toList
          replace hS := hS.store hpB (#[.string text, .int .i64 st, .int .i64 en2, .string fl2, .int .i32 vb, .int .i64 vs2, .int .i64 ve2, .int .i64 ix, .int .i64 (arg + (m : Int)), .int .i64 v1, .int .i64 y2, .int .i64 y3, .int .i64 y4, .int .i64 y5, .int .i64 p1, .int .i64 z2, .int .i64 z3, .int .i64 z4, .int .i64 z5] : Array Value).toList
          generalize W3.setCells q 0 (#[.string text, .int .i64 st, .int .i64 en2, .string fl2, .int .i32 vb, .int .i64 vs2, .int .i64 ve2, .int .i64 ix, .int .i64 (arg + (m : Int)), .int .i64 v1, .int .i64 y2, .int .i64 y3, .int .i64 y4, .int .i64 y5, .int .i64 p1, .int .i64 z2, .int .i64 z3, .int .i64 z4, .int .i64 z5] : Array Value).toList = W4 at hB hA hS ⊢
          refine wpAnyH_done (by kernel_rfl) ?_ _
          go_wp2_with fail
          go_meet
          exact ⟨p, q, rfl, rfl, hA, hB, hS⟩
      case rest =>
        obtain ⟨p, q, rfl, rfl, hX⟩ := hcut
        have hp' := (unhide hX).1
        have hq' := (unhide hX).2.1
        have c5 : wc.cell? ⟨w.heap.size, 0, none⟩ = some (.int .i64 m) := by
          rw [(unhide hX).2.2.bw.cell (p := ⟨w.heap.size, 0, none⟩) (unhide HSZ)]
          exact unhide HCE
        have a0 := hp'.cell 0
        have a1 := hp'.cell 1
        have a4 := hp'.cell 4
        have a7 := hp'.cell 7
        have a8 := hp'.cell 8
        have a9 := hp'.cell 9
        have a10 := hp'.cell 10
        have a14 := hp'.cell 14
        have a15 := hp'.cell 15
        have b0 := hq'.cell 0
        have b1 := hq'.cell 1
        have b4 := hq'.cell 4
        have b7 := hq'.cell 7
        have b8 := hq'.cell 8
        have b9 := hq'.cell 9
        have b10 := hq'.cell 10
        have b14 := hq'.cell 14
        have b15 := hq'.cell 15
        clear hp' hq'
        simp only [List.getElem?_toArray, List.getElem?_cons_zero, List.getElem?_cons_succ] at a0 a1 a4 a7 a8 a9 a10 a14 a15 b0 b1 b4 b7 b8 b9 b10 b14 b15
        go_upto_region 17 with fail
        simp only [List.append]
        have k5 : 0 ≤ arg + (m : Int) := by omega
        have k6 : arg + (m : Int) ≤ 5000000000 := by omega
        by_cases h37 : vb = 37
        · have b37 : (vb != 37) = false := by rw [h37]; rfl
          clear h37
          go_wp2_with fail
          refine (moved_any w.heap.size m v2 y2 _ c5 (unhide HM7) ha2 (by omega)).mono ?_
          rintro e w8 ⟨rfl, rfl⟩
          go_wp2_with fail
          refine (moved_any w.heap.size m p2 z2 _ c5 (unhide HM9) ha3 (by omega)).mono ?_
          rintro e w9 ⟨rfl, rfl⟩
          go_wp2_with fail
          go_roundg (gk - 1)
          case measure => omega
          case rel => exact ⟨k2 + 1, by omega, by omega, by go_num, (unhide hX).2.2⟩
        · have b37 : (vb != 37) = true := by rw [bne_iff_ne]; exact h37
          clear h37
          go_wp2_with fail
          refine (moved_any w.heap.size m v2 y2 _ c5 (unhide HM7) ha2 (by omega)).mono ?_
          rintro e w8 ⟨rfl, rfl⟩
          go_wp2_with fail
          refine (moved_any w.heap.size m p2 z2 _ c5 (unhide HM9) ha3 (by omega)).mono ?_
          rintro e w9 ⟨rfl, rfl⟩
          go_wp2_with fail
          go_roundg (gk - 1)
          case measure => omega
          case rel => exact ⟨k2 + 1, by omega, by omega, by go_num, (unhide hX).2.2⟩
    · have hd : decide (k2 < n) = false := decide_eq_false hlt
      have hT := unhide hR
      have hbw := (unhide HB0).trans (hT.bw.mono (unhide HB0).size)
      have hG5 : G wr := hGw.step hbw
      clear hT hR
      go_wp2_with fail
      refine (impl0_any _ hG5).mono ?_
      rintro x w7 ⟨rfl, hb7⟩
      go_wp2
      go_ret
      exact ⟨rfl, hbw.trans (hb7.mono hbw.size)⟩
theorem law4 (hop : SopAny) (t : ByteArray) (i j : Int) (w : World) (ht : t.size ≤ maxLen) (hG : G w) : Calls Tryd.prog 4 #[.string t, .int .i64 i, .int .i64 j] w fun e w' => e = .returned (.bool true) ∧ Below w.heap.size w w' := by
  by_cases hb : 2147483647 < t.size
  · exact ind_big t i j w ht hb
  by_cases hc : i < 0 ∨ 1000 ≤ i
  · exact ind_nocall t i j w (by omega) hc
  by_cases hd : j < 0 ∨ 1000 ≤ j
  · exact ind_nocall2 t i j w (by omega) (by omega) (by omega) hd
  by_cases hl : 4096 < t.size
  · exact ind_long t i j w (by omega) (by omega) (by omega) (by omega) (by omega) hl
  cases hp : spParse t.data.toList i with
  | opn => exact ind_not t i j w (by omega) (by omega) (by omega) (by omega) (by omega) 2 (by decide) hG (fun w1 h => (sparse_any hop t i w1 h (by omega) (by omega) (by omega)).mono (by rw [hp]; exact fun _ _ h => h))
  | bad => exact ind_not t i j w (by omega) (by omega) (by omega) (by omega) (by omega) 1 (by decide) hG (fun w1 h => (sparse_any hop t i w1 h (by omega) (by omega) (by omega)).mono (by rw [hp]; exact fun _ _ h => h))
  | good os =>
    obtain ⟨m, rfl⟩ : ∃ m : Nat, j = m := ⟨j.toNat, by omega⟩
    exact ind_good hop t i m w hG (by omega) (by omega) (by omega) (by omega) os hp
end Go.Proofs.YtjbmphfgckhaeaaDoor
