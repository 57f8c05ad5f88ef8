/-
  impl.Operation, and the walk of laws.FnOperation: true, whatever the input. Conditions: the library's tables and sentinels; the walk of the reference's op is a premise (SopAny), paid in the last text. Printed by gen_Lo.py.
-/
import Derived.Test.YtjbmphfgckhaeaaDoorGu
import Derived.Test.YtjbmphfgckhaeaaDoorGe
import Derived.Test.YtjbmphfgckhaeaaDoorWq
namespace Go.Proofs.YtjbmphfgckhaeaaDoor
open Go.RowKit

/-- A new box of type ty, zeros Z, that then holds cs: its world. -/
structure BoxG (ty : TypeId) (Z cs : Array Value) (W W1 : World) : Prop where
  eq : W1 = (W.alloc (.cells Z ty)).setCells W.heap.size 0 cs.toList
  th : (W.alloc (.cells Z ty)).there W.heap.size 0 cs.size
  i2 : (Tryd.prog.info? ty).map (·.size) = some cs.size
  oc : cs.all (·.oneCell') = true
  bk : Blk W1 W.heap.size ty cs
  bw : Below W.heap.size W W1
theorem boxg (ty : TypeId) (Z cs : Array Value) (W : World) (hz : cs.size = Z.size) (hi : (Tryd.prog.info? ty).map (·.size) = some cs.size) (hoc : cs.all (·.oneCell') = true) : ∃ W1, BoxG ty Z cs W W1 :=
  ⟨_, rfl, there_blk (Blk.new W ty Z) hz.symm, hi, hoc, (Blk.new W ty Z).cells_all cs hz, below_cells ((Below.refl _ _).alloc (Nat.le_refl _) _) (Nat.le_refl _) 0 _⟩
theorem wpList_load_want {P : Program} {ops : Array Oper} {rest : List Oper} {op : Oper} {a : Act} {w : World} {Q : Exit → Act → World → Prop} (hw : Region.wanted op (yielded ops a.tmps) = true) (ty : TypeId) (x : Operand) (ho : op.op = .load ty x)
    (b o : Nat) (hx : a.eval x = .pointer (some ⟨b, o, none⟩)) (cs : List Value) (d : TypeDesc) (hc : w.rangeAt b o cs) (hu : P.underlying ty = some d) (hd : d.isRow = true) (hi : (P.info? ty).map (·.size) = some cs.length)
    (h : wpList P ops Q rest (a.put op.dst (.agg cs.toArray)) w) : wpList P ops Q (op :: rest) a w :=
  wpList_step fun K hK => by
    rw [if_pos hw]
    exact wp_load_mid ty x ho b o hx cs d hc hu hd hi (hK _ _ h)
theorem oc19 (x : IOp) : (iCells x).all (·.oneCell') = true := by simp [iCells, Value.oneCell']
theorem ocp (x : IOp) : (pCells x).all (·.oneCell') = true := by simp [pCells, Value.oneCell']
theorem oc14 (x : SO) : (soC x).all (·.oneCell') = true := by simp [soC, oC, Value.oneCell']

set_option maxRecDepth 100000 in
set_option maxHeartbeats 6400000 in
theorem iopn_bad (t : ByteArray) (first an : Int) (w : World) (hz : ∀ w1, w.heap.size ≤ w1.heap.size → G w1 → Calls Tryd.prog 21 #[.string t, .int .i64 first, .int .i64 an] w1 fun e w' => e = .returned (.tuple #[.agg #[.string ⟨#[]⟩, .int .i32 0, .int .i64 0, .int .i64 0, .int .i64 0, .int .i64 0, .int .i64 0, .int .i64 0, .string ⟨#[]⟩, .int .i64 0, .int .i64 0, .int .i64 0, .int .i64 0, .int .i64 0, .int .i64 0, .int .i64 0, .int .i64 0, .int .i64 0, .int .i64 0], .int .i64 0, .int .i64 0, .bool false]) ∧ Below w1.heap.size w1 w') (hG : G w) :
    Calls Tryd.prog 11 #[.string t, .int .i64 first, .int .i64 an] w fun e w' => e = .returned (.tuple #[.agg #[.string ⟨#[]⟩, .int .i64 0, .int .i64 0, .string ⟨#[]⟩, .int .i32 0, .int .i64 0, .int .i64 0, .int .i64 0, .int .i64 0, .int .i64 0, .int .i64 0, .int .i64 0, .int .i64 0, .int .i64 0, .int .i64 0, .int .i64 0, .int .i64 0, .int .i64 0, .int .i64 0], .int .i64 0, .int .i64 0, .bool false]) ∧ Below w.heap.size w w' := by
  have hB0 : Below w.heap.size w (w.alloc (.cells #[.string ⟨#[]⟩, .int .i64 0, .int .i64 0, .string ⟨#[]⟩, .int .i32 0, .int .i64 0, .int .i64 0, .int .i64 0, .int .i64 0, .int .i64 0, .int .i64 0, .int .i64 0, .int .i64 0, .int .i64 0, .int .i64 0, .int .i64 0, .int .i64 0, .int .i64 0, .int .i64 0] 32)) := (Below.refl _ _).alloc (Nat.le_refl _) _
  have hG0 := hG.step hB0
  have hZ0 : Blk (w.alloc (.cells #[.string ⟨#[]⟩, .int .i64 0, .int .i64 0, .string ⟨#[]⟩, .int .i32 0, .int .i64 0, .int .i64 0, .int .i64 0, .int .i64 0, .int .i64 0, .int .i64 0, .int .i64 0, .int .i64 0, .int .i64 0, .int .i64 0, .int .i64 0, .int .i64 0, .int .i64 0, .int .i64 0] 32)) w.heap.size 32 #[.string ⟨#[]⟩, .int .i64 0, .int .i64 0, .string ⟨#[]⟩, .int .i32 0, .int .i64 0, .int .i64 0, .int .i64 0, .int .i64 0, .int .i64 0, .int .i64 0, .int .i64 0, .int .i64 0, .int .i64 0, .int .i64 0, .int .i64 0, .int .i64 0, .int .i64 0, .int .i64 0] := Blk.new w 32 _
  have C1 := hide (hz (w.alloc (.cells #[.string ⟨#[]⟩, .int .i64 0, .int .i64 0, .string ⟨#[]⟩, .int .i32 0, .int .i64 0, .int .i64 0, .int .i64 0, .int .i64 0, .int .i64 0, .int .i64 0, .int .i64 0, .int .i64 0, .int .i64 0, .int .i64 0, .int .i64 0, .int .i64 0, .int .i64 0, .int .i64 0] 32)) hB0.size hG0)
  clear hz
  go_enter Tryd.func11, Tryd.ntmps11
  go_wp2_with fail
  refine (unhide C1).mono ?_
  rintro e w2 ⟨rfl, hb2⟩
  obtain ⟨w3, hbx⟩ := boxg 70 #[.string ⟨#[]⟩, .int .i32 0, .int .i64 0, .int .i64 0, .int .i64 0, .int .i64 0, .int .i64 0, .int .i64 0, .string ⟨#[]⟩, .int .i64 0, .int .i64 0, .int .i64 0, .int .i64 0, .int .i64 0, .int .i64 0, .int .i64 0, .int .i64 0, .int .i64 0, .int .i64 0] #[.string ⟨#[]⟩, .int .i32 0, .int .i64 0, .int .i64 0, .int .i64 0, .int .i64 0, .int .i64 0, .int .i64 0, .string ⟨#[]⟩, .int .i64 0, .int .i64 0, .int .i64 0, .int .i64 0, .int .i64 0, .int .i64 0, .int .i64 0, .int .i64 0, .int .i64 0, .int .i64 0] w2 rfl (by kernel_rfl) (by simp [Value.oneCell'])
  have hZ2 := hZ0.below hb2 hZ0.lt
  have hB2 := hB0.trans (hb2.mono hB0.size)
  have hZ3 := hZ2.below hbx.bw hZ2.lt
  have hB3 := hB2.trans (hbx.bw.mono hB2.size)
  have HW := hide (hZ3.cells_all #[.string ⟨#[]⟩, .int .i64 0, .int .i64 0, .string ⟨#[]⟩, .int .i32 0, .int .i64 0, .int .i64 0, .int .i64 0, .int .i64 0, .int .i64 0, .int .i64 0, .int .i64 0, .int .i64 0, .int .i64 0, .int .i64 0, .int .i64 0, .int .i64 0, .int .i64 0, .int .i64 0] rfl)
  have HB := hide (below_cells hB3 (Nat.le_refl w.heap.size) 0 (#[.string ⟨#[]⟩, .int .i64 0, .int .i64 0, .string ⟨#[]⟩, .int .i32 0, .int .i64 0, .int .i64 0, .int .i64 0, .int .i64 0, .int .i64 0, .int .i64 0, .int .i64 0, .int .i64 0, .int .i64 0, .int .i64 0, .int .i64 0, .int .i64 0, .int .i64 0, .int .i64 0] : Array Value).toList)
  have HTH := hide (there_blk hZ3 (n := 19) rfl)
  have HBX := hide hbx
  clear hZ0 hB0 hG0 hb2 hZ2 hB2 hZ3 hB3 hbx
  go_wp2_with (first | (refine wpList_store_mid rfl 70 (.tmp 10) (.tmp 16) rfl w2.heap.size 0 _ rfl rfl (unhide HBX).th (unhide HBX).i2 (unhide HBX).oc ?_; rw [← (unhide HBX).eq]) | (refine wpList_store_mid rfl 32 (.tmp 6) _ rfl w.heap.size 0 #[.string ⟨#[]⟩, .int .i64 0, .int .i64 0, .string ⟨#[]⟩, .int .i32 0, .int .i64 0, .int .i64 0, .int .i64 0, .int .i64 0, .int .i64 0, .int .i64 0, .int .i64 0, .int .i64 0, .int .i64 0, .int .i64 0, .int .i64 0, .int .i64 0, .int .i64 0, .int .i64 0] rfl rfl (unhide HTH) (by kernel_rfl) (by simp [Value.oneCell']) ?_))
  exact bodyPost_ret (v := .tuple #[.agg #[.string ⟨#[]⟩, .int .i64 0, .int .i64 0, .string ⟨#[]⟩, .int .i32 0, .int .i64 0, .int .i64 0, .int .i64 0, .int .i64 0, .int .i64 0, .int .i64 0, .int .i64 0, .int .i64 0, .int .i64 0, .int .i64 0, .int .i64 0, .int .i64 0, .int .i64 0, .int .i64 0], .int .i64 0, .int .i64 0, .bool false]) (results_blk4 Tryd.results11 _ _ _ w.heap.size _ _ _ _ _ rfl rfl rfl rfl (unhide HW) Tryd.underlying32 rfl (by kernel_rfl)) rfl ⟨rfl, unhide HB⟩

set_option maxRecDepth 100000 in
set_option maxHeartbeats 6400000 in
theorem iopn_good (t : ByteArray) (first an : Int) (w : World) (X : IOp) (n : Nat) (m : Int) (hz : ∀ w1, w.heap.size ≤ w1.heap.size → G w1 → Calls Tryd.prog 21 #[.string t, .int .i64 first, .int .i64 an] w1 fun e w' => e = .returned (.tuple #[.agg (pCells X), .int .i64 n, .int .i64 m, .bool true]) ∧ Below w1.heap.size w1 w') (hG : G w) :
    Calls Tryd.prog 11 #[.string t, .int .i64 first, .int .i64 an] w fun e w' => e = .returned (.tuple #[.agg (iCells X), .int .i64 n, .int .i64 m, .bool true]) ∧ Below w.heap.size w w' := by
  have hB0 : Below w.heap.size w (w.alloc (.cells #[.string ⟨#[]⟩, .int .i64 0, .int .i64 0, .string ⟨#[]⟩, .int .i32 0, .int .i64 0, .int .i64 0, .int .i64 0, .int .i64 0, .int .i64 0, .int .i64 0, .int .i64 0, .int .i64 0, .int .i64 0, .int .i64 0, .int .i64 0, .int .i64 0, .int .i64 0, .int .i64 0] 32)) := (Below.refl _ _).alloc (Nat.le_refl _) _
  have hG0 := hG.step hB0
  have hZ0 : Blk (w.alloc (.cells #[.string ⟨#[]⟩, .int .i64 0, .int .i64 0, .string ⟨#[]⟩, .int .i32 0, .int .i64 0, .int .i64 0, .int .i64 0, .int .i64 0, .int .i64 0, .int .i64 0, .int .i64 0, .int .i64 0, .int .i64 0, .int .i64 0, .int .i64 0, .int .i64 0, .int .i64 0, .int .i64 0] 32)) w.heap.size 32 #[.string ⟨#[]⟩, .int .i64 0, .int .i64 0, .string ⟨#[]⟩, .int .i32 0, .int .i64 0, .int .i64 0, .int .i64 0, .int .i64 0, .int .i64 0, .int .i64 0, .int .i64 0, .int .i64 0, .int .i64 0, .int .i64 0, .int .i64 0, .int .i64 0, .int .i64 0, .int .i64 0] := Blk.new w 32 _
  have C1 := hide (hz (w.alloc (.cells #[.string ⟨#[]⟩, .int .i64 0, .int .i64 0, .string ⟨#[]⟩, .int .i32 0, .int .i64 0, .int .i64 0, .int .i64 0, .int .i64 0, .int .i64 0, .int .i64 0, .int .i64 0, .int .i64 0, .int .i64 0, .int .i64 0, .int .i64 0, .int .i64 0, .int .i64 0, .int .i64 0] 32)) hB0.size hG0)
  clear hz
  go_enter Tryd.func11, Tryd.ntmps11
  go_wp2_with fail
  refine (unhide C1).mono ?_
  rintro e w2 ⟨rfl, hb2⟩
  obtain ⟨w3, hbx⟩ := boxg 70 #[.string ⟨#[]⟩, .int .i32 0, .int .i64 0, .int .i64 0, .int .i64 0, .int .i64 0, .int .i64 0, .int .i64 0, .string ⟨#[]⟩, .int .i64 0, .int .i64 0, .int .i64 0, .int .i64 0, .int .i64 0, .int .i64 0, .int .i64 0, .int .i64 0, .int .i64 0, .int .i64 0] (pCells X) w2 rfl (by kernel_rfl) (ocp X)
  have hZ2 := hZ0.below hb2 hZ0.lt
  have hB2 := hB0.trans (hb2.mono hB0.size)
  have hZ3 := hZ2.below hbx.bw hZ2.lt
  have hB3 := hB2.trans (hbx.bw.mono hB2.size)
  have HZ3 := hide (And.intro hZ3 hB3)
  have HBX := hide hbx
  clear hZ0 hB0 hG0 hb2 hZ2 hB2 hZ3 hB3 hbx
  go_wp2_with (refine wpList_store_mid rfl 70 (.tmp 10) (.tmp 16) rfl w2.heap.size 0 _ rfl rfl (unhide HBX).th (unhide HBX).i2 (unhide HBX).oc ?_; rw [← (unhide HBX).eq])
  refine (iop_any w2.heap.size X w3 (unhide HBX).bk).mono ?_
  rintro e w4 ⟨rfl, hb4⟩
  have hZ4 := (unhide HZ3).1.below hb4 (unhide HZ3).1.lt
  have hB4 := (unhide HZ3).2.trans (hb4.mono (unhide HZ3).2.size)
  have HW := hide (hZ4.cells_all (iCells X) rfl)
  have HB := hide (below_cells hB4 (Nat.le_refl w.heap.size) 0 (iCells X).toList)
  have HTH := hide (there_blk hZ4 (n := 19) rfl)
  clear hb4 hZ4 hB4
  go_wp2_with (refine wpList_store_mid rfl 32 (.tmp 6) (.tmp 23) rfl w.heap.size 0 (iCells X) rfl rfl (unhide HTH) (by kernel_rfl) (oc19 X) ?_)
  exact bodyPost_ret (v := .tuple #[.agg (iCells X), .int .i64 n, .int .i64 m, .bool true]) (results_blk4 Tryd.results11 _ _ _ w.heap.size _ _ _ _ _ rfl rfl rfl rfl (unhide HW) Tryd.underlying32 rfl (by kernel_rfl)) rfl ⟨rfl, unhide HB⟩

/-! ### The law -/
set_option maxRecDepth 100000 in
set_option maxHeartbeats 1600000 in
theorem opr_big (t : ByteArray) (i j : Int) (w : World) (ht : t.size ≤ maxLen) (hb : 2147483647 < t.size) :
    Calls Tryd.prog 3 #[.string t, .int .i64 i, .int .i64 j] w fun e w' => e = .returned (.bool true) ∧ Below w.heap.size w w' := by
  unfold maxLen at ht
  have d1 : decide ((t.size : Int) > 2147483647) = true := decide_eq_true (by omega)
  go_enter Tryd.func3, Tryd.ntmps3
  go_wp2
  go_ret
  exact ⟨rfl, Below.refl _ _⟩
set_option maxRecDepth 100000 in
set_option maxHeartbeats 1600000 in
theorem opr_no1 (t : ByteArray) (i j : Int) (w : World) (ht : t.size ≤ 2147483647) (hb : i < 0 ∨ 1000 ≤ i) :
    Calls Tryd.prog 3 #[.string t, .int .i64 i, .int .i64 j] w fun e w' => e = .returned (.bool true) ∧ Below w.heap.size w w' := by
  have d2 : decide ((t.size : Int) > 2147483647) = false := decide_eq_false (by omega)
  have HB := hide hb
  clear hb
  go_enter Tryd.func3, Tryd.ntmps3
  go_wp2_with fail
  refine (call_no i _ (unhide HB)).mono ?_
  rintro x w2 ⟨rfl, rfl⟩
  go_wp2
  go_ret
  exact ⟨rfl, Below.refl _ _⟩
set_option maxRecDepth 100000 in
set_option maxHeartbeats 1600000 in
theorem opr_no2 (t : ByteArray) (i j : Int) (w : World) (ht : t.size ≤ 2147483647) (h0 : 0 ≤ i) (h1 : i < 1000) (hb : j < 0 ∨ 1000 ≤ j) :
    Calls Tryd.prog 3 #[.string t, .int .i64 i, .int .i64 j] w fun e w' => e = .returned (.bool true) ∧ Below w.heap.size w w' := by
  have d2 : decide ((t.size : Int) > 2147483647) = false := decide_eq_false (by omega)
  have HB := hide hb
  clear hb
  go_enter Tryd.func3, Tryd.ntmps3
  go_wp2_with fail
  refine (call_yes i _ h0 h1).mono ?_
  rintro x w2 ⟨rfl, rfl⟩
  go_wp2_with fail
  refine (call_no j _ (unhide HB)).mono ?_
  rintro x w2 ⟨rfl, rfl⟩
  go_wp2
  go_ret
  exact ⟨rfl, Below.refl _ _⟩
set_option maxRecDepth 100000 in
set_option maxHeartbeats 1600000 in
theorem opr_nil (t : ByteArray) (i j : Int) (w : World) (ht : t.size = 0) (h0 : 0 ≤ i) (h1 : i < 1000) (k0 : 0 ≤ j) (k1 : j < 1000) :
    Calls Tryd.prog 3 #[.string t, .int .i64 i, .int .i64 j] w fun e w' => e = .returned (.bool true) ∧ Below w.heap.size w w' := by
  obtain rfl : t = ⟨#[]⟩ := by
    have h5 := size_data t
    rw [ht] at h5
    exact (eq_mk (List.eq_nil_of_length_eq_zero h5.symm)).trans rfl
  clear ht
  go_enter Tryd.func3, Tryd.ntmps3
  go_wp2_with fail
  refine (call_yes i _ h0 h1).mono ?_
  rintro x w2 ⟨rfl, rfl⟩
  go_wp2_with fail
  refine (call_yes j _ k0 k1).mono ?_
  rintro x w2 ⟨rfl, rfl⟩
  go_wp2
  go_ret
  exact ⟨rfl, Below.refl _ _⟩
set_option maxRecDepth 100000 in
set_option maxHeartbeats 1600000 in
theorem opr_long (t : ByteArray) (i j : Int) (w : World) (ht : t.size ≤ 2147483647) (hl : 4096 < t.size) (h0 : 0 ≤ i) (h1 : i < 1000) (k0 : 0 ≤ j) (k1 : j < 1000) :
    Calls Tryd.prog 3 #[.string t, .int .i64 i, .int .i64 j] w fun e w' => e = .returned (.bool true) ∧ Below w.heap.size w w' := by
  have d2 : decide ((t.size : Int) > 2147483647) = false := decide_eq_false (by omega)
  have d3 : decide ((t.size : Int) > 4096) = true := decide_eq_true (by omega)
  have d4 : ((t.size : Int) == 0) = false := by rw [beq_eq_false_iff_ne]; omega
  go_enter Tryd.func3, Tryd.ntmps3
  go_wp2_with fail
  refine (call_yes i _ h0 h1).mono ?_
  rintro x w2 ⟨rfl, rfl⟩
  go_wp2_with fail
  refine (call_yes j _ k0 k1).mono ?_
  rintro x w2 ⟨rfl, rfl⟩
  go_wp2
  go_ret
  exact ⟨rfl, Below.refl _ _⟩
set_option maxRecDepth 100000 in
set_option maxHeartbeats 1600000 in
theorem opr_sign (t : ByteArray) (i j : Int) (w : World) (ht : t.size ≤ 4096) (hp : 0 < t.size) (hc : t[0] ≠ 37) (h0 : 0 ≤ i) (h1 : i < 1000) (k0 : 0 ≤ j) (k1 : j < 1000) :
    Calls Tryd.prog 3 #[.string t, .int .i64 i, .int .i64 j] w fun e w' => e = .returned (.bool true) ∧ Below w.heap.size w w' := by
  have d2 : decide ((t.size : Int) > 2147483647) = false := decide_eq_false (by omega)
  have d3 : decide ((t.size : Int) > 4096) = false := decide_eq_false (by omega)
  have d4 : ((t.size : Int) == 0) = false := by rw [beq_eq_false_iff_ne]; omega
  have hne : ((t[0].toNat : Int) != 37) = true := by rw [bne_iff_ne]; intro e5; exact hc (UInt8.toNat_inj.1 (by simpa using Int.ofNat.inj e5))
  have hp2 : (0 : Int) < (t.size : Int) := by omega
  clear hc
  go_enter Tryd.func3, Tryd.ntmps3
  go_wp2_with fail
  refine (call_yes i _ h0 h1).mono ?_
  rintro x w2 ⟨rfl, rfl⟩
  go_wp2_with fail
  refine (call_yes j _ k0 k1).mono ?_
  rintro x w2 ⟨rfl, rfl⟩
  go_wp2
  go_ret
  exact ⟨rfl, Below.refl _ _⟩
set_option maxRecDepth 100000 in
set_option maxHeartbeats 6400000 in
theorem opr_opn (hop : SopAny) (t : ByteArray) (i j : Int) (w : World) (hGw : G w) (ht : t.size ≤ 4096) (hp : 0 < t.size) (hc : t[0] = 37) (h0 : 0 ≤ i) (h1 : i < 1000) (k0 : 0 ≤ j) (k1 : j < 1000) (hs : spOp t.data.toList i 0 j = .opn) :
    Calls Tryd.prog 3 #[.string t, .int .i64 i, .int .i64 j] w fun e w' => e = .returned (.bool true) ∧ Below w.heap.size w w' := by
  have d2 : decide ((t.size : Int) > 2147483647) = false := decide_eq_false (by omega)
  have d3 : decide ((t.size : Int) > 4096) = false := decide_eq_false (by omega)
  have d4 : ((t.size : Int) == 0) = false := by rw [beq_eq_false_iff_ne]; omega
  have hne : ((t[0].toNat : Int) != 37) = false := by rw [hc]; rfl
  have hp2 : (0 : Int) < (t.size : Int) := by omega
  have C1 := hide (opat_any t i j 2 _ (opk_opn hop ht hp k0 (by omega) h0 (by omega) hs) w hGw)
  clear hs
  clear hc
  go_enter Tryd.func3, Tryd.ntmps3
  go_wp2_with fail
  refine (call_yes i _ h0 h1).mono ?_
  rintro x w2 ⟨rfl, rfl⟩
  go_wp2_with fail
  refine (call_yes j _ k0 k1).mono ?_
  rintro x w2 ⟨rfl, rfl⟩
  go_wp2_with fail
  refine (unhide C1).mono ?_
  rintro e w2 ⟨x, nx, hP, rfl, hb2⟩
  have hG2 := hGw.step hb2
  obtain ⟨w3, hbx⟩ := boxg 26 #[.string ⟨#[]⟩, .int .i64 0, .int .i64 0, .string ⟨#[]⟩, .int .i32 0, .int .i64 0, .int .i64 0, .int .i64 0, .int .i64 0, .int .i64 0, .int .i64 0, .int .i64 0, .int .i64 0, .int .i64 0] (soC x) w2 rfl info26 (oc14 x)
  have hB3 := hb2.trans (hbx.bw.mono hb2.size)
  have hG3 := hG2.step hbx.bw
  have HBX := hide hbx
  have HB3 := hide hB3
  clear hb2 hG2 hbx hB3 hG3 hP
  go_wp2_with (refine wpList_store_mid rfl 26 (.tmp 7) (.tmp 45) rfl w2.heap.size 0 _ rfl rfl (unhide HBX).th (unhide HBX).i2 (unhide HBX).oc ?_; rw [← (unhide HBX).eq])
  go_ret
  exact ⟨rfl, unhide HB3⟩
set_option maxRecDepth 100000 in
set_option maxHeartbeats 6400000 in
theorem opr_bad (hop : SopAny) (t : ByteArray) (i j : Int) (w : World) (hGw : G w) (ht : t.size ≤ 4096) (hp : 0 < t.size) (hc : t[0] = 37) (h0 : 0 ≤ i) (h1 : i < 1000) (k0 : 0 ≤ j) (k1 : j < 1000) (hs : spOp t.data.toList i 0 j = .bad) :
    Calls Tryd.prog 3 #[.string t, .int .i64 i, .int .i64 j] w fun e w' => e = .returned (.bool true) ∧ Below w.heap.size w w' := by
  have d2 : decide ((t.size : Int) > 2147483647) = false := decide_eq_false (by omega)
  have d3 : decide ((t.size : Int) > 4096) = false := decide_eq_false (by omega)
  have d4 : ((t.size : Int) == 0) = false := by rw [beq_eq_false_iff_ne]; omega
  have hne : ((t[0].toNat : Int) != 37) = false := by rw [hc]; rfl
  have hp2 : (0 : Int) < (t.size : Int) := by omega
  have C1 := hide (opat_any t i j 1 _ (opk_bad hop ht hp k0 (by omega) h0 (by omega) hs) w hGw)
  have hno : opM t.data.toList i j = none := by
    have hr := op_rel (l := t.data.toList) (i := 0) (first := i) (nx0 := j) (by rw [← size_data]; exact hp)
    rw [hs, List.drop_zero] at hr
    exact hr
  have C2 : Hid (∀ w1, G w1 → Calls Tryd.prog 11 #[.string t, .int .i64 i, .int .i64 j] w1 fun e w' => e = .returned (.tuple #[.agg #[.string ⟨#[]⟩, .int .i64 0, .int .i64 0, .string ⟨#[]⟩, .int .i32 0, .int .i64 0, .int .i64 0, .int .i64 0, .int .i64 0, .int .i64 0, .int .i64 0, .int .i64 0, .int .i64 0, .int .i64 0, .int .i64 0, .int .i64 0, .int .i64 0, .int .i64 0, .int .i64 0], .int .i64 0, .int .i64 0, .bool false]) ∧ Below w1.heap.size w1 w') := fun w1 h => iopn_bad t i j w1 (fun w2 _ h2 => zz_bad t i j w2 h2 ht hp hc h0 (by omega) k0 (by omega) hno) h
  clear hs hno
  clear hc
  go_enter Tryd.func3, Tryd.ntmps3
  go_wp2_with fail
  refine (call_yes i _ h0 h1).mono ?_
  rintro x w2 ⟨rfl, rfl⟩
  go_wp2_with fail
  refine (call_yes j _ k0 k1).mono ?_
  rintro x w2 ⟨rfl, rfl⟩
  go_wp2_with fail
  refine (unhide C1).mono ?_
  rintro e w2 ⟨x, nx, hP, rfl, hb2⟩
  have hG2 := hGw.step hb2
  obtain ⟨w3, hbx⟩ := boxg 26 #[.string ⟨#[]⟩, .int .i64 0, .int .i64 0, .string ⟨#[]⟩, .int .i32 0, .int .i64 0, .int .i64 0, .int .i64 0, .int .i64 0, .int .i64 0, .int .i64 0, .int .i64 0, .int .i64 0, .int .i64 0] (soC x) w2 rfl info26 (oc14 x)
  have hB3 := hb2.trans (hbx.bw.mono hb2.size)
  have hG3 := hG2.step hbx.bw
  have HBX := hide hbx
  have HB3 := hide hB3
  clear hb2 hG2 hbx hB3 hP
  go_wp2_with (refine wpList_store_mid rfl 26 (.tmp 7) (.tmp 45) rfl w2.heap.size 0 _ rfl rfl (unhide HBX).th (unhide HBX).i2 (unhide HBX).oc ?_; rw [← (unhide HBX).eq])
  refine (unhide C2 _ hG3).mono ?_
  rintro e w4 ⟨rfl, hb4⟩
  have hB4 := (unhide HB3).trans (hb4.mono (unhide HB3).size)
  obtain ⟨w5, hbx5⟩ := boxg 32 #[.string ⟨#[]⟩, .int .i64 0, .int .i64 0, .string ⟨#[]⟩, .int .i32 0, .int .i64 0, .int .i64 0, .int .i64 0, .int .i64 0, .int .i64 0, .int .i64 0, .int .i64 0, .int .i64 0, .int .i64 0, .int .i64 0, .int .i64 0, .int .i64 0, .int .i64 0, .int .i64 0] #[.string ⟨#[]⟩, .int .i64 0, .int .i64 0, .string ⟨#[]⟩, .int .i32 0, .int .i64 0, .int .i64 0, .int .i64 0, .int .i64 0, .int .i64 0, .int .i64 0, .int .i64 0, .int .i64 0, .int .i64 0, .int .i64 0, .int .i64 0, .int .i64 0, .int .i64 0, .int .i64 0] w4 rfl (by kernel_rfl) (by simp [Value.oneCell'])
  have HB5 := hide (hB4.trans (hbx5.bw.mono hB4.size))
  have HBX5 := hide hbx5
  clear hb4 hB4 hbx5 hG3
  go_wp2_with (refine wpList_store_mid rfl 32 (.tmp 10) (.tmp 55) rfl w4.heap.size 0 _ rfl rfl (unhide HBX5).th (unhide HBX5).i2 (unhide HBX5).oc ?_; rw [← (unhide HBX5).eq])
  go_ret
  exact ⟨rfl, unhide HB5⟩
set_option maxRecDepth 100000 in
set_option maxHeartbeats 6400000 in
theorem opr_good (hop : SopAny) (t : ByteArray) (i j : Int) (w : World) (hGw : G w) (ht : t.size ≤ 4096) (hp : 0 < t.size) (hc : t[0] = 37) (h0 : 0 ≤ i) (h1 : i < 1000) (k0 : 0 ≤ j) (k1 : j < 1000) (o : SO) (b : Nat) (nx0 : Int) (hs : spOp t.data.toList i 0 j = .good (o, b, nx0)) :
    Calls Tryd.prog 3 #[.string t, .int .i64 i, .int .i64 j] w fun e w' => e = .returned (.bool true) ∧ Below w.heap.size w w' := by
  have d2 : decide ((t.size : Int) > 2147483647) = false := decide_eq_false (by omega)
  have d3 : decide ((t.size : Int) > 4096) = false := decide_eq_false (by omega)
  have d4 : ((t.size : Int) == 0) = false := by rw [beq_eq_false_iff_ne]; omega
  have hne : ((t[0].toNat : Int) != 37) = false := by rw [hc]; rfl
  have hp2 : (0 : Int) < (t.size : Int) := by omega
  have C1 := hide (opat_any t i j 0 _ (opk_good hop ht hp k0 (by omega) h0 (by omega) hs) w hGw)
  obtain ⟨y, hy, hom, hbn, hnx⟩ : ∃ y, opM t.data.toList i j = some y ∧ OM o (iop t.data.toList 0 y) ∧ b = 0 + y.n ∧ nx0 = nextA y j := by
    have hr := op_rel (l := t.data.toList) (i := 0) (first := i) (nx0 := j) (by rw [← size_data]; exact hp)
    rw [hs, List.drop_zero] at hr
    exact hr
  have C2 : Hid (∀ w1, G w1 → Calls Tryd.prog 11 #[.string t, .int .i64 i, .int .i64 j] w1 fun e w' => e = .returned (.tuple #[.agg (iCells (iop t.data.toList 0 y)), .int .i64 y.n, .int .i64 (nextA y j), .bool true]) ∧ Below w1.heap.size w1 w') := fun w1 h => iopn_good t i j w1 _ y.n _ (fun w2 _ h2 => zz_good t i j w2 h2 ht hp hc h0 (by omega) k0 (by omega) y hy) h
  have HEN : Hid (o.en = (y.n : Int)) := by
    show o.en = _
    rw [← hom.en]
    show (y.n : Int) + 0 = _
    omega
  have HOM := hide hom
  have HNX := hide hnx
  clear hs hy hom hbn hnx
  clear hc
  go_enter Tryd.func3, Tryd.ntmps3
  go_wp2_with fail
  refine (call_yes i _ h0 h1).mono ?_
  rintro x w2 ⟨rfl, rfl⟩
  go_wp2_with fail
  refine (call_yes j _ k0 k1).mono ?_
  rintro x w2 ⟨rfl, rfl⟩
  go_wp2_with fail
  refine (unhide C1).mono ?_
  rintro e w2 ⟨x, nx, hP, rfl, hb2⟩
  have hG2 := hGw.step hb2
  obtain ⟨w3, hbx⟩ := boxg 26 #[.string ⟨#[]⟩, .int .i64 0, .int .i64 0, .string ⟨#[]⟩, .int .i32 0, .int .i64 0, .int .i64 0, .int .i64 0, .int .i64 0, .int .i64 0, .int .i64 0, .int .i64 0, .int .i64 0, .int .i64 0] (soC x) w2 rfl info26 (oc14 x)
  have hB3 := hb2.trans (hbx.bw.mono hb2.size)
  have hG3 := hG2.step hbx.bw
  have HBX := hide hbx
  have HB3 := hide hB3
  obtain ⟨rfl, rfl⟩ := hP
  clear hb2 hG2 hbx hB3
  go_wp2_with (refine wpList_store_mid rfl 26 (.tmp 7) (.tmp 45) rfl w2.heap.size 0 _ rfl rfl (unhide HBX).th (unhide HBX).i2 (unhide HBX).oc ?_; rw [← (unhide HBX).eq])
  refine (unhide C2 _ hG3).mono ?_
  rintro e w4 ⟨rfl, hb4⟩
  have hB4 := (unhide HB3).trans (hb4.mono (unhide HB3).size)
  have hbk4 := (unhide HBX).bk.below hb4 (unhide HBX).bk.lt
  obtain ⟨w5, hbx5⟩ := boxg 32 #[.string ⟨#[]⟩, .int .i64 0, .int .i64 0, .string ⟨#[]⟩, .int .i32 0, .int .i64 0, .int .i64 0, .int .i64 0, .int .i64 0, .int .i64 0, .int .i64 0, .int .i64 0, .int .i64 0, .int .i64 0, .int .i64 0, .int .i64 0, .int .i64 0, .int .i64 0, .int .i64 0] (iCells (iop t.data.toList 0 y)) w4 rfl (by kernel_rfl) (oc19 _)
  have hB5 := hB4.trans (hbx5.bw.mono hB4.size)
  have hbk5 := hbk4.below hbx5.bw hbk4.lt
  have HB5 := hide hB5
  have HK5 := hide (And.intro hbk5 hbx5.bk)
  have HBX5 := hide hbx5
  clear hb4 hB4 hbx5 hG3 hbk4 hB5 hbk5
  have be : ((y.n : Int) == x.en) = true := by rw [unhide HEN]; exact beq_self_eq_true _
  have bn : (nextA y j == nx) = true := by rw [unhide HNX]; exact beq_self_eq_true _
  go_wp2_with (first | (refine wpList_store_mid rfl 32 (.tmp 10) (.tmp 55) rfl w4.heap.size 0 _ rfl rfl (unhide HBX5).th (unhide HBX5).i2 (unhide HBX5).oc ?_; rw [← (unhide HBX5).eq]) | (refine wpList_load_want (by rfl) 32 (.tmp 10) rfl w4.heap.size 0 rfl (iCells (iop t.data.toList 0 y)).toList _ (unhide HK5).2.range Tryd.underlying32 rfl (by kernel_rfl) ?_) | (refine wpList_load_want (by rfl) 26 (.tmp 7) rfl w2.heap.size 0 rfl (soC x).toList _ (unhide HK5).1.range Tryd.underlying26 rfl (by kernel_rfl) ?_))
  refine (op_true (iop t.data.toList 0 y) x (unhide HOM) w5).mono ?_
  rintro e w6 ⟨rfl, hb6⟩
  have hB6 := (unhide HB5).trans (hb6.mono (unhide HB5).size)
  have c2 : w6.cell? ⟨w2.heap.size, 2, none⟩ = some (.int .i64 x.en) := ((unhide HK5).1.below hb6 (unhide HK5).1.lt).cell 2
  have HB6 := hide hB6
  clear hB6 hb6
  go_wp2
  go_ret
  exact ⟨rfl, unhide HB6⟩
theorem law3 (hop : SopAny) (t : ByteArray) (i j : Int) (w : World) (ht : t.size ≤ maxLen) (hG : G w) : Calls Tryd.prog 3 #[.string t, .int .i64 i, .int .i64 j] w fun e w' => e = .returned (.bool true) ∧ Below w.heap.size w w' := by
  by_cases hb : 2147483647 < t.size
  · exact opr_big t i j w ht hb
  by_cases hc : i < 0 ∨ 1000 ≤ i
  · exact opr_no1 t i j w (by omega) hc
  by_cases hd : j < 0 ∨ 1000 ≤ j
  · exact opr_no2 t i j w (by omega) (by omega) (by omega) hd
  by_cases hz : t.size = 0
  · exact opr_nil t i j w hz (by omega) (by omega) (by omega) (by omega)
  by_cases hl : 4096 < t.size
  · exact opr_long t i j w (by omega) hl (by omega) (by omega) (by omega) (by omega)
  have hp : 0 < t.size := by omega
  by_cases h37 : t[0] = 37
  · cases hs : spOp t.data.toList i 0 j with
    | opn => exact opr_opn hop t i j w hG (by omega) hp h37 (by omega) (by omega) (by omega) (by omega) hs
    | bad => exact opr_bad hop t i j w hG (by omega) hp h37 (by omega) (by omega) (by omega) (by omega) hs
    | good y =>
      obtain ⟨o, b, m⟩ := y
      exact opr_good hop t i j w hG (by omega) hp h37 (by omega) (by omega) (by omega) (by omega) o b m hs
  · exact opr_sign t i j w (by omega) hp h37 (by omega) (by omega) (by omega) (by omega)
end Go.Proofs.YtjbmphfgckhaeaaDoor
