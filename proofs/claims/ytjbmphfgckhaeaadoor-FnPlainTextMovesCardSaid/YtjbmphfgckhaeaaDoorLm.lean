/-
  The walk of laws.FnPlainTextMoves: true, whatever the input. Conditions: the library's tables and sentinels.
-/
import Derived.Test.YtjbmphfgckhaeaaDoorPm
namespace Go.Proofs.YtjbmphfgckhaeaaDoor
open Go.RowKit

set_option maxRecDepth 100000 in
set_option maxHeartbeats 1600000 in
theorem moves_big (s t : ByteArray) (i : Int) (w : World) (hs : s.size ≤ maxLen) (ht : t.size ≤ maxLen) (hb : 2147483647 < s.size ∨ 2147483647 < t.size) :
    Calls Tryd.prog 6 #[.string s, .string t, .int .i64 i] w fun e w' => e = .returned (.bool true) ∧ Below w.heap.size w w' := by
  unfold maxLen at hs ht
  by_cases h1 : 2147483647 < s.size
  · have d1 : decide ((s.size : Int) > 2147483647) = true := decide_eq_true (by omega)
    go_enter Tryd.func6, Tryd.ntmps6
    go_wp2
    go_ret
    exact ⟨rfl, Below.refl _ _⟩
  · have d1 : decide ((s.size : Int) > 2147483647) = false := decide_eq_false (by omega)
    have d2 : decide ((t.size : Int) > 2147483647) = true := decide_eq_true (by omega)
    go_enter Tryd.func6, Tryd.ntmps6
    go_wp2
    go_ret
    exact ⟨rfl, Below.refl _ _⟩

set_option maxRecDepth 100000 in
set_option maxHeartbeats 1600000 in
theorem moves_nocall (s t : ByteArray) (i : Int) (w : World) (hs : s.size ≤ 2147483647) (ht : t.size ≤ 2147483647) (hb : i < 0 ∨ 1000 ≤ i) :
    Calls Tryd.prog 6 #[.string s, .string t, .int .i64 i] w fun e w' => e = .returned (.bool true) ∧ Below w.heap.size w w' := by
  have d1 : decide ((s.size : Int) > 2147483647) = false := decide_eq_false (by omega)
  have d2 : decide ((t.size : Int) > 2147483647) = false := decide_eq_false (by omega)
  have HB := hide hb
  clear hb
  go_enter Tryd.func6, Tryd.ntmps6
  go_wp2_with fail
  refine (call_no i _ (unhide HB)).mono ?_
  rintro x w2 ⟨rfl, rfl⟩
  go_wp2
  go_ret
  exact ⟨rfl, Below.refl _ _⟩

set_option maxRecDepth 100000 in
set_option maxHeartbeats 1600000 in
theorem moves_long (s t : ByteArray) (i : Int) (w : World) (hs : s.size ≤ 2147483647) (ht : t.size ≤ 2147483647) (h0 : 0 ≤ i) (h1 : i < 1000) (hb : 4096 < s.size + t.size) :
    Calls Tryd.prog 6 #[.string s, .string t, .int .i64 i] w fun e w' => e = .returned (.bool true) ∧ Below w.heap.size w w' := by
  have d1 : decide ((s.size : Int) > 2147483647) = false := decide_eq_false (by omega)
  have d2 : decide ((t.size : Int) > 2147483647) = false := decide_eq_false (by omega)
  have d3 : decide ((s.size : Int) + (t.size : Int) > 4096) = true := decide_eq_true (by omega)
  go_enter Tryd.func6, Tryd.ntmps6
  go_wp2_with fail
  refine (call_yes i _ h0 h1).mono ?_
  rintro x w2 ⟨rfl, rfl⟩
  go_wp2
  go_ret
  exact ⟨rfl, Below.refl _ _⟩

/-- The sign % stands in the text: true. -/
def PosR (s : ByteArray) (k : Nat) : Prop := ∀ j, (h : j < s.size) → j < k → s[j] ≠ 37
set_option maxRecDepth 100000 in
set_option maxHeartbeats 1600000 in
theorem moves_sign (s t : ByteArray) (i : Int) (w : World) (hs : s.size ≤ 4096) (ht : t.size ≤ 4096) (hst : s.size + t.size ≤ 4096) (h0 : 0 ≤ i) (h1 : i < 1000) (hb : (37 : UInt8) ∈ s.data.toList) :
    Calls Tryd.prog 6 #[.string s, .string t, .int .i64 i] w fun e w' => e = .returned (.bool true) ∧ Below w.heap.size w w' := by
  have d1 : decide ((s.size : Int) > 2147483647) = false := decide_eq_false (by omega)
  have d2 : decide ((t.size : Int) > 2147483647) = false := decide_eq_false (by omega)
  have d3 : decide ((s.size : Int) + (t.size : Int) > 4096) = false := decide_eq_false (by omega)
  have HB := hide hb
  clear hb
  go_enter Tryd.func6, Tryd.ntmps6
  go_wp2_with fail
  refine (call_yes i _ h0 h1).mono ?_
  rintro x w2 ⟨rfl, rfl⟩
  go_wp2
  go_loopg [36] (s.size + 1) (fun g s36 wr => ∃ k : Nat, k ≤ s.size ∧ s.size - k < g ∧ s36 = .int .i64 k ∧ Hid (PosR s k) ∧ Below w.heap.size w wr)
  case atStart => exact ⟨0, Nat.zero_le _, by omega, rfl, fun j _ h => by omega, Below.refl _ _⟩
  case round =>
    obtain ⟨k, hk, hG, rfl, hR, hB⟩ := hrel
    by_cases hlt : k < s.size
    · have hj0 : (0 : Int) ≤ (k : Int) := by omega
      have hj1 : (k : Int) < (s.size : Int) := by omega
      by_cases hc : s[k] = 37
      · have hne : ((s[k].toNat : Int) == 37) = true := by rw [hc]; rfl
        clear hc
        go_wp2
        go_ret
        exact ⟨rfl, hB⟩
      · have hne : ((s[k].toNat : Int) == 37) = false := by rw [beq_eq_false_iff_ne]; intro e5; exact hc (UInt8.toNat_inj.1 (by simpa using Int.ofNat.inj e5))
        have HC := hide hc
        clear hc
        go_wp2
        go_roundg (gk - 1)
        case measure => omega
        case rel =>
          refine ⟨k + 1, by omega, by omega, by go_num, fun j h hj => ?_, hB⟩
          by_cases hjk : j < k
          · exact unhide hR j h hjk
          · obtain rfl : j = k := by omega
            exact unhide HC
    · have hd : decide (k < s.size) = false := decide_eq_false hlt
      exact absurd (unhide HB) (fun hm => by
        obtain ⟨j, hj, he⟩ := List.getElem_of_mem hm
        have hj' : j < s.size := by rw [size_data]; exact hj
        exact unhide hR j hj' (by omega) he)

theorem append_list (s t : ByteArray) : (s ++ t).data.toList = s.data.toList ++ t.data.toList := by simp
set_option maxRecDepth 100000 in
set_option maxHeartbeats 1600000 in
theorem moves_none (s t : ByteArray) (i : Int) (w : World) (hGw : G w) (hs : s.size ≤ 4096) (ht : t.size ≤ 4096) (hst : s.size + t.size ≤ 4096) (h0 : 0 ≤ i) (h1 : i < 1000) (hb : ¬ (37 : UInt8) ∈ s.data.toList) (hp : parseM t.data.toList i = none) :
    Calls Tryd.prog 6 #[.string s, .string t, .int .i64 i] w fun e w' => e = .returned (.bool true) ∧ Below w.heap.size w w' := by
  have d1 : decide ((s.size : Int) > 2147483647) = false := decide_eq_false (by omega)
  have d2 : decide ((t.size : Int) > 2147483647) = false := decide_eq_false (by omega)
  have d3 : decide ((s.size : Int) + (t.size : Int) > 4096) = false := decide_eq_false (by omega)
  have hp2 : parseM (s ++ t).data.toList i = none := by
    rw [append_list]
    exact (plain_moves s.data.toList t.data.toList i hb).none_iff hp
  have hsz : (s ++ t).size ≤ 400000000000 := by simp; omega
  have C1 : Hid (∀ w1, G w1 → Calls Tryd.prog 14 #[.string t, .int .i64 i] w1 fun e w' => e = .returned (.tuple #[.slice none 0 0, .bool false]) ∧ Below w1.heap.size w1 w') := fun w1 h => iparse_none t _ i w1 h (by omega) h0 (by omega) rfl hp
  have C2 : Hid (∀ w1, G w1 → Calls Tryd.prog 14 #[.string (s ++ t), .int .i64 i] w1 fun e w' => e = .returned (.tuple #[.slice none 0 0, .bool false]) ∧ Below w1.heap.size w1 w') := fun w1 h => iparse_none (s ++ t) _ i w1 h hsz h0 (by omega) rfl hp2
  have HB := hide hb
  clear hb hp hp2 hsz
  go_enter Tryd.func6, Tryd.ntmps6
  go_wp2_with fail
  refine (call_yes i _ h0 h1).mono ?_
  rintro x w2 ⟨rfl, rfl⟩
  go_wp2
  go_loopg [36] (s.size + 1) (fun g s36 wr => ∃ k : Nat, k ≤ s.size ∧ s.size - k < g ∧ s36 = .int .i64 k ∧ Below w.heap.size w wr)
  case atStart => exact ⟨0, Nat.zero_le _, by omega, rfl, Below.refl _ _⟩
  case round =>
    obtain ⟨k, hk, hG, rfl, hB⟩ := hrel
    by_cases hlt : k < s.size
    · have hj0 : (0 : Int) ≤ (k : Int) := by omega
      have hj1 : (k : Int) < (s.size : Int) := by omega
      have hc : s[k] ≠ 37 := fun e => unhide HB (by
        rw [← e]
        exact List.getElem_mem (l := s.data.toList) (n := k) (by rw [← size_data]; exact hlt))
      have hne : ((s[k].toNat : Int) == 37) = false := by rw [beq_eq_false_iff_ne]; intro e5; exact hc (UInt8.toNat_inj.1 (by simpa using Int.ofNat.inj e5))
      clear hc
      go_wp2
      go_roundg (gk - 1)
      case measure => omega
      case rel => exact ⟨k + 1, by omega, by omega, by go_num, hB⟩
    · have hd : decide (k < s.size) = false := decide_eq_false hlt
      have hG1 := hGw.step hB
      go_wp2_with fail
      refine (unhide C1 _ hG1).mono ?_
      rintro x w3 ⟨rfl, hb3⟩
      have hG3 := hG1.step hb3
      go_wp2_with fail
      refine (unhide C2 _ hG3).mono ?_
      rintro x w4 ⟨rfl, hb4⟩
      have hG4 := hG3.step hb4
      go_wp2_with fail
      refine (impl0_any _ hG4).mono ?_
      rintro x w5 ⟨rfl, hb5⟩
      go_wp2
      go_ret
      exact ⟨rfl, ((hB.trans (hb3.mono hB.size)).trans (hb4.mono (Nat.le_trans hB.size hb3.size))).trans (hb5.mono (Nat.le_trans (Nat.le_trans hB.size hb3.size) hb4.size))⟩
end Go.Proofs.YtjbmphfgckhaeaaDoor
