/-
  impl.Parse as the function parseM: the operations as plain data, one behind the other in a row of the call's own. Conditions: the library's tables and sentinels, a text of at most 500,000,000,000 bytes, an index of at most 999,999,999.
-/
import Derived.Test.YtjbmphfgckhaeaaDoorWn
import Derived.Test.YtjbmphfgckhaeaaDoorWm
namespace Go.Proofs.YtjbmphfgckhaeaaDoor
open Go.RowKit

/-- The cells of a list of operations, one behind the other. -/
def flat (xs : List IOp) : List Value := xs.flatMap fun x => (iCells x).toList
theorem iCells_size (x : IOp) : (iCells x).size = 19 := rfl
theorem flat_len (xs : List IOp) : (flat xs).length = xs.length * 19 := by
  induction xs with
  | nil => rfl
  | cons x r ih =>
    have : (iCells x).toList.length = 19 := rfl
    simp only [flat, List.flatMap_cons, List.length_append, List.length_cons] at ih ⊢
    omega
def IParse (l : L) (idx : Int) (w : World) (e : Ending) (w' : World) : Prop :=
  match parseM l idx with
  | none => e = .returned (.tuple #[.slice none 0 0, .bool false]) ∧ Below w.heap.size w w'
  | some xs => ∃ v : Value, e = .returned (.tuple #[v, .bool true]) ∧ w'.ownsRow w.heap.size 32 19 v xs.length (flat xs) ∧ Below w.heap.size w w'

set_option maxRecDepth 100000 in
set_option maxHeartbeats 3200000 in
theorem iparse_bad (t : ByteArray) (idx : Int) (w : World) (hp : Calls Tryd.prog 24 #[.string t, .int .i64 idx] w (ParseBad w)) :
    Calls Tryd.prog 14 #[.string t, .int .i64 idx] w fun e w' => e = .returned (.tuple #[.slice none 0 0, .bool false]) ∧ Below w.heap.size w w' := by
  have HP := hide hp
  clear hp
  go_enter Tryd.func14, Tryd.ntmps14
  go_wp2_with fail
  refine (unhide HP).mono ?_
  rintro x w2 ⟨⟨T, q, rfl⟩, hb2⟩
  go_wp2_with fail
  go_loopg [4, 18] 1 (fun g s4 s18 wr => s4 = .slice none 0 0 ∧ s18 = .int .i64 0 ∧ wr = w2)
  case atStart => exact ⟨rfl, rfl, rfl⟩
  case round =>
    obtain ⟨rfl, rfl, rfl⟩ := hrel
    go_wp2
    go_quiet (fail)
    go_wp2
    go_ret2
    exact ⟨rfl, below_drewN hb2 _⟩

set_option maxRecDepth 100000 in
set_option maxHeartbeats 3200000 in
theorem iparse_nil (t : ByteArray) (idx : Int) (w : World) (hp : Calls Tryd.prog 24 #[.string t, .int .i64 idx] w (ParseGood [] w)) :
    Calls Tryd.prog 14 #[.string t, .int .i64 idx] w fun e w' => e = .returned (.tuple #[.slice none 0 0, .bool true]) ∧ Below w.heap.size w w' := by
  have HP := hide hp
  clear hp
  go_enter Tryd.func14, Tryd.ntmps14
  go_wp2_with fail
  refine (unhide HP).mono ?_
  rintro x w2 ⟨v, gs, rfl, _, _, hv, hb2⟩
  obtain rfl := hv rfl
  go_wp2_with fail
  go_loopg [4, 18] 1 (fun g s4 s18 wr => s4 = .slice none 0 0 ∧ s18 = .int .i64 0 ∧ wr = w2)
  case atStart => exact ⟨rfl, rfl, rfl⟩
  case round =>
    obtain ⟨rfl, rfl, rfl⟩ := hrel
    go_wp2
    go_quiet (fail)
    go_wp2
    go_ret2
    exact ⟨rfl, below_drewN hb2 _⟩

theorem flat_snoc {xs : List IOp} {k : Nat} {y : IOp} (h : xs[k]? = some y) : flat (xs.take (k + 1)) = flat (xs.take k) ++ (iCells y).toList := by
  obtain ⟨h1, rfl⟩ := List.getElem?_eq_some_iff.1 h
  rw [List.take_succ_eq_append_getElem h1]
  unfold flat
  rw [List.flatMap_append]
  simp only [List.flatMap_cons, List.flatMap_nil, List.append_nil]
theorem new_cells (w : World) (ty : TypeId) (cs : Array Value) (j : Nat) (u : Value) (h : cs.toList[j]? = some u) : (w.alloc (.cells cs ty)).cell? ((⟨w.heap.size, 0, none⟩ : Addr).add j) = some u := by
  rw [Addr.add_mid, Nat.zero_add, (Blk.new w ty cs).cell j]
  simpa using h
theorem one_cells (x : IOp) (u : Value) (h : u ∈ (iCells x).toList) : u.oneCell' = true := by
  simp only [iCells, List.mem_cons, List.not_mem_nil, or_false] at h
  rcases h with h | h | h | h | h | h | h | h | h | h | h | h | h | h | h | h | h | h | h <;> (subst h; rfl)
theorem iop_lit (o : Nat) (text : ByteArray) (st en : Int) (fl : ByteArray) (vb vs ve ix arg w1 w2 w3 w4 w5 p1 p2 p3 p4 p5 : Int) (w : World) (h : Blk w o 70 (pCells ⟨text, st, en, fl, vb, vs, ve, ix, arg, ⟨w1, w2, w3, w4, w5⟩, ⟨p1, p2, p3, p4, p5⟩⟩)) :
    Calls Tryd.prog 22 #[.pointer (some ⟨o, 0, none⟩)] w fun e w' => e = .returned (.agg #[.string text, .int .i64 st, .int .i64 en, .string fl, .int .i32 vb, .int .i64 vs, .int .i64 ve, .int .i64 ix, .int .i64 arg, .int .i64 w1, .int .i64 w2, .int .i64 w3, .int .i64 w4, .int .i64 w5, .int .i64 p1, .int .i64 p2, .int .i64 p3, .int .i64 p4, .int .i64 p5]) ∧ Below w.heap.size w w' := iop_any o _ w h
def IPR (B n g cap : Nat) (gs : List Nat) (xs : List IOp) (w : World) (k : Nat) (v : Value) (wr : World) : Prop :=
  wr.ownsRow B 32 19 v k (flat (xs.take k)) ∧ wr.ownsRow B 74 1 (.slice (some ⟨g, 0, none⟩) n cap) n (ptrs gs) ∧ OpsAt B wr gs xs ∧ Below B w wr

set_option maxRecDepth 100000 in
set_option maxHeartbeats 3200000 in
theorem iparse_good (t : ByteArray) (idx : Int) (w : World) (xs : List IOp) (hn : 0 < xs.length) (hm : xs.length ≤ 500000000000) (hp : Calls Tryd.prog 24 #[.string t, .int .i64 idx] w (ParseGood xs w)) :
    Calls Tryd.prog 14 #[.string t, .int .i64 idx] w fun e w' => ∃ v : Value, e = .returned (.tuple #[v, .bool true]) ∧ w'.ownsRow w.heap.size 32 19 v xs.length (flat xs) ∧ Below w.heap.size w w' := by
  have HP := hide hp
  clear hp
  obtain ⟨n, hxn⟩ : ∃ n, xs.length = n := ⟨_, rfl⟩
  rw [hxn] at hn hm
  obtain ⟨i0, hi, hz0, hz1, hz2⟩ := info_parts (show (Tryd.prog.info? 32).map (fun i => (i.zero, i.size, i.bytes)) = some (some (.agg (iCells ⟨⟨#[]⟩, 0, 0, ⟨#[]⟩, 0, 0, 0, 0, 0, ⟨0, 0, 0, 0, 0⟩, ⟨0, 0, 0, 0, 0⟩⟩)), 19, 168) by kernel_rfl)
  have HXN := hide hxn
  have HZ1 := hide hz1
  have HZ2 := hide hz2
  clear hz1 hz2 hxn
  go_enter Tryd.func14, Tryd.ntmps14
  go_wp2_with fail
  refine (unhide HP).mono ?_
  rintro x w2 ⟨v, gs, rfl, h1, h2, _, hb2⟩
  rw [unhide HXN] at h1
  obtain ⟨g, cap, rfl⟩ : ∃ g cap, v = .slice (some ⟨g, 0, none⟩) n cap := by
    rcases h1.2 with ⟨_, h0⟩ | ⟨g, cap, cur, hv, _⟩
    · omega
    · exact ⟨g, cap, hv⟩
  go_wp2_with fail
  go_loopg [4, 18] (n + 1) (fun G s4 s18 wr => ∃ k : Nat, k ≤ n ∧ n - k < G ∧ s18 = .int .i64 k ∧ Hid (IPR w.heap.size n g cap gs xs w k s4 wr))
  case atStart => exact ⟨0, Nat.zero_le _, by omega, rfl, ⟨rfl, .inl ⟨rfl, rfl⟩⟩, h1, h2, hb2⟩
  case round =>
    obtain ⟨k, hk, hG, rfl, hR⟩ := hrel
    clear h1 h2 hb2
    by_cases hlt : k < n
    · have hj0 : (0 : Int) ≤ (k : Int) := by omega
      have hj1 : (k : Int) < (n : Int) := by omega
      obtain ⟨q1, q2, q3, q4⟩ := unhide hR
      obtain ⟨y, hy⟩ : ∃ y, xs[k]? = some y := ⟨xs[k]'(by have := unhide HXN; omega), List.getElem?_eq_getElem _⟩
      obtain ⟨p, hpk⟩ : ∃ p, gs[k]? = some p := ⟨gs[k]'(by have := unhide HXN; have := q3.1; omega), List.getElem?_eq_getElem _⟩
      obtain ⟨hpB, hpb⟩ := q3.2 k p y hpk hy
      have hc : wr.cell? ⟨g, k, none⟩ = some (.pointer (some ⟨p, 0, none⟩)) := by
        rw [q2.cellAt k (by omega)]
        simp [ptrs, hpk]
      have HY := hide hy
      have hin := q4.size
      clear hy hpk q1 q2 q3 q4
      go_wp2_with fail
      obtain ⟨text, st, en, fl, vb, vs, ve, ix, arg, ⟨w1, w2, w3, w4, w5⟩, ⟨p1, p2, p3, p4, p5⟩⟩ := y
      refine (iop_lit p text st en fl vb vs ve ix arg w1 w2 w3 w4 w5 p1 p2 p3 p4 p5 wr hpb).mono ?_
      rintro x W3 ⟨rfl, hb3⟩
      have hq : IPR w.heap.size n g cap gs xs w k u4 W3 := by
        obtain ⟨q1, q2, q3, q4⟩ := unhide hR
        have hgr : wr.grownBy W3 none := ⟨hb3.os, hb3.tape, hb3.output, hb3.size, fun j hj _ => hb3.block j hj⟩
        exact ⟨q1.kept hgr (Classical.em _), q2.kept hgr (Classical.em _), q3.keep fun g x h => h.below hb3 h.lt, q4.trans (hb3.mono q4.size)⟩
      have hown3 := hq.1
      have HQ := hide hq
      have hin3 : w.heap.size ≤ W3.heap.size := hq.2.2.2.size
      clear hR hc hpb hq
      have C1 : Hid (∀ j u, (#[.string text, .int .i64 st, .int .i64 en, .string fl, .int .i32 vb, .int .i64 vs, .int .i64 ve, .int .i64 ix, .int .i64 arg, .int .i64 w1, .int .i64 w2, .int .i64 w3, .int .i64 w4, .int .i64 w5, .int .i64 p1, .int .i64 p2, .int .i64 p3, .int .i64 p4, .int .i64 p5] : Array Value).toList[j]? = some u → (W3.alloc (.cells (#[.string text, .int .i64 st, .int .i64 en, .string fl, .int .i32 vb, .int .i64 vs, .int .i64 ve, .int .i64 ix, .int .i64 arg, .int .i64 w1, .int .i64 w2, .int .i64 w3, .int .i64 w4, .int .i64 w5, .int .i64 p1, .int .i64 p2, .int .i64 p3, .int .i64 p4, .int .i64 p5] : Array Value) 32)).cell? ((⟨W3.heap.size, 0, none⟩ : Addr).add j) = some u) := new_cells W3 32 (#[.string text, .int .i64 st, .int .i64 en, .string fl, .int .i32 vb, .int .i64 vs, .int .i64 ve, .int .i64 ix, .int .i64 arg, .int .i64 w1, .int .i64 w2, .int .i64 w3, .int .i64 w4, .int .i64 w5, .int .i64 p1, .int .i64 p2, .int .i64 p3, .int .i64 p4, .int .i64 p5] : Array Value)
      have C2 : Hid (∀ u ∈ (#[.string text, .int .i64 st, .int .i64 en, .string fl, .int .i32 vb, .int .i64 vs, .int .i64 ve, .int .i64 ix, .int .i64 arg, .int .i64 w1, .int .i64 w2, .int .i64 w3, .int .i64 w4, .int .i64 w5, .int .i64 p1, .int .i64 p2, .int .i64 p3, .int .i64 p4, .int .i64 p5] : Array Value).toList, u.oneCell' = true) := one_cells ⟨text, st, en, fl, vb, vs, ve, ix, arg, ⟨w1, w2, w3, w4, w5⟩, ⟨p1, p2, p3, p4, p5⟩⟩
      have C3 : Hid (k + 1 ≤ maxLen) := by show _ ≤ _; unfold maxLen; omega
      have C4 : Hid ((k + 1) * 168 ≤ 140737488355328) := by show _ ≤ _; omega
      have C5 : Hid (w.heap.size ≤ (W3.alloc (.cells (#[.string text, .int .i64 st, .int .i64 en, .string fl, .int .i32 vb, .int .i64 vs, .int .i64 ve, .int .i64 ix, .int .i64 arg, .int .i64 w1, .int .i64 w2, .int .i64 w3, .int .i64 w4, .int .i64 w5, .int .i64 p1, .int .i64 p2, .int .i64 p3, .int .i64 p4, .int .i64 p5] : Array Value) 32)).heap.size) := by show _ ≤ _; simp; omega
      go_wp2_with (at_builtin; refine wpList_append_own _ rfl _ _ 40 rfl w.heap.size 32 i0 (.agg (iCells ⟨⟨#[]⟩, 0, 0, ⟨#[]⟩, 0, 0, 0, 0, 0, ⟨0, 0, 0, 0, 0⟩, ⟨0, 0, 0, 0, 0⟩⟩)) 19 168 Tryd.underlying40 hi hz0 (unhide HZ1) (unhide HZ2) rfl (by decide) _ _ _ rfl (hown3.alloc _) ⟨W3.heap.size, 0, none⟩ 1 1 (#[.string text, .int .i64 st, .int .i64 en, .string fl, .int .i32 vb, .int .i64 vs, .int .i64 ve, .int .i64 ix, .int .i64 arg, .int .i64 w1, .int .i64 w2, .int .i64 w3, .int .i64 w4, .int .i64 w5, .int .i64 p1, .int .i64 p2, .int .i64 p3, .int .i64 p4, .int .i64 p5] : Array Value).toList rfl rfl (unhide C1) (unhide C2) (unhide C3) (unhide C4) (unhide C5) ?_; intro v' W5 hown5 hg5 _; have HG5 := hide hg5; clear hg5)
      go_roundg (gk - 1)
      case measure => omega
      case rel =>
        obtain ⟨q1, q2, q3, q4⟩ := unhide HQ
        have hg5 := unhide HG5
        have h3a := q1.alloc (.cells #[.string text, .int .i64 st, .int .i64 en, .string fl, .int .i32 vb, .int .i64 vs, .int .i64 ve, .int .i64 ix, .int .i64 arg, .int .i64 w1, .int .i64 w2, .int .i64 w3, .int .i64 w4, .int .i64 w5, .int .i64 p1, .int .i64 p2, .int .i64 p3, .int .i64 p4, .int .i64 p5] 32)
        have q2a := q2.alloc (.cells #[.string text, .int .i64 st, .int .i64 en, .string fl, .int .i32 vb, .int .i64 vs, .int .i64 ve, .int .i64 ix, .int .i64 arg, .int .i64 w1, .int .i64 w2, .int .i64 w3, .int .i64 w4, .int .i64 w5, .int .i64 p1, .int .i64 p2, .int .i64 p3, .int .i64 p4, .int .i64 p5] 32)
        refine ⟨k + 1, by omega, by omega, by go_num, ?_, ?_, ?_, ?_⟩
        · rw [flat_snoc (unhide HY)]
          exact hown5
        · refine q2a.kept hg5 (.inr ?_)
          rcases q2a.2 with ⟨h0, _⟩ | ⟨g', cap', cur, hv, _, hcur, _⟩
          · cases h0
          · have hb : Blk (W3.alloc (.cells #[.string text, .int .i64 st, .int .i64 en, .string fl, .int .i32 vb, .int .i64 vs, .int .i64 ve, .int .i64 ix, .int .i64 arg, .int .i64 w1, .int .i64 w2, .int .i64 w3, .int .i64 w4, .int .i64 w5, .int .i64 p1, .int .i64 p2, .int .i64 p3, .int .i64 p4, .int .i64 p5] 32)) g' 74 cur := hcur
            have := own_blk_ne h3a hb (by decide)
            rw [hv]
            exact fun e => this e.symm
        · exact q3.keep fun g' x' h => (h.alloc _).grown hg5 (own_blk_ne h3a (h.alloc _) (by decide)).symm
        · exact (q4.alloc hin3 _).grown hg5 (by simp; omega) (fun j hj => (h3a.lt j hj).1)
    · have hd : decide (k < n) = false := decide_eq_false hlt
      obtain rfl : k = n := by omega
      clear hk hG hlt
      go_wp2
      go_quiet (fail)
      go_wp2
      go_ret2
      obtain ⟨q1, q2, q3, q4⟩ := unhide hR
      refine ⟨_, rfl, ?_, below_drewN q4 _⟩
      rw [← unhide HXN, List.take_length] at q1
      exact q1

theorem iop_len (first : Int) : ∀ (f i : Nat) (l : L) (an : Int) (xs : List IOp), parseFrom first f i l an = some xs → xs.length ≤ f
  | 0, _, _, _, xs, h => by
    injection h with h; subst h; exact Nat.le_refl _
  | f + 1, _, [], _, xs, h => by
    injection h with h; subst h; exact Nat.zero_le _
  | f + 1, i, c :: r, an, xs, h => by
    unfold parseFrom at h
    split at h
    · obtain ⟨x, _, h2⟩ := Option.bind_eq_some_iff.1 h
      obtain ⟨ys, h3, rfl⟩ := Option.map_eq_some_iff.1 h2
      have := iop_len first f _ _ _ _ h3
      simp
      omega
    · have := iop_len first f _ _ _ _ h
      omega
/-- **impl.Parse.** -/
theorem iparse_any (t : ByteArray) (idx : Int) (w : World) (hG : G w) (hs : t.size ≤ 400000000000) (hi0 : 0 ≤ idx) (hi1 : idx ≤ 999999999) :
    Calls Tryd.prog 14 #[.string t, .int .i64 idx] w (IParse t.data.toList idx w) := by
  by_cases hc : (37 : UInt8) ∈ t.data.toList
  · have h := parse_yes t idx w hG (by omega) hi0 hi1 hc
    cases hp : parseM t.data.toList idx with
    | none =>
      refine (iparse_bad t idx w (h.mono fun e w' h => ?_)).mono fun e w' h => ?_
      · rw [ParsePost, hp] at h
        exact h
      · rw [IParse, hp]
        exact h
    | some xs =>
      have hg : Calls Tryd.prog 24 #[.string t, .int .i64 idx] w (ParseGood xs w) := h.mono fun e w' h => by
        rw [ParsePost, hp] at h
        exact h
      have hlen : xs.length ≤ t.data.toList.length + 1 := by
        unfold parseM at hp
        rw [if_pos hc] at hp
        exact iop_len _ _ _ _ _ _ hp
      rw [← size_data] at hlen
      cases xs with
      | nil =>
        refine (iparse_nil t idx w hg).mono fun e w' h => ?_
        rw [IParse, hp]
        exact ⟨_, h.1, ⟨rfl, .inl ⟨rfl, rfl⟩⟩, h.2⟩
      | cons y ys =>
        refine (iparse_good t idx w (y :: ys) (by simp) (by omega) hg).mono fun e w' h => ?_
        rw [IParse, hp]
        exact h
  · have hp : parseM t.data.toList idx = none := by unfold parseM; rw [if_neg hc]
    refine (iparse_bad t idx w (parse_no t idx w (by omega) hc)).mono fun e w' h => ?_
    rw [IParse, hp]
    exact h
end Go.Proofs.YtjbmphfgckhaeaaDoor
