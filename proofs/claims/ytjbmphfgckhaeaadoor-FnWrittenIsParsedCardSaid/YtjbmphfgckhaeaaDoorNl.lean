/-
  laws.written: the text of a told operation, where it answers true. Conditions: the told operation's cells (Ints).
-/
import Derived.Test.YtjbmphfgckhaeaaDoorGp
namespace Go.Proofs.YtjbmphfgckhaeaaDoor
open Go.RowKit

def Wrote (v : TV) (fs ws ps : List Int) (w : World) (e : Ending) (w' : World) : Prop :=
  ∃ (s : ByteArray) (b : Bool), e = .returned (.tuple #[.string s, .bool b]) ∧ Below w.heap.size w w' ∧ (b = true → ∃ t : TO, t.ok ∧ Says t v fs ws ps ∧ s = mk (t.op ++ t.tx))
theorem flag_piece (z : Int) (h0 : 0 ≤ z) (h4 : z ≤ 4) : (⟨#[35, 48, 43, 45, 32]⟩ : ByteArray).extract z.toNat (z.toNat + 1) = mk [flagC z] := by
  refine eq_mk ?_
  rw [Lib.extract_data]
  have : z = 0 ∨ z = 1 ∨ z = 2 ∨ z = 3 ∨ z = 4 := by omega
  rcases this with rfl | rfl | rfl | rfl | rfl <;> rfl
/-- What is written behind k of the two sizes. -/
structure Sizes (fs ws ps : List Int) (k : Nat) (s : ByteArray) : Prop where
  z : k = 0 → s = mk (37 :: fs.map flagC)
  o : k = 1 → ∃ wd : Wr, wd.ok ∧ wd.says ws ∧ s = mk (37 :: (fs.map flagC ++ wd.txt))
  t : k = 2 → ∃ wd pr : Wr, wd.ok ∧ wd.says ws ∧ pr.ok ∧ pr.says ps ∧ s = mk (37 :: (fs.map flagC ++ (wd.txt ++ prTxt pr)))
theorem size_eq0_num {s : ByteArray} {fl : L} {m : Nat} (h : s = mk (37 :: fl)) (_ : 0 < m) : s ++ mk (digs 7 m) = mk (37 :: (fl ++ (Wr.num m).txt)) := by
  rw [h, mk_app]; rfl
theorem size_eq0_star {s : ByteArray} {fl : L} (h : s = mk (37 :: fl)) : s ++ (⟨#[42]⟩ : ByteArray) = mk (37 :: (fl ++ Wr.star.txt)) := by
  rw [h]; exact mk_app (37 :: fl) [42]
theorem at_piece (m : Nat) : (⟨#[91]⟩ : ByteArray) ++ mk (digs 7 m) ++ (⟨#[93, 42]⟩ : ByteArray) = mk (Wr.at m).txt := by
  show mk [91] ++ mk (digs 7 m) ++ mk [93, 42] = _
  rw [mk_app, mk_app]
  simp [Wr.txt]
theorem size_eq0_at {s : ByteArray} {fl : L} {m : Nat} (h : s = mk (37 :: fl)) (_ : 0 < m) : s ++ ((⟨#[91]⟩ : ByteArray) ++ mk (digs 7 m) ++ (⟨#[93, 42]⟩ : ByteArray)) = mk (37 :: (fl ++ (Wr.at m).txt)) := by
  rw [at_piece, h, mk_app]; rfl
theorem size_eq1_any {s x : ByteArray} {fl wd : L} {w : Wr} (h : s = mk (37 :: (fl ++ wd))) (hw : w ≠ .no) (hx : x = mk w.txt) : s ++ (⟨#[46]⟩ : ByteArray) ++ x = mk (37 :: (fl ++ (wd ++ prTxt w))) := by
  rw [h, hx, prTxt_yes hw]
  show mk _ ++ mk [46] ++ mk _ = _
  rw [mk_app, mk_app]
  simp
theorem size_eq1_num {s : ByteArray} {fl wd : L} {m : Nat} (h : s = mk (37 :: (fl ++ wd))) (_ : 0 < m) : s ++ (⟨#[46]⟩ : ByteArray) ++ mk (digs 7 m) = mk (37 :: (fl ++ (wd ++ prTxt (.num m)))) := size_eq1_any h (by simp) rfl
theorem size_eq1_star {s : ByteArray} {fl wd : L} (h : s = mk (37 :: (fl ++ wd))) : s ++ (⟨#[46]⟩ : ByteArray) ++ (⟨#[42]⟩ : ByteArray) = mk (37 :: (fl ++ (wd ++ prTxt .star))) := size_eq1_any h (by simp) rfl
theorem size_eq1_at {s : ByteArray} {fl wd : L} {m : Nat} (h : s = mk (37 :: (fl ++ wd))) (_ : 0 < m) : s ++ (⟨#[46]⟩ : ByteArray) ++ ((⟨#[91]⟩ : ByteArray) ++ mk (digs 7 m) ++ (⟨#[93, 42]⟩ : ByteArray)) = mk (37 :: (fl ++ (wd ++ prTxt (.at m)))) := size_eq1_any h (by simp) (at_piece m)
theorem enc_letter (m : Nat) (h0 : 65 ≤ m) (h1 : m ≤ 122) : Utf8.encode (m : Int) = mk [UInt8.ofNat m] := by
  have hv : Utf8.valid (m : Int) = true := by
    unfold Utf8.valid
    simp
    omega
  unfold Utf8.encode
  simp only [hv, if_true, Int.toNat_natCast]
  rw [if_pos (by omega)]
  rfl
theorem enc_size (r : Int) : (Utf8.encode r).size ≤ 4 := by
  unfold Utf8.encode
  dsimp only
  repeat' split
  all_goals simp [ByteArray.size]
theorem ix_piece (m : Nat) : (⟨#[91]⟩ : ByteArray) ++ mk (digs 7 m) ++ (⟨#[93]⟩ : ByteArray) = mk (91 :: (digs 7 m ++ [93])) := by
  show mk [91] ++ mk (digs 7 m) ++ mk [93] = _
  rw [mk_app, mk_app]
  simp
/-- No sign % ahead of the place. -/
def TxR (s : ByteArray) (k : Nat) : Prop := ∀ j, (h : j < s.size) → j < k → s[j] ≠ 37
theorem mk_self (s : ByteArray) : mk s.data.toList = s := rfl
theorem written_end {fs ws ps : List Int} {wd pr : Wr} {s r tx : ByteArray} {p1 p2 p3 : Option Addr} {n1 c1 n2 c2 n3 c3 : Nat} {vb : Int} (hf : s = mk (37 :: fs.map flagC) ∧ ∀ z ∈ fs, 0 ≤ z ∧ z ≤ 4)
    {s2 : ByteArray} (hs : wd.ok ∧ wd.says ws ∧ pr.ok ∧ pr.says ps ∧ s2 = mk (37 :: (fs.map flagC ++ (wd.txt ++ prTxt pr)))) (i : Nat) (hi : i ≤ 1000) (hr : r = s2 ++ mk (ixTxt i)) (ht : TxR tx tx.size)
    (hv : (65 ≤ vb ∧ vb ≤ 90) ∨ (97 ≤ vb ∧ vb ≤ 122)) : ∃ t : TO, t.ok ∧ Says t ⟨p1, n1, c1, p2, n2, c2, p3, n3, c3, (i : Int), vb, tx⟩ fs ws ps ∧ r ++ Utf8.encode vb ++ tx = mk (t.op ++ t.tx) := by
  obtain ⟨m, rfl⟩ : ∃ m : Nat, vb = m := ⟨vb.toNat, by omega⟩
  have hm : (UInt8.ofNat m).toNat = m := by simp; omega
  refine ⟨⟨fs.map flagC, wd, pr, i, UInt8.ofNat m, tx.data.toList⟩, ⟨flags_isF hf.2, hs.1, hs.2.2.1, hi, ?_, ?_⟩, ⟨rfl, hf.2, hs.2.1, hs.2.2.2.1, rfl, ?_, rfl⟩, ?_⟩
  · show letter (UInt8.ofNat m)
    unfold letter
    rw [hm]
    omega
  · intro h
    obtain ⟨j, hj, he⟩ := List.getElem_of_mem h
    have hj' : j < tx.size := by rw [size_data]; exact hj
    exact ht j hj' hj' he
  · rw [hm]
  · rw [enc_letter m (by omega) (by omega), hr, hs.2.2.2.2]
    show mk _ ++ mk _ ++ mk _ ++ mk tx.data.toList = _
    rw [mk_app, mk_app, mk_app]
    simp [TO.op, List.append_assoc]
set_option maxRecDepth 100000 in
set_option maxHeartbeats 12800000 in
theorem written_any (p1 : Option Addr) (n1 c1 : Nat) (p2 : Option Addr) (n2 c2 : Nat) (p3 : Option Addr) (n3 c3 : Nat) (ix vb : Int) (tx : ByteArray) (fs ws ps : List Int) (w : World)
    (hf : Ints w p1 n1 fs) (hw : Ints w p2 n2 ws) (hp : Ints w p3 n3 ps) (hn1 : n1 ≤ 2147483647) (htx : tx.size ≤ 2147483647) :
    Calls Tryd.prog 18 #[.agg #[.slice p1 n1 c1, .slice p2 n2 c2, .slice p3 n3 c3, .int .i64 ix, .int .i32 vb, .string tx]] w (Wrote ⟨p1, n1, c1, p2, n2, c2, p3, n3, c3, ix, vb, tx⟩ fs ws ps w) := by
  have HF := hide hf
  have HW := hide hw
  have HP := hide hp
  clear hf hw hp
  go_enter Tryd.func18, Tryd.ntmps18
  go_wp2_with fail
  go_loopg [4, 13] (n1 + 1) (fun f s4 s13 wr => ∃ (k : Nat) (s : ByteArray), k ≤ n1 ∧ n1 - k < f ∧ s13 = .int .i64 k ∧ s4 = .string s ∧ s.size ≤ k + 1 ∧
    wr = (w.alloc (Obj.cells #[.slice p1 n1 c1, .slice p2 n2 c2, .slice p3 n3 c3, .int .i64 ix, .int .i32 vb, .string tx] 51)) ∧
    Hid (s = mk (37 :: (fs.take k).map flagC) ∧ ∀ i z, i < k → fs[i]? = some z → 0 ≤ z ∧ z ≤ 4))
  case atStart => exact ⟨0, _, Nat.zero_le _, by omega, rfl, rfl, by decide, rfl, rfl, fun i z h => by omega⟩
  case round =>
    obtain ⟨k, s, hk, hG, rfl, rfl, hss, rfl, hR⟩ := hrel
    by_cases hlt : k < n1
    · have hj0 : (0 : Int) ≤ (k : Int) := by omega
      have hj1 : (k : Int) < (n1 : Int) := by omega
      have hd : decide (k < n1) = true := decide_eq_true hlt
      obtain ⟨a, rfl⟩ : ∃ a, p1 = some a := by
        cases p1 with
        | none =>
          have := (unhide HF).none rfl
          omega
        | some a => exact ⟨a, rfl⟩
      obtain ⟨z, hz⟩ : ∃ z, fs[k]? = some z := ⟨fs[k]'(by have := (unhide HF).len; omega), List.getElem?_eq_getElem _⟩
      have HZ := hide hz
      have hc : (w.alloc (Obj.cells #[.slice (some a) n1 c1, .slice p2 n2 c2, .slice p3 n3 c3, .int .i64 ix, .int .i32 vb, .string tx] 51)).cell? (a.add k) = some (.int .i64 z) :=
        ((unhide HF).below ((Below.refl _ _).alloc (Nat.le_refl _) _)).cell a k z rfl hz
      clear hz
      by_cases hz0 : z < 0
      · have f0 : decide (z < 0) = true := decide_eq_true hz0
        go_wp2
        go_ret2
        exact ⟨_, false, rfl, (Below.refl _ _).alloc (Nat.le_refl _) _, fun h => by cases h⟩
      have f0 : decide (z < 0) = false := decide_eq_false hz0
      by_cases hz4 : z > 4
      · have f1 : decide (z > 4) = true := decide_eq_true hz4
        go_wp2
        go_ret2
        exact ⟨_, false, rfl, (Below.refl _ _).alloc (Nat.le_refl _) _, fun h => by cases h⟩
      have f1 : decide (z > 4) = false := decide_eq_false hz4
      obtain ⟨m, rfl⟩ : ∃ m : Nat, z = m := ⟨z.toNat, by omega⟩
      have m4 : (m : Int) ≤ 4 := by omega
      have HP1 : Hid ((⟨#[35, 48, 43, 45, 32]⟩ : ByteArray).extract m (m + 1) = mk [flagC m]) := flag_piece m (by omega) m4
      have m0 : (0 : Int) ≤ (m : Int) := by omega
      have hs0 : s.size ≤ 2147483648 := by omega
      go_wp2
      go_roundg (gk - 1)
      case measure => omega
      case rel =>
        have hE : s ++ (⟨#[35, 48, 43, 45, 32]⟩ : ByteArray).extract m (m + 1) = mk (37 :: (fs.take (k + 1)).map flagC) := by
          rw [unhide HP1, (unhide hR).1, mk_app, List.take_add_one, unhide HZ]
          simp
        refine ⟨k + 1, _, by omega, by omega, by go_num, rfl, ?_, rfl, hE, fun i z hi hz => ?_⟩
        · rw [unhide HP1, ByteArray.size_append, mk_size']
          simp
          omega
        · by_cases he : i = k
          · subst he
            have := (unhide HZ).symm.trans hz
            injection this with this
            subst this
            exact ⟨m0, m4⟩
          · exact (unhide hR).2 i z (by omega) hz
    · have hd : decide (k < n1) = false := decide_eq_false hlt
      have hkn : k = n1 := by omega
      subst hkn
      have hFL : Hid (s = mk (37 :: fs.map flagC) ∧ ∀ z ∈ fs, 0 ≤ z ∧ z ≤ 4) := by
        have hl := (unhide HF).len
        refine ⟨?_, fun z hz => ?_⟩
        · rw [(unhide hR).1, List.take_of_length_le (by omega)]
        · obtain ⟨i, hi⟩ := List.getElem?_of_mem hz
          exact (unhide hR).2 i z (by have := (List.getElem?_eq_some_iff.1 hi).1; omega) hi
      clear hR hG hlt
      have hss2 : s.size ≤ 2147483648 := by omega
      clear hss
      go_wp2_with fail
      go_loopg [4, 36] 3 (fun f s4 s36 wr => ∃ (j : Nat) (s : ByteArray), j ≤ 2 ∧ 2 - j < f ∧ s36 = .int .i64 j ∧ s4 = .string s ∧ s.size ≤ 2147483648 + 20 * j ∧
        wr = ((w.alloc (Obj.cells #[.slice p1 k c1, .slice p2 n2 c2, .slice p3 n3 c3, .int .i64 ix, .int .i32 vb, .string tx] 51)).alloc (Obj.cells #[.slice p2 n2 c2, .slice p3 n3 c3] 49)) ∧ Hid (Sizes fs ws ps j s))
      case atStart => exact ⟨0, s, by omega, by omega, rfl, rfl, by omega, rfl, ⟨fun _ => (unhide hFL).1, (fun h => by cases h), (fun h => by cases h)⟩⟩
      case round =>
        obtain ⟨j, s, hj, hG, rfl, rfl, hss, rfl, hS⟩ := hrel
        have hj3 : j = 0 ∨ j = 1 ∨ j = 2 := by omega
        rcases hj3 with rfl | rfl | rfl
        · have hZ := (unhide hS).z rfl
          have HS : Hid (s = mk (37 :: fs.map flagC)) := hZ
          clear hZ hS
          have hlen := (unhide HW).len
          by_cases z0 : n2 = 0
          · have hl0 : ws = [] := List.eq_nil_of_length_eq_zero (by omega)
            have HN := hide hl0
            clear hl0 hlen
            subst z0
            go_wp2
            go_roundg (gk - 1)
            case measure => omega
            case rel => exact ⟨1, _, by omega, by omega, by go_num, rfl, by omega, rfl, ⟨(fun h => by cases h), fun _ => ⟨.no, trivial, (unhide HN), by rw [unhide HS]; simp [Wr.txt]⟩, (fun h => by cases h)⟩⟩
          have z0d : ((n2 : Int) == 0) = false := by rw [beq_eq_false_iff_ne]; omega
          obtain ⟨a, rfl⟩ : ∃ a, p2 = some a := by
            cases p2 with
            | none => exact absurd ((unhide HW).none rfl) z0
            | some a => exact ⟨a, rfl⟩
          by_cases z1 : n2 = 1
          · subst z1
            obtain ⟨z, hz⟩ : ∃ z, ws = [z] := by
              match ws, hlen with
              | [z], _ => exact ⟨z, rfl⟩
            have HZ := hide hz
            have hc : ((w.alloc (Obj.cells #[.slice p1 k c1, .slice (some a) 1 c2, .slice p3 n3 c3, .int .i64 ix, .int .i32 vb, .string tx] 51)).alloc (Obj.cells #[.slice (some a) 1 c2, .slice p3 n3 c3] 49)).cell? a = some (.int .i64 z) := ((unhide HW).below (((Below.refl _ _).alloc (Nat.le_refl _) _).alloc (by simp) _)).cell a 0 z rfl (by rw [hz]; rfl)
            clear hz hlen
            by_cases y0 : z > 0
            · have f0 : decide (z > 0) = true := decide_eq_true y0
              by_cases y1 : z < 100000
              · have f1 : decide (z < 100000) = true := decide_eq_true y1
                obtain ⟨m, he⟩ : ∃ m : Nat, z = m := ⟨z.toNat, by omega⟩
                have C : Hid (∀ w1 : World, Calls Tryd.prog 26 #[.int .i64 z] w1 fun e w' => e = .returned (.string (mk (digs 7 m))) ∧ w1 = w') := fun w1 => by rw [he]; exact number_any 7 m (by decide) (by decide) (by omega) (by omega) w1
                have hsz : (mk (digs 7 m)).size ≤ 7 := by rw [mk_size']; exact (digs_len 7 m (by decide)).2
                have HM := hide he
                clear he
                go_wp2_with fail
                refine (unhide C _).mono ?_
                rintro x w2 ⟨rfl, rfl⟩
                go_wp2
                go_roundg (gk - 1)
                case measure => omega
                case rel => exact ⟨1, _, by omega, by omega, by go_num, rfl, (by simp only [ByteArray.size_append]; first | omega | (have : (⟨#[46]⟩ : ByteArray).size = 1 := rfl; omega)), rfl, ⟨(fun h => by cases h), fun _ => ⟨.num m, ⟨by have := unhide HM; omega, by have := unhide HM; omega⟩, (by show ws = [((m : Nat) : Int)]; rw [← unhide HM]; exact unhide HZ), size_eq0_num (unhide HS) (by have := unhide HM; omega)⟩, (fun h => by cases h)⟩⟩
              · have f1 : decide (z < 100000) = false := decide_eq_false y1
                go_wp2
                go_ret2
                exact ⟨_, false, rfl, ((Below.refl _ _).alloc (Nat.le_refl _) _).alloc (by simp) _, fun h => by cases h⟩
            · have f0 : decide (z > 0) = false := decide_eq_false y0
              go_wp2
              go_ret2
              exact ⟨_, false, rfl, ((Below.refl _ _).alloc (Nat.le_refl _) _).alloc (by simp) _, fun h => by cases h⟩
          have z1d : ((n2 : Int) == 1) = false := by rw [beq_eq_false_iff_ne]; omega
          by_cases z2 : n2 = 2
          · subst z2
            obtain ⟨x, z, hz⟩ : ∃ x z, ws = [x, z] := by
              match ws, hlen with
              | [x, z], _ => exact ⟨x, z, rfl⟩
            have HZ := hide hz
            have hc : ((w.alloc (Obj.cells #[.slice p1 k c1, .slice (some a) 2 c2, .slice p3 n3 c3, .int .i64 ix, .int .i32 vb, .string tx] 51)).alloc (Obj.cells #[.slice (some a) 2 c2, .slice p3 n3 c3] 49)).cell? ⟨a.block, a.off + 1, none⟩ = some (.int .i64 z) := ((unhide HW).below (((Below.refl _ _).alloc (Nat.le_refl _) _).alloc (by simp) _)).cell a 1 z rfl (by rw [hz]; rfl)
            clear hz hlen
            by_cases y0 : z = 0
            · subst y0
              go_wp2
              go_roundg (gk - 1)
              case measure => omega
              case rel => exact ⟨1, _, by omega, by omega, by go_num, rfl, (by simp only [ByteArray.size_append]; have : (⟨#[46]⟩ : ByteArray).size = 1 := rfl; have : (⟨#[42]⟩ : ByteArray).size = 1 := rfl; omega), rfl, ⟨(fun h => by cases h), fun _ => ⟨.star, trivial, ⟨x, unhide HZ⟩, size_eq0_star (unhide HS)⟩, (fun h => by cases h)⟩⟩
            have y0d : (z == 0) = false := by rw [beq_eq_false_iff_ne]; exact y0
            by_cases y1 : z > 0
            · have f0 : decide (z > 0) = true := decide_eq_true y1
              by_cases y2 : z < 1000
              · have f1 : decide (z < 1000) = true := decide_eq_true y2
                obtain ⟨m, rfl⟩ : ∃ m : Nat, z = m := ⟨z.toNat, by omega⟩
                have C : Hid (∀ w1 : World, Calls Tryd.prog 26 #[.int .i64 m] w1 fun e w' => e = .returned (.string (mk (digs 7 m))) ∧ w1 = w') := fun w1 => number_any 7 m (by decide) (by decide) (by omega) (by omega) w1
                have hsz : (mk (digs 7 m)).size ≤ 7 := by rw [mk_size']; exact (digs_len 7 m (by decide)).2
                go_wp2_with fail
                refine (unhide C _).mono ?_
                rintro x2 w2 ⟨rfl, rfl⟩
                go_wp2
                go_roundg (gk - 1)
                case measure => omega
                case rel => exact ⟨1, _, by omega, by omega, by go_num, rfl, (by simp only [ByteArray.size_append]; have : (⟨#[46]⟩ : ByteArray).size = 1 := rfl; have : (⟨#[91]⟩ : ByteArray).size = 1 := rfl; have : (⟨#[93, 42]⟩ : ByteArray).size = 2 := rfl; omega), rfl, ⟨(fun h => by cases h), fun _ => ⟨.at m, ⟨by omega, by omega⟩, ⟨x, unhide HZ⟩, size_eq0_at (unhide HS) (by omega)⟩, (fun h => by cases h)⟩⟩
              · have f1 : decide (z < 1000) = false := decide_eq_false y2
                go_wp2
                go_ret2
                exact ⟨_, false, rfl, ((Below.refl _ _).alloc (Nat.le_refl _) _).alloc (by simp) _, fun h => by cases h⟩
            · have f0 : decide (z > 0) = false := decide_eq_false y1
              go_wp2
              go_ret2
              exact ⟨_, false, rfl, ((Below.refl _ _).alloc (Nat.le_refl _) _).alloc (by simp) _, fun h => by cases h⟩
          have z2d : ((n2 : Int) == 2) = false := by rw [beq_eq_false_iff_ne]; omega
          clear hlen
          go_wp2
          go_ret2
          exact ⟨_, false, rfl, ((Below.refl _ _).alloc (Nat.le_refl _) _).alloc (by simp) _, fun h => by cases h⟩
        · obtain ⟨wd, g1, g2, g3⟩ := (unhide hS).o rfl
          have HS : Hid (wd.ok ∧ wd.says ws ∧ s = mk (37 :: (fs.map flagC ++ wd.txt))) := ⟨g1, g2, g3⟩
          clear g1 g2 g3 hS
          have hlen := (unhide HP).len
          by_cases z0 : n3 = 0
          · have hl0 : ps = [] := List.eq_nil_of_length_eq_zero (by omega)
            have HN := hide hl0
            clear hl0 hlen
            subst z0
            go_wp2
            go_roundg (gk - 1)
            case measure => omega
            case rel => exact ⟨2, _, by omega, by omega, by go_num, rfl, by omega, rfl, ⟨(fun h => by cases h), (fun h => by cases h), fun _ => ⟨wd, .no, (unhide HS).1, (unhide HS).2.1, trivial, (unhide HN), by rw [(unhide HS).2.2]; simp [prTxt]⟩⟩⟩
          have z0d : ((n3 : Int) == 0) = false := by rw [beq_eq_false_iff_ne]; omega
          obtain ⟨a, rfl⟩ : ∃ a, p3 = some a := by
            cases p3 with
            | none => exact absurd ((unhide HP).none rfl) z0
            | some a => exact ⟨a, rfl⟩
          by_cases z1 : n3 = 1
          · subst z1
            obtain ⟨z, hz⟩ : ∃ z, ps = [z] := by
              match ps, hlen with
              | [z], _ => exact ⟨z, rfl⟩
            have HZ := hide hz
            have hc : ((w.alloc (Obj.cells #[.slice p1 k c1, .slice p2 n2 c2, .slice (some a) 1 c3, .int .i64 ix, .int .i32 vb, .string tx] 51)).alloc (Obj.cells #[.slice p2 n2 c2, .slice (some a) 1 c3] 49)).cell? a = some (.int .i64 z) := ((unhide HP).below (((Below.refl _ _).alloc (Nat.le_refl _) _).alloc (by simp) _)).cell a 0 z rfl (by rw [hz]; rfl)
            clear hz hlen
            by_cases y0 : z > 0
            · have f0 : decide (z > 0) = true := decide_eq_true y0
              by_cases y1 : z < 100000
              · have f1 : decide (z < 100000) = true := decide_eq_true y1
                obtain ⟨m, he⟩ : ∃ m : Nat, z = m := ⟨z.toNat, by omega⟩
                have C : Hid (∀ w1 : World, Calls Tryd.prog 26 #[.int .i64 z] w1 fun e w' => e = .returned (.string (mk (digs 7 m))) ∧ w1 = w') := fun w1 => by rw [he]; exact number_any 7 m (by decide) (by decide) (by omega) (by omega) w1
                have hsz : (mk (digs 7 m)).size ≤ 7 := by rw [mk_size']; exact (digs_len 7 m (by decide)).2
                have HM := hide he
                clear he
                go_wp2_with fail
                refine (unhide C _).mono ?_
                rintro x w2 ⟨rfl, rfl⟩
                go_wp2
                go_roundg (gk - 1)
                case measure => omega
                case rel => exact ⟨2, _, by omega, by omega, by go_num, rfl, (by simp only [ByteArray.size_append]; first | omega | (have : (⟨#[46]⟩ : ByteArray).size = 1 := rfl; omega)), rfl, ⟨(fun h => by cases h), (fun h => by cases h), fun _ => ⟨wd, .num m, (unhide HS).1, (unhide HS).2.1, ⟨by have := unhide HM; omega, by have := unhide HM; omega⟩, (by show ps = [((m : Nat) : Int)]; rw [← unhide HM]; exact unhide HZ), size_eq1_num (unhide HS).2.2 (by have := unhide HM; omega)⟩⟩⟩
              · have f1 : decide (z < 100000) = false := decide_eq_false y1
                go_wp2
                go_ret2
                exact ⟨_, false, rfl, ((Below.refl _ _).alloc (Nat.le_refl _) _).alloc (by simp) _, fun h => by cases h⟩
            · have f0 : decide (z > 0) = false := decide_eq_false y0
              go_wp2
              go_ret2
              exact ⟨_, false, rfl, ((Below.refl _ _).alloc (Nat.le_refl _) _).alloc (by simp) _, fun h => by cases h⟩
          have z1d : ((n3 : Int) == 1) = false := by rw [beq_eq_false_iff_ne]; omega
          by_cases z2 : n3 = 2
          · subst z2
            obtain ⟨x, z, hz⟩ : ∃ x z, ps = [x, z] := by
              match ps, hlen with
              | [x, z], _ => exact ⟨x, z, rfl⟩
            have HZ := hide hz
            have hc : ((w.alloc (Obj.cells #[.slice p1 k c1, .slice p2 n2 c2, .slice (some a) 2 c3, .int .i64 ix, .int .i32 vb, .string tx] 51)).alloc (Obj.cells #[.slice p2 n2 c2, .slice (some a) 2 c3] 49)).cell? ⟨a.block, a.off + 1, none⟩ = some (.int .i64 z) := ((unhide HP).below (((Below.refl _ _).alloc (Nat.le_refl _) _).alloc (by simp) _)).cell a 1 z rfl (by rw [hz]; rfl)
            clear hz hlen
            by_cases y0 : z = 0
            · subst y0
              go_wp2
              go_roundg (gk - 1)
              case measure => omega
              case rel => exact ⟨2, _, by omega, by omega, by go_num, rfl, (by simp only [ByteArray.size_append]; have : (⟨#[46]⟩ : ByteArray).size = 1 := rfl; have : (⟨#[42]⟩ : ByteArray).size = 1 := rfl; omega), rfl, ⟨(fun h => by cases h), (fun h => by cases h), fun _ => ⟨wd, .star, (unhide HS).1, (unhide HS).2.1, trivial, ⟨x, unhide HZ⟩, size_eq1_star (unhide HS).2.2⟩⟩⟩
            have y0d : (z == 0) = false := by rw [beq_eq_false_iff_ne]; exact y0
            by_cases y1 : z > 0
            · have f0 : decide (z > 0) = true := decide_eq_true y1
              by_cases y2 : z < 1000
              · have f1 : decide (z < 1000) = true := decide_eq_true y2
                obtain ⟨m, rfl⟩ : ∃ m : Nat, z = m := ⟨z.toNat, by omega⟩
                have C : Hid (∀ w1 : World, Calls Tryd.prog 26 #[.int .i64 m] w1 fun e w' => e = .returned (.string (mk (digs 7 m))) ∧ w1 = w') := fun w1 => number_any 7 m (by decide) (by decide) (by omega) (by omega) w1
                have hsz : (mk (digs 7 m)).size ≤ 7 := by rw [mk_size']; exact (digs_len 7 m (by decide)).2
                go_wp2_with fail
                refine (unhide C _).mono ?_
                rintro x2 w2 ⟨rfl, rfl⟩
                go_wp2
                go_roundg (gk - 1)
                case measure => omega
                case rel => exact ⟨2, _, by omega, by omega, by go_num, rfl, (by simp only [ByteArray.size_append]; have : (⟨#[46]⟩ : ByteArray).size = 1 := rfl; have : (⟨#[91]⟩ : ByteArray).size = 1 := rfl; have : (⟨#[93, 42]⟩ : ByteArray).size = 2 := rfl; omega), rfl, ⟨(fun h => by cases h), (fun h => by cases h), fun _ => ⟨wd, .at m, (unhide HS).1, (unhide HS).2.1, ⟨by omega, by omega⟩, ⟨x, unhide HZ⟩, size_eq1_at (unhide HS).2.2 (by omega)⟩⟩⟩
              · have f1 : decide (z < 1000) = false := decide_eq_false y2
                go_wp2
                go_ret2
                exact ⟨_, false, rfl, ((Below.refl _ _).alloc (Nat.le_refl _) _).alloc (by simp) _, fun h => by cases h⟩
            · have f0 : decide (z > 0) = false := decide_eq_false y1
              go_wp2
              go_ret2
              exact ⟨_, false, rfl, ((Below.refl _ _).alloc (Nat.le_refl _) _).alloc (by simp) _, fun h => by cases h⟩
          have z2d : ((n3 : Int) == 2) = false := by rw [beq_eq_false_iff_ne]; omega
          clear hlen
          go_wp2
          go_ret2
          exact ⟨_, false, rfl, ((Below.refl _ _).alloc (Nat.le_refl _) _).alloc (by simp) _, fun h => by cases h⟩
        · have hE := (unhide hS).t rfl
          obtain ⟨wd, pr, g1, g2, g3, g4, g5⟩ := hE
          have HS : Hid (wd.ok ∧ wd.says ws ∧ pr.ok ∧ pr.says ps ∧ s = mk (37 :: (fs.map flagC ++ (wd.txt ++ prTxt pr)))) := ⟨g1, g2, g3, g4, g5⟩
          clear g1 g2 g3 g4 g5 hS
          by_cases i0 : ix < 0
          · have f0 : decide (ix < 0) = true := decide_eq_true i0
            go_wp2
            go_ret2
            exact ⟨_, false, rfl, ((Below.refl _ _).alloc (Nat.le_refl _) _).alloc (by simp) _, fun h => by cases h⟩
          have f0 : decide (ix < 0) = false := decide_eq_false i0
          by_cases i1 : ix > 1000
          · have f1 : decide (ix > 1000) = true := decide_eq_true i1
            go_wp2
            go_ret2
            exact ⟨_, false, rfl, ((Below.refl _ _).alloc (Nat.le_refl _) _).alloc (by simp) _, fun h => by cases h⟩
          have f1 : decide (ix > 1000) = false := decide_eq_false i1
          obtain ⟨m, rfl⟩ : ∃ m : Nat, ix = m := ⟨ix.toNat, by omega⟩
          by_cases i2 : (m : Int) > 0
          · have f2 : decide ((m : Int) > 0) = true := decide_eq_true i2
            have C : Hid (∀ w1 : World, Calls Tryd.prog 26 #[.int .i64 m] w1 fun e w' => e = .returned (.string (mk (digs 7 m))) ∧ w1 = w') := fun w1 => number_any 7 m (by decide) (by decide) (by omega) (by omega) w1
            have hsz : (mk (digs 7 m)).size ≤ 7 := by rw [mk_size']; exact (digs_len 7 m (by decide)).2
            go_wp2_with fail
            refine (unhide C _).mono ?_
            rintro x w2 ⟨rfl, rfl⟩
            by_cases v0 : vb < 65
            · have f3 : decide (vb < 65) = true := decide_eq_true v0
              go_wp2
              go_ret2
              exact ⟨_, false, rfl, ((Below.refl _ _).alloc (Nat.le_refl _) _).alloc (by simp) _, fun h => by cases h⟩
            have f3 : decide (vb < 65) = false := decide_eq_false v0
            by_cases v1 : vb > 122
            · have f4 : decide (vb > 122) = true := decide_eq_true v1
              go_wp2
              go_ret2
              exact ⟨_, false, rfl, ((Below.refl _ _).alloc (Nat.le_refl _) _).alloc (by simp) _, fun h => by cases h⟩
            have f4 : decide (vb > 122) = false := decide_eq_false v1
            by_cases v2 : vb > 90
            · have f5 : decide (vb > 90) = true := decide_eq_true v2
              by_cases v3 : vb < 97
              · have f6 : decide (vb < 97) = true := decide_eq_true v3
                go_wp2
                go_ret2
                exact ⟨_, false, rfl, ((Below.refl _ _).alloc (Nat.le_refl _) _).alloc (by simp) _, fun h => by cases h⟩
              · have f6 : decide (vb < 97) = false := decide_eq_false v3
                have HV : Hid ((65 ≤ vb ∧ vb ≤ 90) ∨ (97 ≤ vb ∧ vb ≤ 122)) := Or.inr ⟨by omega, by omega⟩
                have hv0 : 0 ≤ vb := by omega
                have hesz : (Utf8.encode vb).size ≤ 4 := enc_size vb
                go_wp2_with fail
                go_loopg [9, 146] (tx.size + 1) (fun f _ s146 wr => ∃ q : Nat, q ≤ tx.size ∧ tx.size - q < f ∧ s146 = .int .i64 q ∧ wr = ((w.alloc (Obj.cells #[.slice p1 k c1, .slice p2 n2 c2, .slice p3 n3 c3, .int .i64 (m : Int), .int .i32 vb, .string tx] 51)).alloc (Obj.cells #[.slice p2 n2 c2, .slice p3 n3 c3] 49)) ∧ Hid (TxR tx q))
                case atStart => exact ⟨0, Nat.zero_le _, by omega, rfl, rfl, fun j _ h => by omega⟩
                case round =>
                  obtain ⟨q, hq, hG, rfl, rfl, hR⟩ := hrel
                  by_cases hlt : q < tx.size
                  · have hj0 : (0 : Int) ≤ (q : Int) := by omega
                    have hj1 : (q : Int) < (tx.size : Int) := by omega
                    by_cases hc : tx[q] = 37
                    · have hne : ((tx[q].toNat : Int) == 37) = true := by rw [hc]; rfl
                      clear hc
                      go_wp2
                      go_ret2
                      exact ⟨_, false, rfl, ((Below.refl _ _).alloc (Nat.le_refl _) _).alloc (by simp) _, fun h => by cases h⟩
                    · have hne : ((tx[q].toNat : Int) == 37) = false := by rw [beq_eq_false_iff_ne]; intro e5; exact hc (UInt8.toNat_inj.1 (by simpa using Int.ofNat.inj e5))
                      have HC := hide hc
                      clear hc
                      go_wp2
                      go_roundg (gk - 1)
                      case measure => omega
                      case rel =>
                        refine ⟨q + 1, by omega, by omega, by go_num, rfl, fun j h hj => ?_⟩
                        by_cases hjk : j < q
                        · exact unhide hR j h hjk
                        · obtain rfl : j = q := by omega
                          exact unhide HC
                  · have hd : decide (q < tx.size) = false := decide_eq_false hlt
                    have hqe : q = tx.size := by omega
                    subst hqe
                    go_wp2
                    go_ret2
                    refine ⟨_, true, rfl, ((Below.refl _ _).alloc (Nat.le_refl _) _).alloc (by simp) _, fun _ => ?_⟩
                    exact written_end (unhide hFL) (unhide HS) m (by omega) (by rw [ixTxt, if_neg (by omega)]; exact congrArg _ (ix_piece m)) (unhide hR) (unhide HV)
            · have f5 : decide (vb > 90) = false := decide_eq_false v2
              have HV : Hid ((65 ≤ vb ∧ vb ≤ 90) ∨ (97 ≤ vb ∧ vb ≤ 122)) := Or.inl ⟨by omega, by omega⟩
              have hv0 : 0 ≤ vb := by omega
              have hesz : (Utf8.encode vb).size ≤ 4 := enc_size vb
              go_wp2_with fail
              go_loopg [9, 146] (tx.size + 1) (fun f _ s146 wr => ∃ q : Nat, q ≤ tx.size ∧ tx.size - q < f ∧ s146 = .int .i64 q ∧ wr = ((w.alloc (Obj.cells #[.slice p1 k c1, .slice p2 n2 c2, .slice p3 n3 c3, .int .i64 (m : Int), .int .i32 vb, .string tx] 51)).alloc (Obj.cells #[.slice p2 n2 c2, .slice p3 n3 c3] 49)) ∧ Hid (TxR tx q))
              case atStart => exact ⟨0, Nat.zero_le _, by omega, rfl, rfl, fun j _ h => by omega⟩
              case round =>
                obtain ⟨q, hq, hG, rfl, rfl, hR⟩ := hrel
                by_cases hlt : q < tx.size
                · have hj0 : (0 : Int) ≤ (q : Int) := by omega
                  have hj1 : (q : Int) < (tx.size : Int) := by omega
                  by_cases hc : tx[q] = 37
                  · have hne : ((tx[q].toNat : Int) == 37) = true := by rw [hc]; rfl
                    clear hc
                    go_wp2
                    go_ret2
                    exact ⟨_, false, rfl, ((Below.refl _ _).alloc (Nat.le_refl _) _).alloc (by simp) _, fun h => by cases h⟩
                  · have hne : ((tx[q].toNat : Int) == 37) = false := by rw [beq_eq_false_iff_ne]; intro e5; exact hc (UInt8.toNat_inj.1 (by simpa using Int.ofNat.inj e5))
                    have HC := hide hc
                    clear hc
                    go_wp2
                    go_roundg (gk - 1)
                    case measure => omega
                    case rel =>
                      refine ⟨q + 1, by omega, by omega, by go_num, rfl, fun j h hj => ?_⟩
                      by_cases hjk : j < q
                      · exact unhide hR j h hjk
                      · obtain rfl : j = q := by omega
                        exact unhide HC
                · have hd : decide (q < tx.size) = false := decide_eq_false hlt
                  have hqe : q = tx.size := by omega
                  subst hqe
                  go_wp2
                  go_ret2
                  refine ⟨_, true, rfl, ((Below.refl _ _).alloc (Nat.le_refl _) _).alloc (by simp) _, fun _ => ?_⟩
                  exact written_end (unhide hFL) (unhide HS) m (by omega) (by rw [ixTxt, if_neg (by omega)]; exact congrArg _ (ix_piece m)) (unhide hR) (unhide HV)
          have f2 : decide ((m : Int) > 0) = false := decide_eq_false i2
          by_cases v0 : vb < 65
          · have f3 : decide (vb < 65) = true := decide_eq_true v0
            go_wp2
            go_ret2
            exact ⟨_, false, rfl, ((Below.refl _ _).alloc (Nat.le_refl _) _).alloc (by simp) _, fun h => by cases h⟩
          have f3 : decide (vb < 65) = false := decide_eq_false v0
          by_cases v1 : vb > 122
          · have f4 : decide (vb > 122) = true := decide_eq_true v1
            go_wp2
            go_ret2
            exact ⟨_, false, rfl, ((Below.refl _ _).alloc (Nat.le_refl _) _).alloc (by simp) _, fun h => by cases h⟩
          have f4 : decide (vb > 122) = false := decide_eq_false v1
          by_cases v2 : vb > 90
          · have f5 : decide (vb > 90) = true := decide_eq_true v2
            by_cases v3 : vb < 97
            · have f6 : decide (vb < 97) = true := decide_eq_true v3
              go_wp2
              go_ret2
              exact ⟨_, false, rfl, ((Below.refl _ _).alloc (Nat.le_refl _) _).alloc (by simp) _, fun h => by cases h⟩
            · have f6 : decide (vb < 97) = false := decide_eq_false v3
              have HV : Hid ((65 ≤ vb ∧ vb ≤ 90) ∨ (97 ≤ vb ∧ vb ≤ 122)) := Or.inr ⟨by omega, by omega⟩
              have hv0 : 0 ≤ vb := by omega
              have hesz : (Utf8.encode vb).size ≤ 4 := enc_size vb
              go_wp2_with fail
              go_loopg [9, 146] (tx.size + 1) (fun f _ s146 wr => ∃ q : Nat, q ≤ tx.size ∧ tx.size - q < f ∧ s146 = .int .i64 q ∧ wr = ((w.alloc (Obj.cells #[.slice p1 k c1, .slice p2 n2 c2, .slice p3 n3 c3, .int .i64 (m : Int), .int .i32 vb, .string tx] 51)).alloc (Obj.cells #[.slice p2 n2 c2, .slice p3 n3 c3] 49)) ∧ Hid (TxR tx q))
              case atStart => exact ⟨0, Nat.zero_le _, by omega, rfl, rfl, fun j _ h => by omega⟩
              case round =>
                obtain ⟨q, hq, hG, rfl, rfl, hR⟩ := hrel
                by_cases hlt : q < tx.size
                · have hj0 : (0 : Int) ≤ (q : Int) := by omega
                  have hj1 : (q : Int) < (tx.size : Int) := by omega
                  by_cases hc : tx[q] = 37
                  · have hne : ((tx[q].toNat : Int) == 37) = true := by rw [hc]; rfl
                    clear hc
                    go_wp2
                    go_ret2
                    exact ⟨_, false, rfl, ((Below.refl _ _).alloc (Nat.le_refl _) _).alloc (by simp) _, fun h => by cases h⟩
                  · have hne : ((tx[q].toNat : Int) == 37) = false := by rw [beq_eq_false_iff_ne]; intro e5; exact hc (UInt8.toNat_inj.1 (by simpa using Int.ofNat.inj e5))
                    have HC := hide hc
                    clear hc
                    go_wp2
                    go_roundg (gk - 1)
                    case measure => omega
                    case rel =>
                      refine ⟨q + 1, by omega, by omega, by go_num, rfl, fun j h hj => ?_⟩
                      by_cases hjk : j < q
                      · exact unhide hR j h hjk
                      · obtain rfl : j = q := by omega
                        exact unhide HC
                · have hd : decide (q < tx.size) = false := decide_eq_false hlt
                  have hqe : q = tx.size := by omega
                  subst hqe
                  go_wp2
                  go_ret2
                  refine ⟨_, true, rfl, ((Below.refl _ _).alloc (Nat.le_refl _) _).alloc (by simp) _, fun _ => ?_⟩
                  exact written_end (unhide hFL) (unhide HS) m (by omega) (by rw [ixTxt, if_pos (by omega)]; exact (ByteArray.append_empty).symm) (unhide hR) (unhide HV)
          · have f5 : decide (vb > 90) = false := decide_eq_false v2
            have HV : Hid ((65 ≤ vb ∧ vb ≤ 90) ∨ (97 ≤ vb ∧ vb ≤ 122)) := Or.inl ⟨by omega, by omega⟩
            have hv0 : 0 ≤ vb := by omega
            have hesz : (Utf8.encode vb).size ≤ 4 := enc_size vb
            go_wp2_with fail
            go_loopg [9, 146] (tx.size + 1) (fun f _ s146 wr => ∃ q : Nat, q ≤ tx.size ∧ tx.size - q < f ∧ s146 = .int .i64 q ∧ wr = ((w.alloc (Obj.cells #[.slice p1 k c1, .slice p2 n2 c2, .slice p3 n3 c3, .int .i64 (m : Int), .int .i32 vb, .string tx] 51)).alloc (Obj.cells #[.slice p2 n2 c2, .slice p3 n3 c3] 49)) ∧ Hid (TxR tx q))
            case atStart => exact ⟨0, Nat.zero_le _, by omega, rfl, rfl, fun j _ h => by omega⟩
            case round =>
              obtain ⟨q, hq, hG, rfl, rfl, hR⟩ := hrel
              by_cases hlt : q < tx.size
              · have hj0 : (0 : Int) ≤ (q : Int) := by omega
                have hj1 : (q : Int) < (tx.size : Int) := by omega
                by_cases hc : tx[q] = 37
                · have hne : ((tx[q].toNat : Int) == 37) = true := by rw [hc]; rfl
                  clear hc
                  go_wp2
                  go_ret2
                  exact ⟨_, false, rfl, ((Below.refl _ _).alloc (Nat.le_refl _) _).alloc (by simp) _, fun h => by cases h⟩
                · have hne : ((tx[q].toNat : Int) == 37) = false := by rw [beq_eq_false_iff_ne]; intro e5; exact hc (UInt8.toNat_inj.1 (by simpa using Int.ofNat.inj e5))
                  have HC := hide hc
                  clear hc
                  go_wp2
                  go_roundg (gk - 1)
                  case measure => omega
                  case rel =>
                    refine ⟨q + 1, by omega, by omega, by go_num, rfl, fun j h hj => ?_⟩
                    by_cases hjk : j < q
                    · exact unhide hR j h hjk
                    · obtain rfl : j = q := by omega
                      exact unhide HC
              · have hd : decide (q < tx.size) = false := decide_eq_false hlt
                have hqe : q = tx.size := by omega
                subst hqe
                go_wp2
                go_ret2
                refine ⟨_, true, rfl, ((Below.refl _ _).alloc (Nat.le_refl _) _).alloc (by simp) _, fun _ => ?_⟩
                exact written_end (unhide hFL) (unhide HS) m (by omega) (by rw [ixTxt, if_pos (by omega)]; exact (ByteArray.append_empty).symm) (unhide hR) (unhide HV)
end Go.Proofs.YtjbmphfgckhaeaaDoor
