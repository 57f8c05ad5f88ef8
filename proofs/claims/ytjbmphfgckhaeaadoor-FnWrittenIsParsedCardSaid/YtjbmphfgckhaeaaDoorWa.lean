import Derived.Test.YtjbmphfgckhaeaaDoorMem
import Derived.WalkKit
import Derived.WalkSpells
import Derived.WalkLawsBesides
import Derived.Deep.QuietTactic
import Derived.BigQuiet
import Derived.RegionTactic
import Derived.StillTailTactics
import Derived.Deep.RegionHeld3
import Derived.Deep.LoopGhost
import Derived.Deep.DeepCutAuto
import Derived.Deep.DeepFit
import Derived.OwnWalk
namespace Go.Proofs.YtjbmphfgckhaeaaDoor
open Go.RowKit

theorem piece_one (s : ByteArray) (k : Nat) (h : k < s.size) : (s.extract k (k + 1)).toList = [s[k]] := by
  rw [Lib.extract_toList]
  have : k < s.data.toList.length := by simpa using h
  rw [show k + 1 - k = 1 from by omega, List.drop_eq_getElem_cons this]
  rfl
theorem take_snoc (s : ByteArray) (k : Nat) (h : k < s.size) : s.data.toList.take (k + 1) = s.data.toList.take k ++ [s[k]] := by
  rw [List.take_succ_eq_append_getElem (by simpa using h)]; rfl
def NotIn (c : UInt8) (s : ByteArray) (k : Nat) : Prop := c ∉ s.data.toList.take k
theorem NotIn.step {c : UInt8} {s : ByteArray} {k : Nat} (h : NotIn c s k) (hk : k < s.size) (hp : ((s.extract k (k + 1)).toList == [c]) = false) : NotIn c s (k + 1) := by
  unfold NotIn at h ⊢
  rw [take_snoc s k hk, List.mem_append]
  rw [piece_one s k hk] at hp
  rintro (h1 | h1)
  · exact h h1
  · simp at h1 hp
    exact hp h1.symm
def IdxPost (c : UInt8) (s : ByteArray) (w : World) (e : Ending) (w' : World) : Prop :=
  ∃ r : Int, e = .returned (.int .i64 r) ∧ w = w' ∧ ((r = -1 ∧ c ∉ s.data.toList) ∨ (0 ≤ r ∧ r < s.size ∧ c ∈ s.data.toList))
theorem IdxPost.hit {c : UInt8} {s : ByteArray} {w : World} {k : Nat} (hk : k < s.size) (hp : ((s.extract k (k + 1)).toList == [c]) = true) : IdxPost c s w (.returned (.int .i64 k)) w := by
  refine ⟨k, rfl, rfl, .inr ⟨by omega, by omega, ?_⟩⟩
  rw [piece_one s k hk] at hp
  have : s[k] = c := by simpa using hp
  rw [← this]
  show s.data[k] ∈ _
  simp
theorem IdxPost.miss {c : UInt8} {s : ByteArray} {w : World} {k : Nat} (hk : ¬ k < s.size) (h : NotIn c s k) : IdxPost c s w (.returned (.int .i64 (-1))) w := by
  refine ⟨-1, rfl, rfl, .inl ⟨rfl, ?_⟩⟩
  unfold NotIn at h
  rwa [List.take_of_length_le (by simp; omega)] at h

set_option maxHeartbeats 400000 in
theorem index_any (s sub : ByteArray) (c : UInt8) (w : World) (hs : s.size ≤ 140737488351232) (hb : sub.toList = [c]) (h1 : sub.size = 1) :
    Calls Tryd.prog 36 #[.string s, .string sub] w (IdxPost c s w) := by
  have HB := Lib.hid hb
  have HS := Lib.hid h1
  have hb' : sub.size ≤ 1 := by omega
  have hb2 : 1 ≤ sub.size := by omega
  clear hb h1
  go_enter Tryd.func36, Tryd.ntmps36
  go_wp2
  go_loop [5] (fun i => ∃ k : Nat, k ≤ s.size ∧ i = .int .i64 k ∧ NotIn c s k) (fun i => s.size + 1 - (intOf i).toNat)
  case atStart => exact ⟨0, Nat.zero_le _, rfl, by simp [NotIn]⟩
  case round =>
    obtain ⟨k, hk, rfl, hno⟩ := hrel
    go_wp2
    · have hp : ((s.extract k (k + sub.size)).toList == sub.toList) = true := by assumption
      have hlt : (k : Int) + sub.size ≤ s.size := by assumption
      rw [HS.out, HB.out] at hp
      go_ret
      exact IdxPost.hit (by omega) hp
    · have hp : ((s.extract k (k + sub.size)).toList == sub.toList) = false := by assumption
      have hlt : (k : Int) + sub.size ≤ s.size := by assumption
      rw [HS.out, HB.out] at hp
      refine ⟨⟨k + 1, by omega, by go_num, hno.step (by omega) hp⟩, by simp [intOf]; omega⟩
    · go_ret
      exact IdxPost.miss (by omega) hno

theorem isF_iff (c : UInt8) : isF c = true ↔ c ∈ (⟨#[35, 48, 43, 45, 32]⟩ : ByteArray).data.toList := by
  simp [isF]
def TrimP (s : ByteArray) (w : World) (e : Ending) (w' : World) : Prop := e = .returned (.string (mk (s.data.toList.dropWhile isF))) ∧ w = w'


theorem index_in (s sub : ByteArray) (c : UInt8) (w : World) (hs : s.size ≤ 140737488351232) (hb : sub.toList = [c]) (h1 : sub.size = 1) (hc : c ∈ s.data.toList) :
    Calls Tryd.prog 36 #[.string s, .string sub] w fun e w' => ∃ r : Int, e = .returned (.int .i64 r) ∧ w = w' ∧ 0 ≤ r ∧ r < s.size :=
  (index_any s sub c w hs hb h1).mono fun e w' ⟨r, he, hw, h⟩ => by
    rcases h with ⟨_, h⟩ | ⟨h0, h2, _⟩
    · exact absurd hc h
    · exact ⟨r, he, hw, h0, h2⟩
theorem index_out (s sub : ByteArray) (c : UInt8) (w : World) (hs : s.size ≤ 140737488351232) (hb : sub.toList = [c]) (h1 : sub.size = 1) (hc : ¬ c ∈ s.data.toList) :
    Calls Tryd.prog 36 #[.string s, .string sub] w fun e w' => e = .returned (.int .i64 (-1)) ∧ w = w' :=
  (index_any s sub c w hs hb h1).mono fun e w' ⟨r, he, hw, h⟩ => by
    rcases h with ⟨h, _⟩ | ⟨_, _, h⟩
    · subst h; exact ⟨he, hw⟩
    · exact absurd h hc
theorem toList_data (u : ByteArray) : u.toList = u.data.toList := by
  have := Lib.extract_toList u 0 u.size
  rw [List.drop_zero, Nat.sub_zero, List.take_of_length_le (by simp)] at this
  simpa using this
theorem lit1 (c : UInt8) : (⟨#[c]⟩ : ByteArray).toList = [c] := by rw [toList_data]
theorem lit1s (c : UInt8) : (⟨#[c]⟩ : ByteArray).size = 1 := rfl
theorem ret_str {a b : ByteArray} (h : a = b) : Ending.returned (.string a) = .returned (.string b) := by rw [h]
theorem dropWhile_nil {p : UInt8 → Bool} : ∀ {l : L}, l.all p = true → l.dropWhile p = []
  | [], _ => rfl
  | c :: r, h => by
    simp only [List.all_cons, Bool.and_eq_true] at h
    rw [List.dropWhile_cons, if_pos h.1, dropWhile_nil h.2]
theorem size_data (u : ByteArray) : u.size = u.data.toList.length := by simp
theorem head_sub (u : ByteArray) (c : UInt8) (r : L) (h : u.data.toList = c :: r) : (u.extract 0 1).toList = [c] ∧ (u.extract 0 1).size = 1 := by
  have hs := size_data u
  rw [h] at hs
  refine ⟨by rw [Lib.extract_toList, h]; rfl, ?_⟩
  simp at hs ⊢
  omega
theorem tail_sub (u : ByteArray) (c : UInt8) (r : L) (h : u.data.toList = c :: r) : (u.extract 1 u.size).data.toList = r := by
  rw [Lib.extract_to_end, h]; rfl
theorem dropWhile_at {p : UInt8 → Bool} {l : L} {k : Nat} {c : UInt8} {r : L} (hall : (l.take k).all p = true) (hd : l.drop k = c :: r) (hc : p c = false) : l.dropWhile p = c :: r := by
  rw [← List.take_append_drop k l, hd, List.dropWhile_append]
  rw [dropWhile_nil hall]
  simp [hc]
theorem dropWhile_end {p : UInt8 → Bool} {l : L} {k : Nat} (hall : (l.take k).all p = true) (hd : l.drop k = []) : l.dropWhile p = [] := by
  rw [← List.take_append_drop k l, hd, List.append_nil, dropWhile_nil hall]
theorem eq_mk {u : ByteArray} {l : L} (h : u.data.toList = l) : u = mk l := by
  apply WideShapes.bytes_inj
  simpa [mk] using h
theorem trim_step {l : L} {k : Nat} {c : UInt8} {r : L} (hall : (l.take k).all isF = true) (hd : l.drop k = c :: r) (hc : isF c = true) : (l.take (k + 1)).all isF = true ∧ l.drop (k + 1) = r := by
  have h2 : l.drop (k + 1) = r := by
    rw [← List.drop_drop, hd]; rfl
  refine ⟨?_, h2⟩
  have hlt : k < l.length := by
    rcases Nat.lt_or_ge k l.length with h | h
    · exact h
    · rw [List.drop_eq_nil_of_le h] at hd; cases hd
  rw [List.take_succ_eq_append_getElem hlt, List.all_append, hall]
  rw [List.drop_eq_getElem_cons hlt] at hd
  injection hd with h3 _
  simp [h3, hc]

set_option maxHeartbeats 400000 in
theorem trim_any (s : ByteArray) (w : World) (_hs : s.size ≤ 140737488351232) :
    Calls Tryd.prog 46 #[.string s, .string ⟨#[35, 48, 43, 45, 32]⟩] w (TrimP s w) := by
  go_enter Tryd.func46, Tryd.ntmps46
  go_wp2
  go_loop [0] (fun v => ∃ (k : Nat) (u : ByteArray), u.size ≤ s.size ∧ v = .string u ∧ Hid (u.data.toList = s.data.toList.drop k ∧ (s.data.toList.take k).all isF = true)) (fun v => match v with | .string u => u.size | _ => 0)
  case atStart => exact ⟨0, s, Nat.le_refl _, rfl, by simp, by simp⟩
  case round =>
    obtain ⟨k, u, hk, rfl, hH⟩ := hrel
    cases hu : u.data.toList with
    | nil =>
      have hu' : u.toList = [] := by rw [toList_data]; exact hu
      have HU := hide hu
      clear hu
      go_wp2
      go_ret
      obtain ⟨h1, h2⟩ := unhide hH
      rw [unhide HU] at h1
      exact ⟨ret_str (by rw [eq_mk (unhide HU), dropWhile_end h2 h1.symm]), rfl⟩
    | cons c r =>
      have hne : ¬ u.toList = [] := by rw [toList_data, hu]; simp
      have hne2 : u.toList.isEmpty = false := by rw [toList_data, hu]; rfl
      have hsz : 1 ≤ u.size := by rw [size_data, hu]; simp
      obtain ⟨e1, e2⟩ := head_sub u c r hu
      have E1 := hide e1
      have E2 := hide e2
      have E3 := hide (tail_sub u c r hu)
      have HU := hide hu
      clear hu e1 e2
      by_cases hc : c ∈ (⟨#[35, 48, 43, 45, 32]⟩ : ByteArray).data.toList
      · have HC := hide hc
        clear hc
        go_wp2_with (go_at_call 36; refine (index_in _ _ c _ (by decide) (unhide E1) (unhide E2) (unhide HC)).mono ?_; rintro e w' ⟨q, rfl, rfl, hq1, hq2⟩)
        obtain ⟨h1, h2⟩ := unhide hH
        have h3 := trim_step h2 (h1.symm.trans (unhide HU)) ((isF_iff c).2 (unhide HC))
        refine ⟨⟨k + 1, u.extract 1 u.size, by simp; omega, rfl, (unhide E3).trans h3.2.symm, h3.1⟩, by simp; omega⟩
      · have HC := hide hc
        clear hc
        go_wp2_with (go_at_call 36; refine (index_out _ _ c _ (by decide) (unhide E1) (unhide E2) (unhide HC)).mono ?_; rintro e w' ⟨rfl, rfl⟩)
        go_ret
        obtain ⟨h1, h2⟩ := unhide hH
        have hf : isF c = false := by
          cases h : isF c with
          | true => exact absurd ((isF_iff c).1 h) (unhide HC)
          | false => rfl
        exact ⟨ret_str (by rw [eq_mk (unhide HU), dropWhile_at h2 (h1.symm.trans (unhide HU)) hf]), rfl⟩

theorem take_drop_len (p : UInt8 → Bool) (l : L) : l.take (l.length - (l.dropWhile p).length) = l.takeWhile p := by
  have h := List.takeWhile_append_dropWhile (p := p) (l := l)
  have hl : l.length = (l.takeWhile p).length + (l.dropWhile p).length := by rw [← List.length_append, h]
  rw [show l.length - (l.dropWhile p).length = (l.takeWhile p).length from by omega]
  exact (congrArg (List.take _) h).symm.trans (List.take_left)
theorem dropWhile_le (p : UInt8 → Bool) (l : L) : (l.dropWhile p).length ≤ l.length := by
  have h := List.takeWhile_append_dropWhile (p := p) (l := l)
  have hl : l.length = (l.takeWhile p).length + (l.dropWhile p).length := by rw [← List.length_append, h]
  omega
theorem mk_size (l : L) : (mk l).size = l.length := by simp [mk, ByteArray.size]
set_option maxHeartbeats 400000 in
theorem prefix_any (s : ByteArray) (w : World) (hs : s.size ≤ 140737488351232) :
    Calls Tryd.prog 43 #[.string s, .string ⟨#[35, 48, 43, 45, 32]⟩] w fun e w' => e = .returned (.string (mk (s.data.toList.takeWhile isF))) ∧ w = w' := by
  have hle := dropWhile_le isF s.data.toList
  have hsz := mk_size (s.data.toList.dropWhile isF)
  have hs2 := size_data s
  have h3 : (mk (s.data.toList.dropWhile isF)).size ≤ s.size := by omega
  have HE := hide (show s.extract 0 (s.size - (mk (s.data.toList.dropWhile isF)).size) = mk (s.data.toList.takeWhile isF) from
    eq_mk (by rw [Lib.extract_data, hsz, hs2, List.drop_zero, Nat.sub_zero, take_drop_len]))
  clear hle hsz hs2
  go_enter Tryd.func43, Tryd.ntmps43
  go_wp2_with (go_at_call 46; refine (trim_any _ _ hs).mono ?_; rintro e w' ⟨rfl, rfl⟩)
  go_ret
  exact ⟨ret_str ((congrArg (s.extract 0) (by omega)).trans (unhide HE)), rfl⟩
theorem prefix_to (s F : ByteArray) (w : World) (hs : s.size ≤ 140737488351232) (hF : mk (s.data.toList.takeWhile isF) = F) :
    Calls Tryd.prog 43 #[.string s, .string ⟨#[35, 48, 43, 45, 32]⟩] w fun e w' => e = .returned (.string F) ∧ w = w' := by
  subst hF
  exact prefix_any s w hs
/-- The walk goes on over whatever world of which I holds. -/
theorem wgen {P : Program} {c : Code} {Q : Exit → Act → World → Prop} {a : Act} {W : World} (I : World → Prop) (h : I W) (k : ∀ w1, I w1 → c.wp P Q a w1) : c.wp P Q a W := k W h
end Go.Proofs.YtjbmphfgckhaeaaDoor
