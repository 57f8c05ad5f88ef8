/-
  A number in decimal: laws.number, and what its digits spell. Conditions: a number below 1,000,000.
  What parseOperation's steps do on a text whose next bytes are known: brackets, a star, a number, none of them. No program and no memory in sight. No condition.
  An operation that is written (flags, width, precision, number in brackets, verb) is parsed by parseOperation as it is told: the plain law of one operation. No program and no memory in sight. No condition.
  parseOperation on an operation that is told: it answers as it is told (op_told). No program and no memory in sight. Conditions: TO.ok.
  Operations that are told, one behind the other with texts between them: Parse gives them as they are told (told_parse). No program and no memory in sight. Conditions: TO.ok of each.
  impl.Parse on operations that are told: it gives them as they are told, up to a text of 500,000,000,000 bytes. Conditions: the library's tables and sentinels, at most 1000 operations.
  zzFits2: whether an operation that is told holds nothing too long. No condition.
-/
import Derived.Test.YtjbmphfgckhaeaaDoorWq
import Derived.Test.YtjbmphfgckhaeaaDoorPt
import Derived.Lib.TrimAscii
namespace Go.Proofs.YtjbmphfgckhaeaaDoor
open Go.RowKit

def dg (n : Nat) : UInt8 := UInt8.ofNat (48 + n)
def digs : Nat → Nat → L
  | 0, _ => []
  | f + 1, n => if n < 10 then [dg n] else digs f (n / 10) ++ [dg (n % 10)]
theorem dg_toNat {n : Nat} (h : n < 10) : (dg n).toNat = 48 + n := by
  unfold dg
  simp
  omega
theorem digs_isD : ∀ (f n : Nat), (digs f n).all isD = true
  | 0, _ => rfl
  | f + 1, n => by
    unfold digs
    split
    · rename_i h
      simp [isD, dg_toNat h]
      omega
    · have hm : n % 10 < 10 := Nat.mod_lt _ (by decide)
      rw [List.all_append, digs_isD f (n / 10)]
      simp [isD, dg_toNat hm]
      omega
theorem dvA_app (l : L) (c : UInt8) : ∀ a : Nat, dvA a (l ++ [c]) = 10 * dvA a l + (c.toNat - 48) := by
  induction l with
  | nil => intro a; rfl
  | cons d r ih => intro a; exact ih (10 * a + (d.toNat - 48))
theorem dv_digs : ∀ (f n : Nat), n < 10 ^ f → dv (digs f n) = n
  | 0, n, h => by
    have : n = 0 := by simpa using h
    subst this
    rfl
  | f + 1, n, h => by
    unfold digs
    split
    · rename_i h9
      show 10 * 0 + ((dg n).toNat - 48) = n
      rw [dg_toNat h9]
      omega
    · have hm : n % 10 < 10 := Nat.mod_lt _ (by decide)
      have hd : n / 10 < 10 ^ f := by
        rw [Nat.pow_succ] at h
        omega
      show dvA 0 (digs f (n / 10) ++ [dg (n % 10)]) = n
      rw [dvA_app, dg_toNat hm]
      have := dv_digs f (n / 10) hd
      unfold dv at this
      rw [this]
      omega
theorem digs_len : ∀ (f n : Nat), 0 < f → 1 ≤ (digs f n).length ∧ (digs f n).length ≤ f
  | 0, _, h => by omega
  | f + 1, n, _ => by
    unfold digs
    split
    · simp
    · rename_i h10
      rw [List.length_append]
      have hs : [dg (n % 10)].length = 1 := rfl
      rcases Nat.eq_zero_or_pos f with rfl | hf
      · simp [digs]
      · have := digs_len f (n / 10) hf
        omega
/-- The first digit of a number above 0 is not 0. -/
theorem digs_head : ∀ (f n : Nat), 0 < n → n < 10 ^ f → ∃ c r, digs f n = c :: r ∧ 49 ≤ c.toNat ∧ c.toNat ≤ 57
  | 0, n, h0, h => by
    have : n = 0 := by simpa using h
    omega
  | f + 1, n, h0, h => by
    unfold digs
    split
    · rename_i h9
      refine ⟨dg n, [], rfl, ?_, ?_⟩ <;> rw [dg_toNat h9] <;> omega
    · have hd : n / 10 < 10 ^ f := by
        rw [Nat.pow_succ] at h
        omega
      obtain ⟨c, r, e, h1, h2⟩ := digs_head f (n / 10) (by omega) hd
      rw [e]
      exact ⟨c, r ++ [dg (n % 10)], rfl, h1, h2⟩

theorem digit_piece (n : Nat) (h : n < 10) : (⟨#[48, 49, 50, 51, 52, 53, 54, 55, 56, 57]⟩ : ByteArray).extract n (n + 1) = mk [dg n] := by
  refine eq_mk ?_
  rw [Lib.extract_data]
  have : n = 0 ∨ n = 1 ∨ n = 2 ∨ n = 3 ∨ n = 4 ∨ n = 5 ∨ n = 6 ∨ n = 7 ∨ n = 8 ∨ n = 9 := by omega
  rcases this with rfl | rfl | rfl | rfl | rfl | rfl | rfl | rfl | rfl | rfl <;> rfl
theorem mk_app (l m : L) : mk l ++ mk m = mk (l ++ m) := by
  refine eq_mk ?_
  simp [mk]
set_option maxHeartbeats 800000 in
theorem number_one (n : Nat) (h : n < 10) (w : World) : Calls Tryd.prog 26 #[.int .i64 n] w fun e w' => e = .returned (.string (mk [dg n])) ∧ w = w' := by
  have d1 : decide ((n : Int) < 10) = true := decide_eq_true (by omega)
  have h0 : (0 : Int) ≤ (n : Int) := by omega
  have HP := hide (digit_piece n h)
  go_enter Tryd.func26, Tryd.ntmps26
  go_wp2
  go_ret
  exact ⟨ret_str (unhide HP), rfl⟩
set_option maxRecDepth 100000 in
set_option maxHeartbeats 1600000 in
theorem number_any : ∀ (f n : Nat), 0 < f → f ≤ 20 → n < 10 ^ f → n ≤ 1000000000 → ∀ w : World, Calls Tryd.prog 26 #[.int .i64 n] w fun e w' => e = .returned (.string (mk (digs f n))) ∧ w = w'
  | 0, n, hf, _, _, _, _ => by omega
  | f + 1, n, _, hf20, h, hn, w => by
    by_cases h9 : n < 10
    · have : digs (f + 1) n = [dg n] := by
        rw [digs, if_pos h9]
      rw [this]
      exact number_one n h9 w
    · have hd : digs (f + 1) n = digs f (n / 10) ++ [dg (n % 10)] := by
        rw [digs, if_neg h9]
      have hdv : n / 10 < 10 ^ f := by
        rw [Nat.pow_succ] at h
        omega
      have hf : 0 < f := by
        rcases Nat.eq_zero_or_pos f with rfl | hf
        · simp at h
          omega
        · exact hf
      have C1 := hide (number_any f (n / 10) hf (by omega) hdv (by omega))
      have C2 := hide (number_one (n % 10) (Nat.mod_lt _ (by decide)))
      have hl := (digs_len f (n / 10) hf).2
      have HE : Hid (mk (digs f (n / 10)) ++ mk [dg (n % 10)] = mk (digs (f + 1) n)) := by
        show _ = _
        rw [hd, mk_app]
      have hsz1 : (mk (digs f (n / 10))).size ≤ 100 := by
        rw [mk_size']
        omega
      have hsz2 : (mk [dg (n % 10)]).size ≤ 100 := by rw [mk_size']; simp
      have d1 : decide ((n : Int) < 10) = false := decide_eq_false (by omega)
      have e1 : ((n / 10 : Nat) : Int) = (n : Int) / 10 := by omega
      have e2 : ((n % 10 : Nat) : Int) = (n : Int) % 10 := by omega
      have n0 : (0 : Int) ≤ (n : Int) := by omega
      have n1 : (n : Int) ≤ 1000000000 := by omega
      rw [e1] at C1
      rw [e2] at C2
      clear e1 e2
      clear hd hl h hdv hf
      go_enter Tryd.func26, Tryd.ntmps26
      go_wp2_with fail
      refine (unhide C1 w).mono ?_
      rintro x w1 ⟨rfl, rfl⟩
      go_wp2_with fail
      refine (unhide C2 w).mono ?_
      rintro x w2 ⟨rfl, rfl⟩
      go_wp2
      go_ret
      exact ⟨ret_str (unhide HE), rfl⟩
end Go.Proofs.YtjbmphfgckhaeaaDoor
namespace Go.Proofs.YtjbmphfgckhaeaaDoor

theorem at_of_drop {l : L} {n : Nat} {c : UInt8} {r : L} (h : l.drop n = c :: r) : l[n]? = some c := by
  have := congrArg (fun m => m[0]?) h
  simpa [List.getElem?_drop] using this
theorem drop_more {l : L} {n : Nat} {p r : L} (h : l.drop n = p ++ r) : l.drop (n + p.length) = r := by
  rw [← List.drop_drop, h, List.drop_left]
theorem takeWhile_app {p : UInt8 → Bool} {a : L} {c : UInt8} {r : L} (ha : a.all p = true) (hc : p c = false) : (a ++ c :: r).takeWhile p = a := by
  induction a with
  | nil => simp [hc]
  | cons x y ih =>
    simp only [List.all_cons, Bool.and_eq_true] at ha
    rw [List.cons_append, List.takeWhile_cons, if_pos ha.1, ih ha.2]
theorem rE_of {p : UInt8 → Bool} {l : L} {n : Nat} {a : L} {c : UInt8} {r : L} (h : l.drop n = a ++ c :: r) (ha : a.all p = true) (hc : p c = false) : rE p l n = n + a.length := by
  unfold rE
  rw [h, takeWhile_app ha hc]
theorem seg_of {l : L} {n : Nat} {a r : L} (h : l.drop n = a ++ r) : seg l n (n + a.length) = a := by
  unfold seg
  rw [h, Nat.add_sub_cancel_left, List.take_left]

theorem nx_idx_none {l : L} {first : Int} {s : St} {c : UInt8} {r : L} (h : l.drop s.nb = c :: r) (hc : c ≠ 91) : pIdx l first s = some s := by
  unfold pIdx
  rw [if_neg]
  rw [at_of_drop h]
  intro e
  exact hc (Option.some.inj e)
theorem idx_num {l : L} {first : Int} {s : St} {f n : Nat} {r : L} (hf : 0 < f) (h : l.drop s.nb = 91 :: (digs f n ++ 93 :: r)) (h0 : 0 < n) (hn : n < 10 ^ f) (hm : n ≤ 1000000) :
    pIdx l first s = some { s with ix := n, ip := s.nb, nb := s.nb + (digs f n).length + 2, an := n + (first - 1), hi := true, pd := true } := by
  have h1 : l.drop (s.nb + 1) = digs f n ++ 93 :: r := by
    have := drop_more (p := [91]) h
    exact this
  have hr : rE isD l (s.nb + 1) = s.nb + 1 + (digs f n).length := rE_of h1 (digs_isD f n) (by decide)
  have hs : seg l (s.nb + 1) (s.nb + 1 + (digs f n).length) = digs f n := seg_of h1
  have h2 : l.drop (s.nb + 1 + (digs f n).length) = 93 :: r := drop_more h1
  have hl := (digs_len f n hf).1
  have hmx : mx32 = 2147483647 := rfl
  unfold pIdx
  rw [if_pos (at_of_drop h), hr, hs, dv_digs f n hn, if_pos ⟨by omega, at_of_drop h2, by omega, by omega⟩]
  congr 2
  omega
theorem sz_star {l : L} {s : St} (k : Nat) {r : L} (h : l.drop s.nb = 42 :: r) :
    szM k l s = put k (if s.pd then ⟨-1, s.an, s.ix, s.ip - k, s.nb + 1⟩ else ⟨-1, s.an, -1, (s.nb : Int) - k, s.nb + 1⟩) { s with pd := false, an := s.an + 1, nb := s.nb + 1 } := by
  unfold szM
  rw [if_pos (at_of_drop h)]
theorem sz_num {l : L} {s : St} (k : Nat) {f n : Nat} {c : UInt8} {r : L} (hf : 0 < f) (h : l.drop s.nb = digs f n ++ c :: r) (h0 : 0 < n) (hn : n < 10 ^ f) (hm : n ≤ 1000000) (hc : isD c = false) :
    szM k l s = put k ⟨n, -1, -1, (s.nb : Int) - k, ((s.nb + (digs f n).length : Nat) : Int)⟩ { s with nb := s.nb + (digs f n).length } := by
  obtain ⟨d, t, hd, hd1, hd2⟩ := digs_head f n h0 hn
  have hr : rE isD l s.nb = s.nb + (digs f n).length := rE_of h (digs_isD f n) hc
  have hs : seg l s.nb (s.nb + (digs f n).length) = digs f n := seg_of h
  have h42 : ¬ l[s.nb]? = some 42 := by
    rw [hd, List.cons_append] at h
    rw [at_of_drop h]
    intro e
    have : d = 42 := Option.some.inj e
    subst this
    exact absurd hd1 (by decide)
  have hl := (digs_len f n hf).1
  have hlt : s.nb + (digs f n).length < l.length := by
    have := congrArg List.length h
    simp only [List.length_drop, List.length_append, List.length_cons] at this
    omega
  have hmx : mx32 = 2147483647 := rfl
  unfold szM
  rw [if_neg h42, hr, if_pos ⟨by omega, hlt⟩, hs, dv_digs f n hn, Nat.min_eq_left (by omega)]
theorem sz_none {l : L} {s : St} (k : Nat) {c : UInt8} {r : L} (h : l.drop s.nb = c :: r) (h42 : c ≠ 42) (hc : isD c = false) : szM k l s = s := by
  have hr : rE isD l s.nb = s.nb := by
    have := rE_of (a := []) h rfl hc
    simpa using this
  unfold szM
  rw [if_neg (by rw [at_of_drop h]; intro e; exact h42 (Option.some.inj e)), hr, if_neg (by omega)]
theorem nx_prec_none {l : L} {first : Int} {s : St} {c : UInt8} {r : L} (h : l.drop s.nb = c :: r) (hc : c ≠ 46) : pPrec l first s = some s := by
  unfold pPrec
  rw [if_neg]
  rw [at_of_drop h]
  intro e
  exact hc (Option.some.inj e)
theorem nx_prec_some {l : L} {first : Int} {s : St} {r : L} (h : l.drop s.nb = 46 :: r) : pPrec l first s = (pIdx l first { s with nb := s.nb + 1 }).map (szM 1 l) := by
  unfold pPrec
  rw [if_pos (at_of_drop h)]
end Go.Proofs.YtjbmphfgckhaeaaDoor
namespace Go.Proofs.YtjbmphfgckhaeaaDoor

inductive Wr where
  | no
  | num (n : Nat)
  | star
  | at (n : Nat)
def Wr.ok : Wr → Prop
  | .no => True
  | .num n => 0 < n ∧ n < 100000
  | .star => True
  | .at n => 0 < n ∧ n < 1000
def Wr.txt : Wr → L
  | .no => []
  | .num n => digs 7 n
  | .star => [42]
  | .at n => 91 :: (digs 7 n ++ [93, 42])
def Wr.fix : Wr → Int
  | .num n => n
  | _ => -1
def Wr.dyn (first an : Int) : Wr → Int
  | .star => an
  | .at n => n + (first - 1)
  | _ => -1
def Wr.idx : Wr → Int
  | .at n => n
  | _ => -1
def Wr.nx (first an : Int) : Wr → Int
  | .star => an + 1
  | .at n => n + (first - 1) + 1
  | _ => an
def Sz.like (z : Sz) (first an : Int) (w : Wr) : Prop := z.fix = w.fix ∧ z.dyn = w.dyn first an ∧ z.idx = w.idx
def gt (k : Nat) (s : St) : Sz := if k = 0 then s.wd else s.pr
def gt' (k : Nat) (s : St) : Sz := if k = 0 then s.pr else s.wd
theorem gt_put (k : Nat) (z : Sz) (s : St) : gt k (put k z s) = z := by
  unfold gt put
  split <;> rfl
theorem gt'_put (k : Nat) (z : Sz) (s : St) : gt' k (put k z s) = gt' k s := by
  unfold gt' put
  split <;> rfl
theorem put_nb (k : Nat) (z : Sz) (s : St) : (put k z s).nb = s.nb := by unfold put; split <;> rfl
theorem put_pd (k : Nat) (z : Sz) (s : St) : (put k z s).pd = s.pd := by unfold put; split <;> rfl
theorem put_an (k : Nat) (z : Sz) (s : St) : (put k z s).an = s.an := by unfold put; split <;> rfl
theorem put_fl (k : Nat) (z : Sz) (s : St) : (put k z s).fl = s.fl := by unfold put; split <;> rfl

structure SzStep (k : Nat) (first : Int) (w : Wr) (s s' : St) : Prop where
  nb : s'.nb = s.nb + w.txt.length
  pd : s'.pd = false
  an : s'.an = w.nx first s.an
  fl : s'.fl = s.fl
  like : (gt k s').like first s.an w
  keep : gt' k s' = gt' k s

theorem siz {l : L} {first : Int} {s : St} (k : Nat) {w : Wr} {c : UInt8} {r : L} (hw : w.ok) (hp : s.pd = false) (h : l.drop s.nb = w.txt ++ c :: r)
    (hc : isD c = false) (h42 : c ≠ 42) (h91 : c ≠ 91 ∨ w.txt ≠ []) (h0 : (gt k s).like first s.an .no) :
    ∃ s', (pIdx l first s).map (szM k l) = some s' ∧ SzStep k first w s s' := by
  cases w with
  | no =>
    have h91 : c ≠ 91 := by
      rcases h91 with h | h
      · exact h
      · exact absurd rfl h
    refine ⟨s, ?_, ⟨rfl, hp, rfl, rfl, h0, rfl⟩⟩
    rw [nx_idx_none h h91, Option.map_some, sz_none k h h42 hc]
  | num n =>
    obtain ⟨d, t, hd, hd1, hd2⟩ := digs_head 7 n hw.1 (by have := hw.2; omega)
    have hne : d ≠ 91 := by
      rintro rfl
      exact absurd hd2 (by decide)
    have h' : l.drop s.nb = d :: (t ++ c :: r) := by
      rw [h]
      show digs 7 n ++ _ = _
      rw [hd]
      rfl
    refine ⟨_, by rw [nx_idx_none h' hne, Option.map_some, sz_num k (f := 7) (by decide) h hw.1 (by have := hw.2; omega) (by have := hw.2; omega) hc], ⟨?_, ?_, ?_, ?_, ?_, ?_⟩⟩
    · rw [put_nb]; rfl
    · rw [put_pd]; exact hp
    · rw [put_an]; rfl
    · rw [put_fl]
    · rw [gt_put]; exact ⟨rfl, rfl, rfl⟩
    · rw [gt'_put]; rfl
  | star =>
    have h' : l.drop s.nb = 42 :: (c :: r) := h
    refine ⟨_, by rw [nx_idx_none h' (by decide), Option.map_some, sz_star k h'], ⟨?_, ?_, ?_, ?_, ?_, ?_⟩⟩
    · rw [put_nb]; rfl
    · rw [put_pd]
    · rw [put_an]; rfl
    · rw [put_fl]
    · rw [gt_put, hp]; exact ⟨rfl, rfl, rfl⟩
    · rw [gt'_put]; rfl
  | «at» n =>
    have h' : l.drop s.nb = 91 :: (digs 7 n ++ 93 :: (42 :: c :: r)) := by
      rw [h]
      simp [Wr.txt]
    have hi := idx_num (f := 7) (first := first) (by decide) h' hw.1 (by have := hw.2; omega) (by have := hw.2; omega)
    have h2 : l.drop (s.nb + (digs 7 n).length + 2) = 42 :: (c :: r) := by
      have : l.drop s.nb = (91 :: (digs 7 n ++ [93])) ++ (42 :: c :: r) := by rw [h']; simp
      have := drop_more this
      simpa [Nat.add_assoc] using this
    refine ⟨_, by rw [hi, Option.map_some, sz_star k (s := { s with ix := n, ip := s.nb, nb := s.nb + (digs 7 n).length + 2, an := n + (first - 1), hi := true, pd := true }) h2], ⟨?_, ?_, ?_, ?_, ?_, ?_⟩⟩
    · rw [put_nb]
      simp [Wr.txt]
      omega
    · rw [put_pd]
    · rw [put_an]; rfl
    · rw [put_fl]
    · rw [gt_put]; exact ⟨rfl, rfl, rfl⟩
    · rw [gt'_put]; rfl

/-! ### An operation that is told -/
structure TO where
  fl : L
  wd : Wr
  pr : Wr
  ix : Nat
  vb : UInt8
  tx : L
def prTxt (w : Wr) : L := match w with
  | .no => []
  | w => 46 :: w.txt
def ixTxt (n : Nat) : L := if n = 0 then [] else 91 :: (digs 7 n ++ [93])
def letter (c : UInt8) : Prop := (65 ≤ c.toNat ∧ c.toNat ≤ 90) ∨ (97 ≤ c.toNat ∧ c.toNat ≤ 122)
structure TO.ok (t : TO) : Prop where
  fl : t.fl.all isF = true
  wd : t.wd.ok
  pr : t.pr.ok
  ix : t.ix ≤ 1000
  vb : letter t.vb
  tx : (37 : UInt8) ∉ t.tx
def TO.op (t : TO) : L := 37 :: (t.fl ++ (t.wd.txt ++ (prTxt t.pr ++ (ixTxt t.ix ++ [t.vb]))))
theorem letter_no {c : UInt8} (h : letter c) : isD c = false ∧ isF c = false ∧ c ≠ 42 ∧ c ≠ 46 ∧ c ≠ 91 ∧ c ≠ 37 := by
  have hx : ∀ d : UInt8, (d.toNat < 65 ∨ d.toNat = 91) → c ≠ d := by
    rintro d hd rfl
    rcases h with h | h <;> omega
  refine ⟨?_, ?_, hx 42 (by decide), hx 46 (by decide), hx 91 (by decide), hx 37 (by decide)⟩
  · unfold isD
    rcases h with h | h <;> simp <;> omega
  · unfold isF
    have := hx 35 (by decide); have := hx 48 (by decide); have := hx 43 (by decide); have := hx 45 (by decide); have := hx 32 (by decide)
    simp [*]
def TO.a1 (t : TO) (first an : Int) : Int := t.wd.nx first an
def TO.a2 (t : TO) (first an : Int) : Int := t.pr.nx first (t.a1 first an)
def TO.a3 (t : TO) (first an : Int) : Int := if t.ix = 0 then t.a2 first an else t.ix + (first - 1)
structure Told (t : TO) (first an : Int) (x : OpR) : Prop where
  n : x.n = t.op.length
  w : x.w = 1
  r : x.r = t.vb.toNat
  fl : x.st.fl = mk t.fl
  wd : x.st.wd.like first an t.wd
  pr : x.st.pr.like first (t.a1 first an) t.pr
  ix : x.ix = if t.ix = 0 then -1 else (t.ix : Int)
  an : x.st.an = t.a3 first an
end Go.Proofs.YtjbmphfgckhaeaaDoor
namespace Go.Proofs.YtjbmphfgckhaeaaDoor

theorem dec_letter {c : UInt8} (h : letter c) (r : L) : dec (c :: r) = (c.toNat, 1) := by
  rw [dec_L _ (by simp), Lib.decodeL_ascii c r (by rcases h with h | h <;> omega)]
theorem verb_told {l : L} {s : St} {c : UInt8} {r : L} (hc : letter c) (h : l.drop s.nb = c :: r) : verbM l s = some ⟨s, c.toNat, 1⟩ := by
  unfold verbM
  have hne : s.nb ≠ l.length := by
    intro e
    rw [e] at h
    simp at h
  rw [if_neg hne, h, dec_letter hc]

structure Fin (t : TO) (first : Int) (s : St) (x : OpR) : Prop where
  nb : x.st.nb = s.nb + (ixTxt t.ix).length
  w : x.w = 1
  r : x.r = t.vb.toNat
  fl : x.st.fl = s.fl
  wd : x.st.wd = s.wd
  pr : x.st.pr = s.pr
  ix : x.ix = if t.ix = 0 then -1 else (t.ix : Int)
  an : x.st.an = if t.ix = 0 then s.an else t.ix + (first - 1)

theorem drop_idx {l : L} {n f m : Nat} {r : L} (h : l.drop n = 91 :: (digs f m ++ 93 :: r)) : l.drop (n + (digs f m).length + 2) = r := by
  have : l.drop n = (91 :: (digs f m ++ [93])) ++ r := by rw [h]; simp
  have := drop_more this
  simpa [Nat.add_assoc] using this
theorem last_told {l : L} {first : Int} {s : St} {t : TO} {r : L} (ht : t.ok) (hp : s.pd = false) (h : l.drop s.nb = ixTxt t.ix ++ t.vb :: r) :
    ∃ x, (lastIdx l first s).bind (verbM l) = some x ∧ Fin t first s x := by
  have hl := letter_no ht.vb
  unfold lastIdx
  rw [hp, if_neg (by decide)]
  by_cases h0 : t.ix = 0
  · have h' : l.drop s.nb = t.vb :: r := by
      rw [h]
      simp [ixTxt, h0]
    refine ⟨_, by rw [nx_idx_none h' hl.2.2.2.2.1, Option.bind_some, verb_told ht.vb h'], ⟨?_, rfl, rfl, rfl, rfl, rfl, ?_, ?_⟩⟩
    · simp [ixTxt, h0]
    · unfold OpR.ix
      simp [hp, h0]
    · rw [if_pos h0]
  · have h' : l.drop s.nb = 91 :: (digs 7 t.ix ++ 93 :: (t.vb :: r)) := by
      rw [h]
      simp [ixTxt, h0]
    have hm := ht.ix
    have hi := idx_num (f := 7) (first := first) (by decide) h' (by omega) (by omega) (by omega)
    refine ⟨_, by rw [hi, Option.bind_some, verb_told (s := { s with ix := t.ix, ip := s.nb, nb := s.nb + (digs 7 t.ix).length + 2, an := t.ix + (first - 1), hi := true, pd := true }) ht.vb (drop_idx h')], ⟨?_, rfl, rfl, rfl, rfl, rfl, ?_, ?_⟩⟩
    · simp [ixTxt, h0]
      omega
    · unfold OpR.ix
      simp [h0]
    · rw [if_neg h0]

def hdr (l : L) (p : UInt8 → Prop) : Prop := ∃ c r, l = c :: r ∧ p c
theorem hdr_digs {n : Nat} {x : L} {p : UInt8 → Prop} (h0 : 0 < n) (hn : n < 10 ^ 7) (hp : ∀ c : UInt8, 49 ≤ c.toNat → c.toNat ≤ 57 → p c) : hdr (digs 7 n ++ x) p := by
  obtain ⟨d, t, hd, h1, h2⟩ := digs_head 7 n h0 hn
  exact ⟨d, t ++ x, by rw [hd]; rfl, hp d h1 h2⟩
theorem hd3 {t : TO} (ht : t.ok) (r : L) : hdr (ixTxt t.ix ++ t.vb :: r) fun c => isD c = false ∧ isF c = false ∧ c ≠ 42 ∧ c ≠ 46 ∧ (t.ix = 0 → c ≠ 91) := by
  have hl := letter_no ht.vb
  by_cases h0 : t.ix = 0
  · exact ⟨t.vb, r, by simp [ixTxt, h0], hl.1, hl.2.1, hl.2.2.1, hl.2.2.2.1, fun _ => hl.2.2.2.2.1⟩
  · exact ⟨91, digs 7 t.ix ++ 93 :: (t.vb :: r), by simp [ixTxt, h0], by decide, by decide, by decide, by decide, fun h => absurd h h0⟩
theorem prTxt_no : prTxt .no = [] := rfl
theorem prTxt_yes {w : Wr} (h : w ≠ .no) : prTxt w = 46 :: w.txt := by cases w <;> first | rfl | exact absurd rfl h
theorem hd2 {t : TO} (ht : t.ok) (r : L) : hdr (prTxt t.pr ++ (ixTxt t.ix ++ t.vb :: r)) fun c => isD c = false ∧ isF c = false ∧ c ≠ 42 ∧ ((t.ix = 0 ∨ t.pr ≠ .no) → c ≠ 91) := by
  by_cases hp : t.pr = .no
  · rw [hp, prTxt_no]
    obtain ⟨c, x, e, h1, h2, h3, h4, h5⟩ := hd3 ht r
    exact ⟨c, x, e, h1, h2, h3, fun h => by
      rcases h with h | h
      · exact h5 h
      · exact absurd rfl h⟩
  · rw [prTxt_yes hp]
    exact ⟨46, t.pr.txt ++ (ixTxt t.ix ++ t.vb :: r), rfl, by decide, by decide, by decide, fun _ => by decide⟩
theorem hd1 {t : TO} (ht : t.ok) (r : L) : hdr (t.wd.txt ++ (prTxt t.pr ++ (ixTxt t.ix ++ t.vb :: r))) fun c => isF c = false := by
  have hw := ht.wd
  cases hwd : t.wd with
  | no =>
    obtain ⟨c, x, e, h1, h2, _⟩ := hd2 ht r
    exact ⟨c, x, e, h2⟩
  | num n =>
    rw [hwd] at hw
    refine hdr_digs hw.1 (by have := hw.2; omega) ?_
    intro c h1 h2
    unfold isF
    have hx : ∀ d : UInt8, d.toNat < 49 → c ≠ d := by
      rintro d hd rfl
      omega
    have := hx 35 (by decide); have := hx 48 (by decide); have := hx 43 (by decide); have := hx 45 (by decide); have := hx 32 (by decide)
    simp [*]
  | star => exact ⟨42, _, rfl, by decide⟩
  | «at» n => exact ⟨91, _, rfl, by decide⟩

theorem op_txt (t : TO) (rest : L) : t.op ++ rest = 37 :: (t.fl ++ (t.wd.txt ++ (prTxt t.pr ++ (ixTxt t.ix ++ t.vb :: rest)))) := by
  simp [TO.op, List.append_assoc]
theorem op_len (t : TO) : t.op.length = 1 + t.fl.length + t.wd.txt.length + (prTxt t.pr).length + (ixTxt t.ix).length + 1 := by
  simp [TO.op]
  omega

theorem op_told (t : TO) (ht : t.ok) (rest : L) (first an : Int) : ∃ x, opM (t.op ++ rest) first an = some x ∧ Told t first an x := by
  generalize hl : t.op ++ rest = l
  have hl' := hl.symm.trans (op_txt t rest)
  have hd : l.drop 1 = t.fl ++ (t.wd.txt ++ (prTxt t.pr ++ (ixTxt t.ix ++ t.vb :: rest))) := by rw [hl']; rfl
  obtain ⟨c1, r1, e1, hc1⟩ := hd1 ht rest
  have hr : rE isF l 1 = 1 + t.fl.length := rE_of (by rw [hd, e1]) ht.fl hc1
  have htw : (l.drop 1).takeWhile isF = t.fl := by rw [hd, e1, takeWhile_app ht.fl hc1]
  have hs0 : st0 l an = ⟨an, false, 0, 0, false, 1 + t.fl.length, mk t.fl, Sz.no, Sz.no⟩ := by
    unfold st0
    rw [hr, htw]
  have hdn : l.drop (1 + t.fl.length) = t.wd.txt ++ (prTxt t.pr ++ (ixTxt t.ix ++ t.vb :: rest)) := drop_more hd
  have hN := op_len t
  by_cases hA : t.wd = .no ∧ t.pr = .no ∧ t.ix ≠ 0
  · obtain ⟨hA1, hA2, hA3⟩ := hA
    have hm := ht.ix
    have hv := letter_no ht.vb
    have h' : l.drop (1 + t.fl.length) = 91 :: (digs 7 t.ix ++ 93 :: (t.vb :: rest)) := by
      rw [hdn, hA1, hA2]
      simp [ixTxt, hA3, prTxt, Wr.txt]
    have hi := idx_num (f := 7) (first := first) (s := ⟨an, false, 0, 0, false, 1 + t.fl.length, mk t.fl, Sz.no, Sz.no⟩) (by decide) h' (by omega) (by omega) (by omega)
    have h2 := drop_idx h'
    refine ⟨⟨⟨t.ix + (first - 1), true, t.ix, ((1 + t.fl.length : Nat) : Int), true, 1 + t.fl.length + (digs 7 t.ix).length + 2, mk t.fl, Sz.no, Sz.no⟩, t.vb.toNat, 1⟩, ?_, ⟨?_, rfl, rfl, rfl, ?_, ?_, ?_, ?_⟩⟩
    · unfold opM
      rw [hs0, hi, Option.bind_some, sz_none (s := ⟨t.ix + (first - 1), true, t.ix, ((1 + t.fl.length : Nat) : Int), true, 1 + t.fl.length + (digs 7 t.ix).length + 2, mk t.fl, Sz.no, Sz.no⟩) 0 h2 hv.2.2.1 hv.1,
        nx_prec_none (s := ⟨t.ix + (first - 1), true, t.ix, ((1 + t.fl.length : Nat) : Int), true, 1 + t.fl.length + (digs 7 t.ix).length + 2, mk t.fl, Sz.no, Sz.no⟩) h2 hv.2.2.2.1, Option.bind_some]
      unfold lastIdx
      rw [if_pos rfl, Option.bind_some]
      exact verb_told ht.vb h2
    · unfold OpR.n
      rw [hN, hA1, hA2]
      simp [ixTxt, hA3, prTxt, Wr.txt]
      omega
    · rw [hA1]; exact ⟨rfl, rfl, rfl⟩
    · rw [hA2]; exact ⟨rfl, rfl, rfl⟩
    · unfold OpR.ix
      simp [hA3]
    · simp [TO.a3, hA3]
  · obtain ⟨c2, r2, e2, h21, h22, h23, h24⟩ := hd2 ht rest
    have hw91 : c2 ≠ 91 ∨ t.wd.txt ≠ [] := by
      cases hwd : t.wd with
      | no =>
        left
        refine h24 ?_
        by_cases h0 : t.ix = 0
        · exact Or.inl h0
        · exact Or.inr fun hp => hA ⟨hwd, hp, h0⟩
      | num n =>
        right
        have hw := ht.wd
        rw [hwd] at hw
        have := (digs_len 7 n (by decide)).1
        intro e
        have : (digs 7 n).length = 0 := congrArg List.length e
        omega
      | star => exact Or.inr (by simp [Wr.txt])
      | «at» n => exact Or.inr (by simp [Wr.txt])
    obtain ⟨s2, hs2, W⟩ := siz (l := l) (first := first) (s := st0 l an) 0 (w := t.wd) (c := c2) (r := r2) ht.wd (by rw [hs0]) (by rw [hs0, hdn, e2]) h21 h23 hw91 (by rw [hs0]; exact ⟨rfl, rfl, rfl⟩)
    have hop : opM l first an = (pPrec l first s2).bind fun s3 => (lastIdx l first s3).bind fun s4 => verbM l s4 := by
      unfold opM
      have : ((pIdx l first (st0 l an)).map (szM 0 l)).bind (fun s => (pPrec l first s).bind fun s3 => (lastIdx l first s3).bind fun s4 => verbM l s4) = (pPrec l first s2).bind fun s3 => (lastIdx l first s3).bind fun s4 => verbM l s4 := by
        rw [hs2, Option.bind_some]
      rw [← this]
      cases pIdx l first (st0 l an) <;> rfl
    have hnb2 : s2.nb = 1 + t.fl.length + t.wd.txt.length := by rw [W.nb, hs0]
    have hdn2 : l.drop s2.nb = prTxt t.pr ++ (ixTxt t.ix ++ t.vb :: rest) := by
      rw [hnb2]
      exact drop_more hdn
    have hfl2 : s2.fl = mk t.fl := by rw [W.fl, hs0]
    have han2 : s2.an = t.a1 first an := by rw [W.an, hs0]; rfl
    have hwd2 : s2.wd.like first an t.wd := by
      have := W.like
      rw [hs0] at this
      exact this
    have hpr2 : s2.pr = Sz.no := by
      have := W.keep
      rw [hs0] at this
      exact this
    obtain ⟨c3, r3, e3, h31, h32, h33, h34, h35⟩ := hd3 ht rest
    have mid : ∃ s3, pPrec l first s2 = some s3 ∧ s3.nb = s2.nb + (prTxt t.pr).length ∧ s3.pd = false ∧ s3.an = t.a2 first an ∧ s3.fl = mk t.fl ∧ s3.wd = s2.wd ∧ s3.pr.like first (t.a1 first an) t.pr := by
      by_cases hp : t.pr = .no
      · refine ⟨s2, ?_, by rw [hp]; rfl, W.pd, ?_, hfl2, rfl, ?_⟩
        · rw [hp, prTxt_no, List.nil_append, e3] at hdn2
          exact nx_prec_none hdn2 h34
        · rw [han2, TO.a2, hp]; rfl
        · rw [hpr2, hp]; exact ⟨rfl, rfl, rfl⟩
      · rw [prTxt_yes hp] at hdn2
        have hdn3 : l.drop (s2.nb + 1) = t.pr.txt ++ (ixTxt t.ix ++ t.vb :: rest) := drop_more (p := [46]) hdn2
        have hne : t.pr.txt ≠ [] := by
          cases hpr : t.pr with
          | no => exact absurd hpr hp
          | num n =>
            have := (digs_len 7 n (by decide)).1
            intro e
            have : (digs 7 n).length = 0 := congrArg List.length e
            omega
          | star => simp [Wr.txt]
          | «at» n => simp [Wr.txt]
        obtain ⟨s3, hs3, V⟩ := siz (l := l) (first := first) (s := { s2 with nb := s2.nb + 1 }) 1 (w := t.pr) (c := c3) (r := r3) ht.pr W.pd (by rw [hdn3, e3]) h31 h33 (Or.inr hne) (by
          show s2.pr.like _ _ _
          rw [hpr2]; exact ⟨rfl, rfl, rfl⟩)
        refine ⟨s3, ?_, ?_, V.pd, ?_, ?_, V.keep, ?_⟩
        · rw [nx_prec_some hdn2, hs3]
        · rw [V.nb, prTxt_yes hp, List.length_cons]
          show s2.nb + 1 + _ = _
          omega
        · rw [V.an]
          show t.pr.nx first s2.an = _
          rw [han2]; rfl
        · rw [V.fl]; exact hfl2
        · have := V.like
          have h : s3.pr.like first s2.an t.pr := this
          rwa [han2] at h
    obtain ⟨s3, hp3, m1, m2, m3, m4, m5, m6⟩ := mid
    have hdn3 : l.drop s3.nb = ixTxt t.ix ++ t.vb :: rest := by
      rw [m1]
      exact drop_more hdn2
    obtain ⟨x, hx, F⟩ := last_told (first := first) ht m2 hdn3
    refine ⟨x, ?_, ⟨?_, F.w, F.r, ?_, ?_, ?_, F.ix, ?_⟩⟩
    · rw [hop, hp3, Option.bind_some]
      exact hx
    · unfold OpR.n
      rw [F.nb, F.w, m1, hnb2, hN]
    · rw [F.fl, m4]
    · rw [F.wd, m5]; exact hwd2
    · rw [F.pr]; exact m6
    · rw [F.an, m3]; rfl
end Go.Proofs.YtjbmphfgckhaeaaDoor
namespace Go.Proofs.YtjbmphfgckhaeaaDoor

def told : List TO → L
  | [] => []
  | t :: ts => (t.op ++ t.tx) ++ told ts
structure ITold (t : TO) (first an : Int) (o : IOp) : Prop where
  vb : o.vb = t.vb.toNat
  fl : o.fl = mk t.fl
  wd : o.wd.like first an t.wd
  pr : o.pr.like first (t.a1 first an) t.pr
  ix : o.ix = if t.ix = 0 then -1 else (t.ix : Int)
  arg : o.arg = t.a3 first an
def Tolds (first : Int) : List TO → List IOp → Int → Prop
  | [], [], _ => True
  | t :: ts, o :: os, an => ITold t first an o ∧ Tolds first ts os (t.a3 first an + 1)
  | _, _, _ => False
theorem like_add {z : Sz} {first an : Int} {w : Wr} (h : z.like first an w) (i : Int) : (z.add i).like first an w := by
  obtain ⟨h1, h2, h3⟩ := h
  rw [Sz.add_eq]
  split
  · exact ⟨h1, h2, h3⟩
  · split <;> exact ⟨h1, h2, h3⟩
theorem text_skip {first : Int} {l : L} {an : Int} : ∀ (a : L) (g i : Nat), (37 : UInt8) ∉ a → parseFrom first (a.length + g) i (a ++ l) an = parseFrom first g (i + a.length) l an
  | [], g, i, _ => by simp
  | c :: r, g, i, h => by
    have hc : c ≠ 37 := by
      rintro rfl
      exact h (by simp)
    have hr : (37 : UInt8) ∉ r := fun e => h (by simp [e])
    rw [show (c :: r).length + g = (r.length + g) + 1 from by simp; omega, List.cons_append, parseFrom, if_neg hc, text_skip r g (i + 1) hr]
    congr 1
    simp
    omega
theorem told_from (first : Int) : ∀ (ts : List TO) (g i : Nat) (an : Int), (∀ t ∈ ts, t.ok) → (told ts).length + 1 ≤ g →
    ∃ os, parseFrom first g i (told ts) an = some os ∧ Tolds first ts os an
  | [], g, i, an, _, hg => ⟨[], parse_end first g i an (by omega), trivial⟩
  | t :: ts, g, i, an, hok, hg => by
    have ht := hok t (by simp)
    have hok' : ∀ u ∈ ts, u.ok := fun u hu => hok u (by simp [hu])
    obtain ⟨x, hx, T⟩ := op_told t ht (t.tx ++ told ts) first an
    have hN := op_len t
    have hlen : (told (t :: ts)).length = t.op.length + t.tx.length + (told ts).length := by
      simp [told]
      omega
    obtain ⟨k, rfl⟩ : ∃ k, g = (t.tx.length + k) + 1 := ⟨g - 1 - t.tx.length, by omega⟩
    obtain ⟨os, ho, R⟩ := told_from first ts k (i + x.n + t.tx.length) (t.a3 first an + 1) hok' (by omega)
    have hl : told (t :: ts) = t.op ++ (t.tx ++ told ts) := by simp [told]
    have hdrop : (t.op ++ (t.tx ++ told ts)).drop x.n = t.tx ++ told ts := by rw [T.n, List.drop_left]
    have hna : nextA x an = t.a3 first an + 1 := by
      have hv := (letter_no ht.vb).2.2.2.2.2
      unfold nextA
      rw [if_neg, T.an]
      rw [T.r]
      intro e
      exact hv (UInt8.toNat_inj.1 e)
    have hcons : t.op ++ (t.tx ++ told ts) = 37 :: (t.op.drop 1 ++ (t.tx ++ told ts)) := rfl
    refine ⟨iop (t.op ++ (t.tx ++ told ts)) i x :: os, ?_, ⟨?_, T.fl, like_add T.wd _, like_add T.pr _, T.ix, T.an⟩, R⟩
    · rw [hl]
      rw [hcons, parseFrom, if_pos rfl, ← hcons, hx, Option.bind_some, hdrop, hna, text_skip t.tx k (i + x.n) ht.tx, ho]
      rfl
    · show ((x.r : Nat) : Int) = _
      rw [T.r]
theorem told_parse (ts : List TO) (hok : ∀ t ∈ ts, t.ok) (hne : ts ≠ []) (idx : Int) : ∃ os, parseM (told ts) idx = some os ∧ Tolds (idx + 1) ts os (idx + 1) := by
  have h37 : (37 : UInt8) ∈ told ts := by
    cases ts with
    | nil => exact absurd rfl hne
    | cons t r => simp [told, TO.op]
  unfold parseM
  rw [if_pos h37]
  exact told_from (idx + 1) ts ((told ts).length + 1) 0 (idx + 1) hok (Nat.le_refl _)
theorem Tolds.len {first : Int} : ∀ {ts : List TO} {os : List IOp} {an : Int}, Tolds first ts os an → os.length = ts.length
  | [], [], _, _ => rfl
  | _ :: _, _ :: _, _, h => congrArg (· + 1) (Tolds.len h.2)
  | [], _ :: _, _, h => h.elim
  | _ :: _, [], _, h => h.elim
/-- Where the arguments stand when the i-th operation begins. -/
def anAt (first : Int) : List TO → Int → Nat → Int
  | t :: ts, an, i + 1 => anAt first ts (t.a3 first an + 1) i
  | _, an, _ => an
theorem Tolds.at {first : Int} : ∀ {ts : List TO} {os : List IOp} {an : Int} (i : Nat) (h1 : i < ts.length) (h2 : i < os.length), Tolds first ts os an → ITold ts[i] first (anAt first ts an i) os[i]
  | _ :: _, _ :: _, _, 0, _, _, h => h.1
  | _ :: _, _ :: _, _, i + 1, h1, h2, h => Tolds.at i (Nat.lt_of_succ_lt_succ h1) (Nat.lt_of_succ_lt_succ h2) h.2
theorem anAt_next {first : Int} : ∀ {ts : List TO} {an : Int} (i : Nat) (h : i < ts.length), anAt first ts an (i + 1) = ts[i].a3 first (anAt first ts an i) + 1
  | _ :: ts, _, 0, _ => by cases ts <;> rfl
  | _ :: _, _, i + 1, h => anAt_next i (Nat.lt_of_succ_lt_succ h)
end Go.Proofs.YtjbmphfgckhaeaaDoor
namespace Go.Proofs.YtjbmphfgckhaeaaDoor
open Go.RowKit

theorem iparse_told (ts : List TO) (hok : ∀ t ∈ ts, t.ok) (hne : ts ≠ []) (hn : ts.length ≤ 1000) (idx : Int) (w : World) (hG : G w) (hs : (told ts).length ≤ 500000000000) (hi0 : 0 ≤ idx) (hi1 : idx ≤ 999999999) :
    ∃ xs, Tolds (idx + 1) ts xs (idx + 1) ∧ xs.length = ts.length ∧
    Calls Tryd.prog 14 #[.string (mk (told ts)), .int .i64 idx] w fun e w' => ∃ v : Value, e = .returned (.tuple #[v, .bool true]) ∧ w'.ownsRow w.heap.size 32 19 v xs.length (flat xs) ∧ Below w.heap.size w w' := by
  obtain ⟨xs, hx, hT⟩ := told_parse ts hok hne idx
  have hlen := hT.len
  refine ⟨xs, hT, hlen, ?_⟩
  have hd : (mk (told ts)).data.toList = told ts := mk_data _
  have hc : (37 : UInt8) ∈ (mk (told ts)).data.toList := by
    rw [hd]
    cases ts with
    | nil => exact absurd rfl hne
    | cons t r => simp [told, TO.op]
  have h := parse_yes (mk (told ts)) idx w hG (by rw [mk_size']; exact hs) hi0 hi1 hc
  have hg : Calls Tryd.prog 24 #[.string (mk (told ts)), .int .i64 idx] w (ParseGood xs w) := h.mono fun e w' h => by
    rw [ParsePost, hd, hx] at h
    exact h
  cases xs with
  | nil =>
    cases ts with
    | nil => exact absurd rfl hne
    | cons t r => cases hlen
  | cons y ys =>
    refine (iparse_good (mk (told ts)) idx w (y :: ys) (by simp) (by omega) hg).mono fun e w' h => ?_
    exact h
theorem Wr.txt_len (w : Wr) : w.txt.length ≤ 10 := by
  cases w with
  | no => exact Nat.zero_le _
  | num n => exact Nat.le_trans (digs_len 7 n (by decide)).2 (by decide)
  | star => show 1 ≤ 10; omega
  | «at» n =>
    have := (digs_len 7 n (by decide)).2
    simp [Wr.txt]
    omega
theorem op_len_le (t : TO) : t.op.length ≤ t.fl.length + 40 := by
  have h1 := t.wd.txt_len
  have h2 : (prTxt t.pr).length ≤ 11 := by
    by_cases h : t.pr = .no
    · rw [h]; exact Nat.zero_le _
    · rw [prTxt_yes h, List.length_cons]
      have := t.pr.txt_len
      omega
  have h3 : (ixTxt t.ix).length ≤ 9 := by
    unfold ixTxt
    split
    · exact Nat.zero_le _
    · have := (digs_len 7 t.ix (by decide)).2
      simp
      omega
  have := op_len t
  omega
end Go.Proofs.YtjbmphfgckhaeaaDoor
namespace Go.Proofs.YtjbmphfgckhaeaaDoor
open Go.RowKit

/-- A told operation as the program holds it: three slices, two numbers, a text. -/
structure TV where
  p1 : Option Addr
  n1 : Nat
  c1 : Nat
  p2 : Option Addr
  n2 : Nat
  c2 : Nat
  p3 : Option Addr
  n3 : Nat
  c3 : Nat
  ix : Int
  vb : Int
  tx : ByteArray
def tvCells (v : TV) : Array Value := #[.slice v.p1 v.n1 v.c1, .slice v.p2 v.n2 v.c2, .slice v.p3 v.n3 v.c3, .int .i64 v.ix, .int .i32 v.vb, .string v.tx]
def TV.fits (v : TV) : Prop := v.n1 ≤ 2147483647 ∧ v.n2 ≤ 2147483647 ∧ v.n3 ≤ 2147483647 ∧ v.tx.size ≤ 2147483647
def Fit2 (v : TV) (w : World) (e : Ending) (w' : World) : Prop := ∃ b : Bool, e = .returned (.bool b) ∧ (b = true → v.fits) ∧ Below w.heap.size w w'
set_option maxRecDepth 100000 in
set_option maxHeartbeats 1600000 in
theorem fits2_any (v : TV) (w : World) : Calls Tryd.prog 25 #[.agg (tvCells v)] w (Fit2 v w) := by
  obtain ⟨p1, n1, c1, p2, n2, c2, p3, n3, c3, ix, vb, tx⟩ := v
  have B1 : ∀ b, Below w.heap.size w (w.alloc b) := fun b => (Below.refl _ _).alloc (Nat.le_refl _) _
  unfold tvCells
  by_cases h1 : (n1 : Int) > 2147483647
  · have d1 : decide ((n1 : Int) > 2147483647) = true := decide_eq_true h1
    go_enter Tryd.func25, Tryd.ntmps25
    go_wp2
    go_ret
    exact ⟨false, rfl, (fun h => by cases h), B1 _⟩
  have d1 : decide ((n1 : Int) > 2147483647) = false := decide_eq_false h1
  by_cases h2 : (n2 : Int) > 2147483647
  · have d2 : decide ((n2 : Int) > 2147483647) = true := decide_eq_true h2
    go_enter Tryd.func25, Tryd.ntmps25
    go_wp2
    go_ret
    exact ⟨false, rfl, (fun h => by cases h), B1 _⟩
  have d2 : decide ((n2 : Int) > 2147483647) = false := decide_eq_false h2
  by_cases h3 : (n3 : Int) > 2147483647
  · have d3 : decide ((n3 : Int) > 2147483647) = true := decide_eq_true h3
    go_enter Tryd.func25, Tryd.ntmps25
    go_wp2
    go_ret
    exact ⟨false, rfl, (fun h => by cases h), B1 _⟩
  have d3 : decide ((n3 : Int) > 2147483647) = false := decide_eq_false h3
  by_cases h4 : (tx.size : Int) > 2147483647
  · have d4 : decide ((tx.size : Int) > 2147483647) = true := decide_eq_true h4
    go_enter Tryd.func25, Tryd.ntmps25
    go_wp2
    go_ret
    exact ⟨false, rfl, (fun h => by cases h), B1 _⟩
  have d4 : decide ((tx.size : Int) > 2147483647) = false := decide_eq_false h4
  go_enter Tryd.func25, Tryd.ntmps25
  go_wp2
  go_ret
  exact ⟨true, rfl, fun _ => by
    show n1 ≤ _ ∧ n2 ≤ _ ∧ n3 ≤ _ ∧ tx.size ≤ _
    omega, B1 _⟩
end Go.Proofs.YtjbmphfgckhaeaaDoor
