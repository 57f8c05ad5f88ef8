/-
  What the program computes, as plain functions on lists of bytes: no program and no memory in sight. No condition.
-/
import Derived.Lib.ParseIntB
import Derived.Lib.Strings
import Derived.Lib.IndexBytes
import Derived.Shelf.Unicode.DecodeSlow
import Derived.Lib.RuneCount
import Derived.Lib.QuoteLoop
namespace Go.Proofs.YtjbmphfgckhaeaaDoor

abbrev L := List UInt8
def mk (l : L) : ByteArray := ⟨l.toArray⟩
def isD (c : UInt8) : Bool := decide (48 ≤ c.toNat) && decide (c.toNat ≤ 57)
def isF (c : UInt8) : Bool := ([35, 48, 43, 45, 32] : L).contains c
/-- Where the run of p-bytes that begins at n ends. -/
def rE (p : UInt8 → Bool) (l : L) (n : Nat) : Nat := n + ((l.drop n).takeWhile p).length
def seg (l : L) (a b : Nat) : L := (l.drop a).take (b - a)
/-- The number that digits spell. -/
def dvA (a : Nat) (l : L) : Nat := l.foldl (fun a c => 10 * a + (c.toNat - 48)) a
def dv (l : L) : Nat := dvA 0 l
def mx32 : Nat := 2147483647

structure Sz where
  fix : Int
  dyn : Int
  idx : Int
  st : Int
  en : Int
  deriving DecidableEq
def Sz.no : Sz := ⟨-1, -1, -1, 0, 0⟩

structure St where
  an : Int
  hi : Bool
  ix : Int
  ip : Int
  pd : Bool
  nb : Nat
  fl : ByteArray
  wd : Sz
  pr : Sz

/-- parseIndex: none: an error. -/
def pIdx (l : L) (first : Int) (s : St) : Option St :=
  if l[s.nb]? = some 91 then
    if s.nb + 1 < rE isD l (s.nb + 1) ∧ l[rE isD l (s.nb + 1)]? = some 93 ∧ 1 ≤ dv (seg l (s.nb + 1) (rE isD l (s.nb + 1))) ∧ dv (seg l (s.nb + 1) (rE isD l (s.nb + 1))) ≤ mx32 then
      some { s with ix := dv (seg l (s.nb + 1) (rE isD l (s.nb + 1))), ip := s.nb, nb := rE isD l (s.nb + 1) + 1, an := dv (seg l (s.nb + 1) (rE isD l (s.nb + 1))) + (first - 1), hi := true, pd := true }
    else none
  else some s

def put (k : Nat) (z : Sz) (s : St) : St := if k = 0 then { s with wd := z } else { s with pr := z }
/-- parseSize: k = 0: a width; k = 1: a precision. -/
def szM (k : Nat) (l : L) (s : St) : St :=
  if l[s.nb]? = some 42 then
    put k (if s.pd then ⟨-1, s.an, s.ix, s.ip - k, s.nb + 1⟩ else ⟨-1, s.an, -1, (s.nb : Int) - k, s.nb + 1⟩) { s with pd := false, an := s.an + 1, nb := s.nb + 1 }
  else if s.nb < rE isD l s.nb ∧ rE isD l s.nb < l.length then
    put k ⟨(min (dv (seg l s.nb (rE isD l s.nb))) mx32 : Nat), -1, -1, (s.nb : Int) - k, rE isD l s.nb⟩ { s with nb := rE isD l s.nb }
  else { s with nb := rE isD l s.nb }
def pPrec (l : L) (first : Int) (s : St) : Option St :=
  if l[s.nb]? = some 46 then (pIdx l first { s with nb := s.nb + 1 }).map (szM 1 l) else some s

theorem takeWhile_le (p : UInt8 → Bool) (l : L) : (l.takeWhile p).length ≤ l.length := by
  have h := List.takeWhile_append_dropWhile (p := p) (l := l)
  have hl : l.length = (l.takeWhile p).length + (l.dropWhile p).length := by rw [← List.length_append, h]
  omega
theorem rE_ge (p : UInt8 → Bool) (l : L) (n : Nat) : n ≤ rE p l n := by unfold rE; omega
theorem rE_le (p : UInt8 → Bool) (l : L) (n : Nat) (h : n ≤ l.length) : rE p l n ≤ l.length := by
  unfold rE
  have := takeWhile_le p (l.drop n)
  simp at this
  omega
theorem rE_step (p : UInt8 → Bool) (l : L) (k : Nat) (h : k < l.length) (hp : p l[k] = true) : rE p l (k + 1) = rE p l k := by
  unfold rE
  rw [List.drop_eq_getElem_cons h, List.takeWhile_cons, if_pos hp, List.length_cons]
  omega
theorem rE_stop (p : UInt8 → Bool) (l : L) (k : Nat) (h : k < l.length) (hp : p l[k] = false) : rE p l k = k := by
  unfold rE
  rw [List.drop_eq_getElem_cons h, List.takeWhile_cons, hp]
  simp
theorem rE_end (p : UInt8 → Bool) (l : L) (k : Nat) (h : l.length ≤ k) : rE p l k = k := by
  unfold rE
  rw [List.drop_eq_nil_of_le h]
  simp

/-- scanNum's number. -/
def numM (l : L) (n : Nat) : Nat := min (dv (seg l n (rE isD l n))) mx32
def hasNum (l : L) (n : Nat) : Bool := decide (n < rE isD l n ∧ rE isD l n < l.length)

theorem dvA_ge (l : L) : ∀ a, a ≤ dvA a l := by
  induction l with
  | nil => intro a; exact Nat.le_refl _
  | cons c r ih =>
    intro a
    have := ih (10 * a + (c.toNat - 48))
    simp only [dvA, List.foldl_cons] at this ⊢
    omega
theorem pU (l : L) : ∀ a, a < 4294967296 → l.all isD = true → Lib.parseUintM (2 ^ 32 - 1) a l = if dvA a l < 4294967296 then .ok (dvA a l) else .range := by
  induction l with
  | nil => intro a h _; simp [Lib.parseUintM, dvA, h]
  | cons c r ih =>
    intro a h hd
    simp only [List.all_cons, Bool.and_eq_true, isD, decide_eq_true_eq] at hd
    have hge := dvA_ge r (10 * a + (c.toNat - 48))
    have hdv : dvA a (c :: r) = dvA (10 * a + (c.toNat - 48)) r := rfl
    rw [Lib.parseUintM, if_pos hd.1, if_neg (by omega), hdv]
    by_cases h2 : (2 ^ 32 - 1 : Nat) < a * 10 + (c.toNat - 48)
    · rw [if_pos h2, if_neg (by omega)]
    · rw [if_neg h2, show a * 10 + (c.toNat - 48) = 10 * a + (c.toNat - 48) from by omega]
      exact ih _ (by omega) (by simpa [isD] using hd.2)
/-- ParseInt(s, 10, 32) of digits. -/
theorem pI_digits (l : L) (hne : l ≠ []) (hd : l.all isD = true) :
    Lib.parseIntB 32 l = if dv l ≤ mx32 then .ok (dv l : Nat) else .range := by
  match l, hne with
  | c :: r, _ =>
    have hc : 48 ≤ c.toNat ∧ c.toNat ≤ 57 := by
      simp only [List.all_cons, Bool.and_eq_true, isD, decide_eq_true_eq] at hd
      exact hd.1
    have h43 : ¬ (c.toNat = 43 ∨ c.toNat = 45) := by omega
    have h45 : ¬ c.toNat = 45 := by omega
    simp only [Lib.parseIntB]
    rw [if_neg h43]
    simp only [Lib.parseUintB]
    rw [if_neg (by simp), pU _ 0 (by decide) hd]
    have hdv : dv (c :: r) = dvA 0 (c :: r) := rfl
    rw [hdv]
    unfold mx32
    by_cases h1 : dvA 0 (c :: r) < 4294967296
    · rw [if_pos h1]
      simp only [h45, not_false_iff, true_and, false_and, if_false]
      by_cases h2 : dvA 0 (c :: r) ≤ 2147483647
      · rw [if_pos h2, if_neg (by omega)]
      · rw [if_neg h2, if_pos (by omega)]
    · rw [if_neg h1, if_neg (by omega)]
theorem sat_digits (l : L) (hd : l.all isD = true) : Lib.intSat 32 l = (mx32 : Nat) := by
  match l with
  | [] => rfl
  | c :: r =>
    have hc : 48 ≤ c.toNat ∧ c.toNat ≤ 57 := by
      simp only [List.all_cons, Bool.and_eq_true, isD, decide_eq_true_eq] at hd
      exact hd.1
    have h45 : ¬ c.toNat = 45 := by omega
    simp [Lib.intSat, h45, mx32]
theorem takeWhile_all (p : UInt8 → Bool) : ∀ l : L, (l.takeWhile p).all p = true
  | [] => rfl
  | c :: r => by
    rw [List.takeWhile_cons]
    cases h : p c with
    | true => simp only [if_true, List.all_cons, h, takeWhile_all p r, Bool.and_self]
    | false => simp
theorem seg_run (p : UInt8 → Bool) (l : L) (n : Nat) : seg l n (rE p l n) = (l.drop n).takeWhile p := by
  unfold seg rE
  rw [show n + ((l.drop n).takeWhile p).length - n = ((l.drop n).takeWhile p).length from by omega]
  have h := List.takeWhile_append_dropWhile (p := p) (l := l.drop n)
  exact (congrArg (List.take _) h).symm.trans (List.take_left)
theorem seg_run_all (p : UInt8 → Bool) (l : L) (n : Nat) : (seg l n (rE p l n)).all p = true := by rw [seg_run]; exact takeWhile_all p _
theorem seg_run_ne (p : UInt8 → Bool) (l : L) (n : Nat) (h : n < rE p l n) : seg l n (rE p l n) ≠ [] := by
  rw [seg_run]
  unfold rE at h
  intro e
  rw [e] at h
  simp at h

theorem szM_star0 (l : L) (st : St) (hb : l[st.nb]? = some 42) (hp : st.pd = true) :
    szM 0 l st = { st with pd := false, an := st.an + 1, nb := st.nb + 1, wd := ⟨-1, st.an, st.ix, st.ip, st.nb + 1⟩ } := by
  unfold szM
  rw [if_pos hb, if_pos hp]
  simp [put]
theorem szM_star1 (l : L) (st : St) (hb : l[st.nb]? = some 42) (hp : st.pd = true) :
    szM 1 l st = { st with pd := false, an := st.an + 1, nb := st.nb + 1, pr := ⟨-1, st.an, st.ix, st.ip - 1, st.nb + 1⟩ } := by
  unfold szM
  rw [if_pos hb, if_pos hp]
  simp [put]
theorem szM_plain0 (l : L) (st : St) (hb : l[st.nb]? = some 42) (hp : st.pd = false) :
    szM 0 l st = { st with pd := false, an := st.an + 1, nb := st.nb + 1, wd := ⟨-1, st.an, -1, st.nb, st.nb + 1⟩ } := by
  unfold szM
  rw [if_pos hb, hp]
  simp [put]
theorem szM_plain1 (l : L) (st : St) (hb : l[st.nb]? = some 42) (hp : st.pd = false) :
    szM 1 l st = { st with pd := false, an := st.an + 1, nb := st.nb + 1, pr := ⟨-1, st.an, -1, (st.nb : Int) - 1, st.nb + 1⟩ } := by
  unfold szM
  rw [if_pos hb, hp]
  simp [put]
theorem szM_num0 (l : L) (st : St) (hb : l[st.nb]? ≠ some 42) (hp : hasNum l st.nb = true) :
    szM 0 l st = { st with nb := rE isD l st.nb, wd := ⟨(numM l st.nb : Nat), -1, -1, st.nb, rE isD l st.nb⟩ } := by
  unfold szM
  rw [if_neg hb, if_pos (by simpa [hasNum] using hp)]
  simp [put, numM]
theorem szM_num1 (l : L) (st : St) (hb : l[st.nb]? ≠ some 42) (hp : hasNum l st.nb = true) :
    szM 1 l st = { st with nb := rE isD l st.nb, pr := ⟨(numM l st.nb : Nat), -1, -1, (st.nb : Int) - 1, rE isD l st.nb⟩ } := by
  unfold szM
  rw [if_neg hb, if_pos (by simpa [hasNum] using hp)]
  simp [put, numM]
theorem szM_none (k : Nat) (l : L) (st : St) (hb : l[st.nb]? ≠ some 42) (hp : hasNum l st.nb = false) :
    szM k l st = { st with nb := rE isD l st.nb } := by
  unfold szM
  rw [if_neg hb, if_neg (by simpa [hasNum] using hp)]

/-- The rune at the beginning of a text, and its width. -/
def dec (l : L) : Nat × Nat := Lib.decodeGo (mk l)
theorem mk_data (l : L) : (mk l).data.toList = l := by simp [mk]
theorem mk_size' (l : L) : (mk l).size = l.length := by simp [mk, ByteArray.size]
theorem dec_width (l : L) (h : l ≠ []) : 1 ≤ (dec l).2 ∧ (dec l).2 ≤ l.length := by
  have hs : 0 < (mk l).size := by
    rw [mk_size']
    exact List.length_pos_iff.2 h
  unfold dec Lib.decodeGo
  rw [if_neg (by omega)]
  refine ⟨Lib.decode_width_pos _ _ hs, ?_⟩
  have := Lib.width_le _ hs
  rwa [mk_size'] at this

structure OpR where
  st : St
  r : Nat
  w : Nat
/-- The state behind the flags. -/
def st0 (l : L) (an : Int) : St := ⟨an, false, 0, 0, false, rE isF l 1, mk ((l.drop 1).takeWhile isF), Sz.no, Sz.no⟩
def lastIdx (l : L) (first : Int) (s : St) : Option St := if s.pd then some s else pIdx l first s
def verbM (l : L) (s : St) : Option OpR := if s.nb = l.length then none else some ⟨s, (dec (l.drop s.nb)).1, (dec (l.drop s.nb)).2⟩
/-- parseOperation: none: an error. -/
def opM (l : L) (first an : Int) : Option OpR :=
  (pIdx l first (st0 l an)).bind fun s1 => (pPrec l first (szM 0 l s1)).bind fun s3 => (lastIdx l first s3).bind fun s4 => verbM l s4
def OpR.n (x : OpR) : Nat := x.st.nb + x.w
def OpR.vs (x : OpR) : Int := if x.st.pd then x.st.ip else x.st.nb
def OpR.ix (x : OpR) : Int := if x.st.pd then x.st.ix else -1
end Go.Proofs.YtjbmphfgckhaeaaDoor
