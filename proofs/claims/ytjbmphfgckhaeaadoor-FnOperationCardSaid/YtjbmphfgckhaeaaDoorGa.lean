/-
  The reference (package spec) as plain functions, and what it has to do with parseOperation: where it calls a text good the operations are the same, where it calls it bad there is an error. No program and no memory in sight. No condition.
  The reference's reader: is, None, star. Conditions: the reader's block, texts of at most 4096 bytes.
  The reference's reader: digits, bracket. Conditions: the reader's block, texts of at most 4096 bytes.
  The reference's reader: bracket. Conditions: the reader's block, texts of at most 4096 bytes.
  The reference's op: an operation, step by step. Conditions: the reader's block, texts of at most 4096 bytes, the library's tables.
-/
import Derived.Test.YtjbmphfgckhaeaaDoorPt
import Derived.Test.YtjbmphfgckhaeaaDoorWm
import Derived.Deep.QuietTactic
import Derived.BigQuiet
import Derived.Deep.DeepCutAuto
import Derived.Deep.LoopGhost
import Derived.Deep.CutBlock
namespace Go.Proofs.YtjbmphfgckhaeaaDoor

inductive R3 (α : Type) where
  | good (x : α)
  | bad
  | opn
def R3.bind {α β : Type} (r : R3 α) (f : α → R3 β) : R3 β :=
  match r with
  | .good x => f x
  | .bad => .bad
  | .opn => .opn
theorem R3.bind_good {α β : Type} (x : α) (f : α → R3 β) : (R3.good x).bind f = f x := rfl
theorem R3.bind_bad {α β : Type} (f : α → R3 β) : (R3.bad : R3 α).bind f = .bad := rfl
theorem R3.bind_opn {α β : Type} (f : α → R3 β) : (R3.opn : R3 α).bind f = .opn := rfl
structure Z3 where
  fix : Int
  dyn : Int
  idx : Int
def Z3.no : Z3 := ⟨-1, -1, -1⟩
/-- An operation of the reference. -/
structure SO where
  text : ByteArray
  st : Int
  en : Int
  fl : ByteArray
  vb : Int
  vs : Int
  ix : Int
  arg : Int
  wd : Z3
  pr : Z3
/-- The reference's state between two steps. -/
structure SS where
  n : Nat
  a : Nat
  nx : Int
  fr : Nat
  wd : Z3
  pr : Z3

def isDat (l : L) (a : Nat) : Bool :=
  match l[a]? with
  | some c => isD c
  | none => false
def spDig (l : L) (a : Nat) : R3 (Nat × Nat) := if a + 7 ≤ rE isD l a then .opn else if rE isD l a = a then .bad else .good (dv (seg l a (rE isD l a)), rE isD l a)
def spBr (l : L) (a : Nat) : R3 (Nat × Nat) :=
  if l[a]? = some 91 then (spDig l (a + 1)).bind fun x => if x.1 < 1 ∨ l[x.2]? ≠ some 93 then .bad else .good (x.1, x.2 + 1)
  else .good (0, a)
def starZ (first nx : Int) (n : Nat) : Z3 := if 0 < n then ⟨-1, first + n - 1, n⟩ else ⟨-1, nx, -1⟩
def spW (l : L) (first : Int) (s : SS) : R3 SS :=
  if l[s.a]? = some 42 then .good { s with wd := starZ first s.nx s.n, n := 0, a := s.a + 1, nx := (starZ first s.nx s.n).dyn + 1 }
  else if isDat l s.a = true then
    if 0 < s.n then .opn else (spDig l s.a).bind fun x => .good { s with wd := ⟨x.1, -1, -1⟩, a := x.2 }
  else .good s
def spP (l : L) (first : Int) (s : SS) : R3 SS :=
  if l[s.a]? = some 46 then
    if 0 < s.n then .opn else
    (spBr l (s.a + 1)).bind fun x =>
      if l[x.2]? = some 42 then .good { s with pr := starZ first s.nx x.1, n := 0, a := x.2 + 1, nx := (starZ first s.nx x.1).dyn + 1, fr := s.a + 1 }
      else if isDat l x.2 = true then
        if 0 < x.1 then .opn else (spDig l x.2).bind fun y => .good { s with pr := ⟨y.1, -1, -1⟩, n := 0, a := y.2, fr := s.a + 1 }
      else .opn
  else .good s
def spL (l : L) (s : SS) : R3 SS := if s.n = 0 then (spBr l s.a).bind fun x => .good { s with n := x.1, a := x.2, fr := s.a } else .good s
def opnV (l : L) (st : Nat) (s : SS) : Prop :=
  ((dec (l.drop s.a)).1 = 65533 ∧ (dec (l.drop s.a)).2 = 1) ∨ ((dec (l.drop s.a)).1 = 37 ∧ (0 < s.n ∨ st + 1 < s.a)) ∨ (dec (l.drop s.a)).1 = 91 ∨ (dec (l.drop s.a)).1 = 42 ∨ (dec (l.drop s.a)).1 = 46
instance (l : L) (st : Nat) (s : SS) : Decidable (opnV l st s) := by unfold opnV; infer_instance
def argV (l : L) (first : Int) (s : SS) : Int := if (dec (l.drop s.a)).1 = 37 then -1 else if 0 < s.n then first + s.n - 1 else s.nx
def opV (l : L) (first : Int) (st : Nat) (fl : ByteArray) (s : SS) : SO :=
  ⟨mk (seg l st (s.a + (dec (l.drop s.a)).2)), st, ((s.a + (dec (l.drop s.a)).2 : Nat) : Int), fl, (dec (l.drop s.a)).1, if 0 < s.n then (s.fr : Int) else s.a, if 0 < s.n then (s.n : Int) else -1, argV l first s, s.wd, s.pr⟩
def spV (l : L) (first : Int) (st : Nat) (fl : ByteArray) (s : SS) : R3 (SO × Nat × Int) :=
  if s.a = l.length then .bad else if opnV l st s then .opn else
  .good (opV l first st fl s, s.a + (dec (l.drop s.a)).2, if (dec (l.drop s.a)).1 = 37 then s.nx else argV l first s + 1)
def flV (l : L) (st : Nat) : ByteArray := mk ((l.drop (st + 1)).takeWhile isF)
def ssV (l : L) (st : Nat) (nx : Int) (x : Nat × Nat) : SS := ⟨x.1, x.2, nx, rE isF l (st + 1), Z3.no, Z3.no⟩
/-- spec's op: an operation at place st, the next argument being nx. -/
def spOp (l : L) (first : Int) (st : Nat) (nx : Int) : R3 (SO × Nat × Int) :=
  (spBr l (rE isF l (st + 1))).bind fun x => (spW l first (ssV l st nx x)).bind fun s1 => (spP l first s1).bind fun s2 => (spL l s2).bind fun s3 => spV l first st (flV l st) s3

/-! ### A list's end -/
theorem at_drop (l : L) (i k : Nat) : (l.drop i)[k]? = l[k + i]? := by rw [List.getElem?_drop, Nat.add_comm]
theorem rE_drop (p : UInt8 → Bool) (l : L) (i k : Nat) : rE p (l.drop i) k + i = rE p l (k + i) := by
  unfold rE
  rw [List.drop_drop, Nat.add_comm i k]
  omega
theorem seg_drop (l : L) (i a b : Nat) : seg (l.drop i) a b = seg l (a + i) (b + i) := by
  unfold seg
  rw [List.drop_drop, Nat.add_comm i a, show b + i - (a + i) = b - a from by omega]
theorem dvA_lt (l : L) (hd : l.all isD = true) : ∀ a : Nat, dvA a l + 1 ≤ (a + 1) * 10 ^ l.length := by
  induction l with
  | nil => intro a; simp [dvA]
  | cons c r ih =>
    intro a
    simp only [List.all_cons, Bool.and_eq_true] at hd
    have hc := hd.1
    simp only [isD, Bool.and_eq_true, decide_eq_true_eq] at hc
    have h1 := ih hd.2 (10 * a + (c.toNat - 48))
    have h2 : dvA a (c :: r) = dvA (10 * a + (c.toNat - 48)) r := rfl
    rw [h2, List.length_cons, Nat.pow_succ]
    have h3 : 10 * a + (c.toNat - 48) + 1 ≤ (a + 1) * 10 := by omega
    calc dvA (10 * a + (c.toNat - 48)) r + 1 ≤ (10 * a + (c.toNat - 48) + 1) * 10 ^ r.length := h1
      _ ≤ ((a + 1) * 10) * 10 ^ r.length := Nat.mul_le_mul_right _ h3
      _ = (a + 1) * (10 ^ r.length * 10) := by rw [Nat.mul_assoc, Nat.mul_comm 10]
theorem dv_six (l : L) (hd : l.all isD = true) (h : l.length ≤ 6) : dv l ≤ 999999 := by
  have h1 := dvA_lt l hd 0
  have h2 : 10 ^ l.length ≤ 10 ^ 6 := Nat.pow_le_pow_right (by decide) h
  have h3 : (10 : Nat) ^ 6 = 1000000 := by decide
  show dvA 0 l ≤ _
  omega
theorem seg_len (l : L) (a b : Nat) : (seg l a b).length ≤ b - a := by
  unfold seg
  rw [List.length_take]
  omega
theorem spDig_good {l : L} {a : Nat} {x : Nat × Nat} (h : spDig l a = .good x) : x.1 = dv (seg l a (rE isD l a)) ∧ x.2 = rE isD l a ∧ a < rE isD l a ∧ x.1 ≤ 999999 := by
  unfold spDig at h
  have hg := rE_ge isD l a
  split at h
  · cases h
  · split at h
    · cases h
    · injection h with h
      subst h
      refine ⟨rfl, rfl, by omega, ?_⟩
      have := seg_len l a (rE isD l a)
      exact dv_six _ (seg_run_all isD l a) (by omega)
theorem spDig_bad {l : L} {a : Nat} (h : spDig l a = .bad) : rE isD l a = a := by
  unfold spDig at h
  split at h
  · cases h
  · split at h
    · assumption
    · cases h
theorem isDat_run {l : L} {a : Nat} (h : isDat l a = true) : a < rE isD l a ∧ a < l.length := by
  unfold isDat at h
  cases hc : l[a]? with
  | none => rw [hc] at h; cases h
  | some c =>
    rw [hc] at h
    obtain ⟨hlt, rfl⟩ := List.getElem?_eq_some_iff.1 hc
    have h1 := rE_step isD l a hlt h
    have h2 := rE_ge isD l (a + 1)
    exact ⟨by omega, hlt⟩
theorem isDat_not {l : L} {a : Nat} (h : ¬ isDat l a = true) : rE isD l a = a := by
  unfold isDat at h
  rcases Nat.lt_or_ge a l.length with hlt | hge
  · rw [List.getElem?_eq_getElem hlt] at h
    exact rE_stop isD l a hlt (by simpa using h)
  · exact rE_end isD l a hge
end Go.Proofs.YtjbmphfgckhaeaaDoor
namespace Go.Proofs.YtjbmphfgckhaeaaDoor
open Go.RowKit

theorem only_alloc {a w : World} {g : Nat} (h : a.grownBy w (some g)) (o : Obj) : a.grownBy (w.alloc o) (some g) :=
  ⟨h.os, h.tape, h.output, by simp; exact Nat.le_succ_of_le h.size, fun i hi hne => (Below.heap_alloc w o i (Nat.lt_of_lt_of_le hi h.size)).trans (h.block i hi hne)⟩
theorem only_drewN {a w : World} {g : Nat} (h : a.grownBy w (some g)) (n : Nat) : a.grownBy (w.drewN n) (some g) := ⟨h.os, h.tape, h.output, h.size, h.block⟩
theorem only_trans {a b c : World} {g : Nat} (h : a.grownBy b (some g)) (h' : b.grownBy c (some g)) : a.grownBy c (some g) :=
  ⟨h'.os.trans h.os, h'.tape.trans h.tape, h'.output.trans h.output, Nat.le_trans h.size h'.size, fun i hi hne => (h'.block i (Nat.lt_of_lt_of_le hi h.size) hne).trans (h.block i hi hne)⟩
theorem only_below {a b c : World} {g : Nat} (h : a.grownBy b (some g)) (h' : Below b.heap.size b c) : a.grownBy c (some g) :=
  only_trans h ⟨h'.os, h'.tape, h'.output, h'.size, fun i hi _ => h'.block i hi⟩
theorem only_cells {a : World} {g p : Nat} (hp : p = g ∨ a.heap.size ≤ p) : ∀ (vs : List Value) (k : Nat) {w : World}, a.grownBy w (some g) → a.grownBy (w.setCells p k vs) (some g)
  | [], _, _, h => h
  | v :: r, k, w, h => only_cells hp r (k + 1) (only_setCell (p := ⟨p, k, none⟩) h hp v)
/-- What is changed is block g and what is new: the rest below is as it was. -/
theorem only_to_below {B : Nat} {a w : World} {g : Nat} (h : a.grownBy w (some g)) (hB : B ≤ g) (hs : B ≤ a.heap.size) : Below B a w :=
  ⟨h.os, h.tape, h.output, h.size, fun i hi => h.block i (Nat.lt_of_lt_of_le hi hs) (fun e => by injection e; omega)⟩
/-- The cells of spec.reader. -/
def rCells (t : ByteArray) (a : Nat) (nx first : Int) : Array Value := #[.string t, .int .i64 a, .int .i64 nx, .int .i64 first]
def isB (l : L) (a : Nat) (c : UInt8) : Bool := decide (l[a]? = some c)
theorem isB_true {l : L} {a : Nat} {c : UInt8} (h : l[a]? = some c) : isB l a c = true := decide_eq_true h
theorem isB_false {l : L} {a : Nat} {c : UInt8} (h : l[a]? ≠ some c) : isB l a c = false := decide_eq_false h
theorem ret_bool {a b : Bool} (h : a = b) : Ending.returned (.bool a) = .returned (.bool b) := by rw [h]

set_option maxRecDepth 100000 in
set_option maxHeartbeats 1600000 in
theorem is_any (g : Nat) (t : ByteArray) (a : Nat) (nx first : Int) (c : UInt8) (k : Int) (hk : (c.toNat : Int) = k) (w : World) (hb : Blk w g 60 (rCells t a nx first)) :
    Calls Tryd.prog 28 #[.pointer (some ⟨g, 0, none⟩), .int .u8 k] w fun e w' => e = .returned (.bool (isB t.data.toList a c)) ∧ ∃ n, w' = w.drewN n := by
  have c0 : w.cell? ⟨g, 0, none⟩ = some (.string t) := hb.cell 0
  have c1 : w.cell? ⟨g, 1, none⟩ = some (.int .i64 a) := hb.cell 1
  clear hb
  by_cases hlt : a < t.size
  · have hi0 : (0 : Int) ≤ (a : Int) := by omega
    have hi1 : (a : Int) < (t.size : Int) := by omega
    have hd : decide (a < t.size) = true := decide_eq_true hlt
    by_cases hc : t[a] = c
    · have hv : isB t.data.toList a c = true := isB_true (by rw [get_data t a hlt, hc])
      have hq : ((t[a].toNat : Int) == k) = true := by rw [hc, hk]; exact beq_self_eq_true _
      have HV := hide hv
      clear hv hk hc
      go_enter Tryd.func28, Tryd.ntmps28
      go_wp2
      go_quiet (fail)
      go_wp2
      go_ret
      exact ⟨ret_bool (unhide HV).symm, _, rfl⟩
    · have hv : isB t.data.toList a c = false := isB_false (by rw [get_data t a hlt]; simpa using hc)
      have hq : ((t[a].toNat : Int) == k) = false := by
        rw [beq_eq_false_iff_ne, ← hk]
        intro e
        exact hc (UInt8.toNat_inj.1 (by simpa using Int.ofNat.inj e))
      have HV := hide hv
      clear hv hk hc
      go_enter Tryd.func28, Tryd.ntmps28
      go_wp2
      go_quiet (fail)
      go_wp2
      go_ret
      exact ⟨ret_bool (unhide HV).symm, _, rfl⟩
  · have hd : decide (a < t.size) = false := decide_eq_false hlt
    have hv : isB t.data.toList a c = false := isB_false (by rw [List.getElem?_eq_none (by rw [← size_data]; omega)]; simp)
    have HV := hide hv
    clear hv hk
    go_enter Tryd.func28, Tryd.ntmps28
    go_wp2
    go_quiet (fail)
    go_wp2
    go_ret
    exact ⟨ret_bool (unhide HV).symm, _, rfl⟩

set_option maxRecDepth 100000 in
set_option maxHeartbeats 800000 in
theorem none_any (w : World) : Calls Tryd.prog 27 #[] w fun x w' => x = .returned (.agg #[.int .i64 (-1), .int .i64 (-1), .int .i64 (-1)]) ∧ Below w.heap.size w w' := by
  go_enter Tryd.func27, Tryd.ntmps27
  go_wp2
  refine bodyPost_ret (v := .agg #[.int .i64 (-1), .int .i64 (-1), .int .i64 (-1)]) (by simp [results, Tryd.results27, go_sem]) rfl ⟨rfl, ?_⟩
  exact (Below.refl _ _).alloc (Nat.le_refl _) _

def z3Cells (z : Z3) : Array Value := #[.int .i64 z.fix, .int .i64 z.dyn, .int .i64 z.idx]
def StarP (g : Nat) (t : ByteArray) (a : Nat) (first : Int) (z : Z3) (w : World) (e : Ending) (w' : World) : Prop :=
  e = .returned (.agg #[.int .i64 z.fix, .int .i64 z.dyn, .int .i64 z.idx]) ∧ Blk w' g 60 (rCells t (a + 1) (z.dyn + 1) first) ∧ w.grownBy w' (some g)

set_option maxRecDepth 100000 in
set_option maxHeartbeats 1600000 in
theorem star_zero (g : Nat) (t : ByteArray) (a : Nat) (nx first : Int) (w : World) (hb : Blk w g 60 (rCells t a nx first)) (ha : a ≤ 100000) (hn0 : 0 ≤ nx) (hn1 : nx ≤ 1000000000000) :
    Calls Tryd.prog 30 #[.pointer (some ⟨g, 0, none⟩), .int .i64 0] w (StarP g t a first ⟨-1, nx, -1⟩ w) := by
  have c1 : w.cell? ⟨g, 1, none⟩ = some (.int .i64 a) := hb.cell 1
  have c2 : w.cell? ⟨g, 2, none⟩ = some (.int .i64 nx) := hb.cell 2
  have f1 := hb.frozen 1
  have f2 := hb.frozen 2
  have n1 := World.new_ne w _ c1
  have hlt := hb.lt
  have HB := hide hb
  clear hb
  go_enter Tryd.func30, Tryd.ntmps30
  go_wp2
  refine bodyPost_ret (v := .agg #[.int .i64 (-1), .int .i64 nx, .int .i64 (-1)]) (by simp [results, Tryd.results30, go_sem]) rfl ⟨rfl, ?_, ?_⟩
  · exact ((((unhide HB).set_ 1 _).set_ 2 _).alloc _).alloc _
  · exact only_alloc (only_alloc (only_setCell (p := ⟨g, 2, none⟩) (only_setCell (p := ⟨g, 1, none⟩) (World.grownBy.refl w _) (Or.inl rfl) _) (Or.inl rfl) _) _) _
set_option maxRecDepth 100000 in
set_option maxHeartbeats 1600000 in
theorem star_num (g : Nat) (t : ByteArray) (a : Nat) (nx first : Int) (n : Nat) (w : World) (hb : Blk w g 60 (rCells t a nx first)) (ha : a ≤ 100000) (h0 : 0 < n) (hn1 : n ≤ 1000000000000) (hf0 : 0 ≤ first) (hf1 : first ≤ 1000000000000) :
    Calls Tryd.prog 30 #[.pointer (some ⟨g, 0, none⟩), .int .i64 n] w (StarP g t a first ⟨-1, first + n - 1, n⟩ w) := by
  have c1 : w.cell? ⟨g, 1, none⟩ = some (.int .i64 a) := hb.cell 1
  have c2 : w.cell? ⟨g, 2, none⟩ = some (.int .i64 nx) := hb.cell 2
  have c3 : w.cell? ⟨g, 3, none⟩ = some (.int .i64 first) := hb.cell 3
  have f1 := hb.frozen 1
  have f2 := hb.frozen 2
  have n1 := World.new_ne w _ c1
  have hlt := hb.lt
  have HB := hide hb
  clear hb
  go_enter Tryd.func30, Tryd.ntmps30
  go_wp2
  refine bodyPost_ret (v := .agg #[.int .i64 (-1), .int .i64 (first + n - 1), .int .i64 n]) (by simp [results, Tryd.results30, go_sem]) rfl ⟨rfl, ?_, ?_⟩
  · refine Blk.congr (((((unhide HB).set_ 1 _).set_ 2 _).alloc _).alloc _) ?_
    simp [rCells]
  · exact only_alloc (only_alloc (only_setCell (p := ⟨g, 2, none⟩) (only_setCell (p := ⟨g, 1, none⟩) (World.grownBy.refl w _) (Or.inl rfl) _) (Or.inl rfl) _) _) _
theorem star_any (g : Nat) (t : ByteArray) (a : Nat) (nx first : Int) (n : Nat) (w : World) (hb : Blk w g 60 (rCells t a nx first)) (ha : a ≤ 100000) (hn0 : 0 ≤ nx) (hn1 : nx ≤ 1000000000000) (h1 : n ≤ 1000000000000) (hf0 : 0 ≤ first) (hf1 : first ≤ 1000000000000) :
    Calls Tryd.prog 30 #[.pointer (some ⟨g, 0, none⟩), .int .i64 n] w (StarP g t a first (starZ first nx n) w) := by
  unfold starZ
  by_cases h : 0 < n
  · rw [if_pos h]
    exact star_num g t a nx first n w hb ha h h1 hf0 hf1
  · rw [if_neg h]
    obtain rfl : n = 0 := by omega
    exact star_zero g t a nx first w hb ha hn0 hn1
end Go.Proofs.YtjbmphfgckhaeaaDoor
namespace Go.Proofs.YtjbmphfgckhaeaaDoor
open Go.RowKit

theorem dvA_snoc (c : UInt8) : ∀ (l : L) (a : Nat), dvA a (l ++ [c]) = 10 * dvA a l + (c.toNat - 48)
  | [], a => rfl
  | d :: r, a => dvA_snoc c r (10 * a + (d.toNat - 48))
theorem seg_snoc {l : L} {a b : Nat} (h : a ≤ b) (hb : b < l.length) : seg l a (b + 1) = seg l a b ++ [l[b]] := by
  unfold seg
  rw [show b + 1 - a = (b - a) + 1 from by omega, List.take_succ_eq_append_getElem (by simp; omega)]
  congr 2
  rw [List.getElem_drop]
  congr 1
  omega
/-- From a to b all are digits. -/
structure DigR (l : L) (a b n : Nat) : Prop where
  ab : a ≤ b
  six : b ≤ a + 6
  le : b ≤ l.length
  run : rE isD l a = rE isD l b
  num : n = dv (seg l a b)
  small : n ≤ 999999
theorem DigR.start {l : L} {a : Nat} (h : a ≤ l.length) : DigR l a a 0 := ⟨Nat.le_refl _, by omega, h, rfl, by unfold seg; rw [Nat.sub_self]; rfl, by omega⟩
theorem DigR.step {l : L} {a b n : Nat} (h : DigR l a b n) (hb : b < l.length) (hd : isD l[b] = true) (h6 : b < a + 6) : DigR l a (b + 1) (10 * n + (l[b].toNat - 48)) := by
  have hn : 10 * n + (l[b].toNat - 48) = dv (seg l a (b + 1)) := by
    rw [seg_snoc h.ab hb, h.num]
    exact (dvA_snoc l[b] (seg l a b) 0).symm
  have hr : rE isD l a = rE isD l (b + 1) := by rw [rE_step isD l b hb hd]; exact h.run
  have hab := h.ab
  refine ⟨by omega, by omega, by omega, hr, hn, ?_⟩
  rw [hn]
  have hg := rE_ge isD l (b + 1)
  have hall : (seg l a (b + 1)).all isD = true := by
    have hs := seg_run_all isD l a
    rw [List.all_eq_true] at hs ⊢
    intro c hc
    refine hs c ?_
    have : seg l a (b + 1) <+: seg l a (rE isD l a) := by
      unfold seg
      exact List.take_prefix_take_left (by omega)
    exact this.subset hc
  have := seg_len l a (b + 1)
  exact dv_six _ hall (by omega)
def DigP (g : Nat) (t : ByteArray) (a : Nat) (nx first : Int) (r : R3 (Nat × Nat)) (w : World) (e : Ending) (w' : World) : Prop :=
  match r with
  | .good x => e = .returned (.tuple #[.int .i64 x.1, .int .i64 0]) ∧ Blk w' g 60 (rCells t x.2 nx first) ∧ w.grownBy w' (some g)
  | .bad => e = .returned (.tuple #[.int .i64 0, .int .i64 1]) ∧ ∃ b, Blk w' g 60 (rCells t b nx first) ∧ w.grownBy w' (some g)
  | .opn => e = .returned (.tuple #[.int .i64 0, .int .i64 2]) ∧ ∃ b, Blk w' g 60 (rCells t b nx first) ∧ w.grownBy w' (some g)
theorem digP_opn {g : Nat} {t : ByteArray} {a : Nat} {nx first : Int} {w w' : World} {b n : Nat} (h : DigR t.data.toList a b n) (h6 : b = a + 6) (hb : b < t.data.toList.length) (hd : isD t.data.toList[b] = true) (hB : Blk w' g 60 (rCells t b nx first)) (hg : w.grownBy w' (some g)) :
    DigP g t a nx first (spDig t.data.toList a) w (.returned (.tuple #[.int .i64 0, .int .i64 2])) w' := by
  have h1 := rE_step isD t.data.toList b hb hd
  have h2 := rE_ge isD t.data.toList (b + 1)
  have h3 := h.run
  have : spDig t.data.toList a = .opn := by
    unfold spDig
    rw [if_pos (by omega)]
  rw [this]
  exact ⟨rfl, b, hB, hg⟩
theorem digP_end {g : Nat} {t : ByteArray} {a : Nat} {nx first : Int} {w w' : World} {b n : Nat} (h : DigR t.data.toList a b n) (he : rE isD t.data.toList b = b) (hB : Blk w' g 60 (rCells t b nx first)) (hg : w.grownBy w' (some g)) :
    (b = a → DigP g t a nx first (spDig t.data.toList a) w (.returned (.tuple #[.int .i64 0, .int .i64 1])) w') ∧ (b ≠ a → DigP g t a nx first (spDig t.data.toList a) w (.returned (.tuple #[.int .i64 n, .int .i64 0])) w') := by
  have h3 := h.run
  have h6 := h.six
  have hab := h.ab
  constructor
  · intro e
    have : spDig t.data.toList a = .bad := by
      unfold spDig
      rw [if_neg (by omega), if_pos (by omega)]
    rw [this]
    exact ⟨rfl, b, hB, hg⟩
  · intro e
    have : spDig t.data.toList a = .good (n, b) := by
      unfold spDig
      rw [if_neg (by omega), if_neg (by omega), h.num, show rE isD t.data.toList a = b from by omega]
    rw [this]
    exact ⟨rfl, hB, hg⟩

set_option maxRecDepth 100000 in
set_option maxHeartbeats 6400000 in
theorem dig_any (g : Nat) (t : ByteArray) (a : Nat) (nx first : Int) (w : World) (hb : Blk w g 60 (rCells t a nx first)) (hs : t.size ≤ 4096) (ha : a ≤ t.size) :
    Calls Tryd.prog 31 #[.pointer (some ⟨g, 0, none⟩)] w (DigP g t a nx first (spDig t.data.toList a) w) := by
  have c1 : w.cell? ⟨g, 1, none⟩ = some (.int .i64 a) := hb.cell 1
  have hl := size_data t
  have HL := hide hl
  have HB0 := hide hb
  have HD0 : Hid (DigR t.data.toList a a 0) := DigR.start (by rw [← hl]; exact ha)
  clear hb hl
  go_enter Tryd.func31, Tryd.ntmps31
  go_wp2
  go_loopg [2] (t.size + 1) (fun f s2 wr => ∃ b n : Nat, b ≤ t.size ∧ t.size - b < f ∧ s2 = .int .i64 n ∧ Hid (DigR t.data.toList a b n ∧ Blk wr g 60 (rCells t b nx first) ∧ w.grownBy wr (some g)))
  case atStart => exact ⟨a, 0, ha, by omega, rfl, HD0, HB0, World.grownBy.refl w _⟩
  case round =>
    obtain ⟨b, n, hbt, hG, rfl, hR⟩ := hrel
    obtain ⟨hD, hB, hgr⟩ := unhide hR
    clear c1 HD0 HB0
    have c0 : wr.cell? ⟨g, 0, none⟩ = some (.string t) := hB.cell 0
    have c1 : wr.cell? ⟨g, 1, none⟩ = some (.int .i64 b) := hB.cell 1
    have f1 := hB.frozen 1
    have hn := hD.small
    have hab := hD.ab
    have h6 := hD.six
    have HX := hide (And.intro hD (And.intro hB hgr))
    clear hD hB hgr hR
    by_cases hlt : b < t.size
    · have hi0 : (0 : Int) ≤ (b : Int) := by omega
      have hi1 : (b : Int) < (t.size : Int) := by omega
      have hd : decide (b < t.size) = true := decide_eq_true hlt
      have hll : b < t.data.toList.length := by rw [← size_data]; exact hlt
      have hge : t.data.toList[b] = t[b] := Option.some.inj ((List.getElem?_eq_getElem hll).symm.trans (get_data t b hlt))
      have HGE := hide hge
      clear hge
      have hu := t[b].toNat_lt
      by_cases h48 : 48 ≤ t[b].toNat
      · have d48 : decide ((t[b].toNat : Int) ≥ 48) = true := decide_eq_true (by omega)
        have e48 : decide (48 ≤ (t[b].toNat : Int)) = true := decide_eq_true (by omega)
        have g48 : decide (48 ≤ t[b].toNat) = true := decide_eq_true (by omega)
        by_cases h57 : t[b].toNat ≤ 57
        · have d57 : decide ((t[b].toNat : Int) ≤ 57) = true := decide_eq_true (by omega)
          have g57 : decide (t[b].toNat ≤ 57) = true := decide_eq_true (by omega)
          have hdig : Hid (isD t.data.toList[b] = true) := by
            show isD _ = true
            rw [unhide HGE]
            simp [isD, h48, h57]
          by_cases h5 : b = a + 6
          · have q6 : ((b : Int) - (a : Int) == 6) = true := by rw [beq_iff_eq]; omega
            have H5 := hide h5
            clear h5
            go_wp2
            try simp only [List.append]
            go_quiet (fail)
            go_wp2
            go_ret2
            obtain ⟨hD, hB, hgr⟩ := unhide HX
            exact digP_opn hD (unhide H5) hll (unhide hdig) (hB.drewN _) (only_drewN hgr _)
          · have q6 : ((b : Int) - (a : Int) == 6) = false := by rw [beq_eq_false_iff_ne]; omega
            have H5 := hide h5
            clear h5
            have z0 : (0 : Int) ≤ (t[b].toNat : Int) - 48 := by omega
            have z1 : (t[b].toNat : Int) - 48 ≤ 9 := by omega
            go_wp2
            try simp only [List.append]
            go_quiet (fail)
            go_wp2
            go_quiet (fail)
            go_wp2
            go_roundg (gk - 1)
            case measure => omega
            case rel =>
              obtain ⟨hD, hB, hgr⟩ := unhide HX
              have h5 := unhide H5
              have hst := hD.step hll (unhide hdig) (by omega)
              rw [unhide HGE] at hst
              refine ⟨b + 1, 10 * n + (t[b].toNat - 48), by omega, by omega, congrArg (Value.int .i64) (by omega), hst, ?_, ?_⟩
              · apply Blk.congr
                · repeat (first | with_reducible exact hB | with_reducible apply Blk.drewN | with_reducible apply Blk.set_)
                · simp [rCells]
              · repeat (first | with_reducible exact hgr | with_reducible apply only_drewN | with_reducible refine only_setCell (p := ⟨g, 1, none⟩) ?_ (Or.inl rfl) _)
        · have d57 : decide ((t[b].toNat : Int) ≤ 57) = false := decide_eq_false (by omega)
          have g57 : decide (t[b].toNat ≤ 57) = false := decide_eq_false (by omega)
          have hst : Hid (rE isD t.data.toList b = b) := by
            refine rE_stop isD _ b hll ?_
            rw [unhide HGE]
            simp [isD, h57]
          by_cases hba : b = a
          · have qb : ((b : Int) == (a : Int)) = true := by rw [beq_iff_eq]; omega
            have HBA := hide hba
            clear hba
            go_wp2
            try simp only [List.append]
            go_quiet (fail)
            go_wp2
            go_ret2
            obtain ⟨hD, hB, hgr⟩ := unhide HX
            exact (digP_end hD (unhide hst) (hB.drewN _) (only_drewN hgr _)).1 (unhide HBA)
          · have qb : ((b : Int) == (a : Int)) = false := by rw [beq_eq_false_iff_ne]; omega
            have HBA := hide hba
            clear hba
            go_wp2
            try simp only [List.append]
            go_quiet (fail)
            go_wp2
            go_ret2
            obtain ⟨hD, hB, hgr⟩ := unhide HX
            exact (digP_end hD (unhide hst) (hB.drewN _) (only_drewN hgr _)).2 (unhide HBA)
      · have d48 : decide ((t[b].toNat : Int) ≥ 48) = false := decide_eq_false (by omega)
        have e48 : decide (48 ≤ (t[b].toNat : Int)) = false := decide_eq_false (by omega)
        have g48 : decide (48 ≤ t[b].toNat) = false := decide_eq_false (by omega)
        have hst : Hid (rE isD t.data.toList b = b) := by
          refine rE_stop isD _ b hll ?_
          rw [unhide HGE]
          simp [isD, h48]
        by_cases hba : b = a
        · have qb : ((b : Int) == (a : Int)) = true := by rw [beq_iff_eq]; omega
          have HBA := hide hba
          clear hba
          go_wp2
          try simp only [List.append]
          go_quiet (fail)
          go_wp2
          go_ret2
          obtain ⟨hD, hB, hgr⟩ := unhide HX
          exact (digP_end hD (unhide hst) (hB.drewN _) (only_drewN hgr _)).1 (unhide HBA)
        · have qb : ((b : Int) == (a : Int)) = false := by rw [beq_eq_false_iff_ne]; omega
          have HBA := hide hba
          clear hba
          go_wp2
          try simp only [List.append]
          go_quiet (fail)
          go_wp2
          go_ret2
          obtain ⟨hD, hB, hgr⟩ := unhide HX
          exact (digP_end hD (unhide hst) (hB.drewN _) (only_drewN hgr _)).2 (unhide HBA)
    · have hd : decide (b < t.size) = false := decide_eq_false hlt
      have hst : Hid (rE isD t.data.toList b = b) := rE_end isD _ b (by have := unhide HL; omega)
      by_cases hba : b = a
      · have qb : ((b : Int) == (a : Int)) = true := by rw [beq_iff_eq]; omega
        have HBA := hide hba
        clear hba
        go_wp2
        try simp only [List.append]
        go_quiet (fail)
        go_wp2
        go_ret2
        obtain ⟨hD, hB, hgr⟩ := unhide HX
        exact (digP_end hD (unhide hst) (hB.drewN _) (only_drewN hgr _)).1 (unhide HBA)
      · have qb : ((b : Int) == (a : Int)) = false := by rw [beq_eq_false_iff_ne]; omega
        have HBA := hide hba
        clear hba
        go_wp2
        try simp only [List.append]
        go_quiet (fail)
        go_wp2
        go_ret2
        obtain ⟨hD, hB, hgr⟩ := unhide HX
        exact (digP_end hD (unhide hst) (hB.drewN _) (only_drewN hgr _)).2 (unhide HBA)
end Go.Proofs.YtjbmphfgckhaeaaDoor
namespace Go.Proofs.YtjbmphfgckhaeaaDoor
open Go.RowKit

theorem rE_le' (p : UInt8 → Bool) (t : ByteArray) (n : Nat) (h : n ≤ t.size) : rE p t.data.toList n ≤ t.size := by
  rw [size_data] at h ⊢
  exact rE_le p _ n h
set_option maxRecDepth 100000 in
set_option maxHeartbeats 6400000 in
theorem br_any (g : Nat) (t : ByteArray) (a : Nat) (nx first : Int) (w : World) (hb : Blk w g 60 (rCells t a nx first)) (hs : t.size ≤ 4096) (ha : a ≤ t.size) :
    Calls Tryd.prog 29 #[.pointer (some ⟨g, 0, none⟩)] w (DigP g t a nx first (spBr t.data.toList a) w) := by
  have HB := hide hb
  clear hb
  by_cases h91 : t.data.toList[a]? = some 91
  · have hi91 := isB_true h91
    have hlt : a < t.size := by rw [size_data]; exact (List.getElem?_eq_some_iff.1 h91).1
    have hbr : spBr t.data.toList a = (spDig t.data.toList (a + 1)).bind fun x => if x.1 < 1 ∨ t.data.toList[x.2]? ≠ some 93 then .bad else .good (x.1, x.2 + 1) := by
      unfold spBr
      rw [if_pos h91]
    rw [hbr]
    have HI := hide hi91
    clear h91 hbr hi91
    cases hd : spDig t.data.toList (a + 1) with
    | bad =>
      rw [R3.bind_bad]
      have HD := hide hd
      clear hd
      go_enter Tryd.func29, Tryd.ntmps29
      go_wp2_with fail
      refine (is_any g t a nx first 91 91 rfl w (unhide HB)).mono ?_
      rintro e w1 ⟨rfl, n1, rfl⟩
      rw [unhide HI]
      have hB1 := (unhide HB).drewN n1
      have c1 : (w.drewN n1).cell? ⟨g, 1, none⟩ = some (.int .i64 a) := hB1.cell 1
      have f1 := hB1.frozen 1
      have HB1 := hide hB1
      clear hB1
      go_wp2_with fail
      refine (dig_any g t (a + 1) nx first _ (Blk.congr (Blk.set_ (unhide HB1) 1 _) (by simp [rCells])) hs (by omega)).mono ?_
      rw [unhide HD]
      rintro e w2 ⟨rfl, b, hB2, hg2⟩
      have hgw : w.grownBy w2 (some g) := only_trans (only_setCell (p := ⟨g, 1, none⟩) (only_drewN (World.grownBy.refl w _) n1) (Or.inl rfl) _) hg2
      have HX := hide (And.intro hB2 hgw)
      clear hB2 hgw hg2
      go_wp2
      go_ret2
      exact ⟨rfl, b, (unhide HX).1, (unhide HX).2⟩
    | opn =>
      rw [R3.bind_opn]
      have HD := hide hd
      clear hd
      go_enter Tryd.func29, Tryd.ntmps29
      go_wp2_with fail
      refine (is_any g t a nx first 91 91 rfl w (unhide HB)).mono ?_
      rintro e w1 ⟨rfl, n1, rfl⟩
      rw [unhide HI]
      have hB1 := (unhide HB).drewN n1
      have c1 : (w.drewN n1).cell? ⟨g, 1, none⟩ = some (.int .i64 a) := hB1.cell 1
      have f1 := hB1.frozen 1
      have HB1 := hide hB1
      clear hB1
      go_wp2_with fail
      refine (dig_any g t (a + 1) nx first _ (Blk.congr (Blk.set_ (unhide HB1) 1 _) (by simp [rCells])) hs (by omega)).mono ?_
      rw [unhide HD]
      rintro e w2 ⟨rfl, b, hB2, hg2⟩
      have hgw : w.grownBy w2 (some g) := only_trans (only_setCell (p := ⟨g, 1, none⟩) (only_drewN (World.grownBy.refl w _) n1) (Or.inl rfl) _) hg2
      have HX := hide (And.intro hB2 hgw)
      clear hB2 hgw hg2
      go_wp2
      go_ret2
      exact ⟨rfl, b, (unhide HX).1, (unhide HX).2⟩
    | good x =>
      obtain ⟨n, b⟩ := x
      obtain ⟨-, e2, e3, e4⟩ := spDig_good hd
      replace e2 : b = rE isD t.data.toList (a + 1) := e2
      replace e4 : n ≤ 999999 := e4
      have hble : b ≤ t.size := by rw [e2]; exact rE_le' isD t (a + 1) (by omega)
      have HD := hide hd
      clear hd e2 e3
      rw [R3.bind_good]
      by_cases hn : n < 1
      · rw [if_pos (Or.inl hn)]
        have d1 : decide ((n : Int) < 1) = true := decide_eq_true (by omega)
        go_enter Tryd.func29, Tryd.ntmps29
        go_wp2_with fail
        refine (is_any g t a nx first 91 91 rfl w (unhide HB)).mono ?_
        rintro e w1 ⟨rfl, n1, rfl⟩
        rw [unhide HI]
        have hB1 := (unhide HB).drewN n1
        have c1 : (w.drewN n1).cell? ⟨g, 1, none⟩ = some (.int .i64 a) := hB1.cell 1
        have f1 := hB1.frozen 1
        have HB1 := hide hB1
        clear hB1
        go_wp2_with fail
        refine (dig_any g t (a + 1) nx first _ (Blk.congr (Blk.set_ (unhide HB1) 1 _) (by simp [rCells])) hs (by omega)).mono ?_
        rw [unhide HD]
        rintro e w2 ⟨rfl, hB2, hg2⟩
        have hgw : w.grownBy w2 (some g) := only_trans (only_setCell (p := ⟨g, 1, none⟩) (only_drewN (World.grownBy.refl w _) n1) (Or.inl rfl) _) hg2
        have HX := hide (And.intro hB2 hgw)
        clear hB2 hgw hg2
        go_wp2
        go_ret2
        exact ⟨rfl, b, (unhide HX).1, (unhide HX).2⟩
      · have d1 : decide ((n : Int) < 1) = false := decide_eq_false (by omega)
        by_cases h93 : t.data.toList[b]? = some 93
        · rw [if_neg (by rintro (h | h); exact hn h; exact h h93)]
          have HJ := hide (isB_true h93)
          clear h93
          go_enter Tryd.func29, Tryd.ntmps29
          go_wp2_with fail
          refine (is_any g t a nx first 91 91 rfl w (unhide HB)).mono ?_
          rintro e w1 ⟨rfl, n1, rfl⟩
          rw [unhide HI]
          have hB1 := (unhide HB).drewN n1
          have c1 : (w.drewN n1).cell? ⟨g, 1, none⟩ = some (.int .i64 a) := hB1.cell 1
          have f1 := hB1.frozen 1
          have HB1 := hide hB1
          clear hB1
          go_wp2_with fail
          refine (dig_any g t (a + 1) nx first _ (Blk.congr (Blk.set_ (unhide HB1) 1 _) (by simp [rCells])) hs (by omega)).mono ?_
          rw [unhide HD]
          rintro e w2 ⟨rfl, hB2, hg2⟩
          have hgw : w.grownBy w2 (some g) := only_trans (only_setCell (p := ⟨g, 1, none⟩) (only_drewN (World.grownBy.refl w _) n1) (Or.inl rfl) _) hg2
          clear c1 f1 hg2
          have HX := hide (And.intro hB2 hgw)
          clear hB2 hgw
          go_wp2_with fail
          refine (is_any g t b nx first 93 93 rfl w2 (unhide HX).1).mono ?_
          rintro e w3 ⟨rfl, n2, rfl⟩
          rw [unhide HJ]
          have hB3 := (unhide HX).1.drewN n2
          have c1 : (w2.drewN n2).cell? ⟨g, 1, none⟩ = some (.int .i64 b) := hB3.cell 1
          have f1 := hB3.frozen 1
          have HB3 := hide hB3
          clear hB3
          go_wp2
          go_ret2
          refine ⟨rfl, ?_, ?_⟩
          · exact Blk.congr (Blk.set_ (unhide HB3) 1 _) (by simp [rCells])
          · exact only_setCell (p := ⟨g, 1, none⟩) (only_drewN (unhide HX).2 n2) (Or.inl rfl) _
        · rw [if_pos (Or.inr h93)]
          have HJ := hide (isB_false h93)
          clear h93
          go_enter Tryd.func29, Tryd.ntmps29
          go_wp2_with fail
          refine (is_any g t a nx first 91 91 rfl w (unhide HB)).mono ?_
          rintro e w1 ⟨rfl, n1, rfl⟩
          rw [unhide HI]
          have hB1 := (unhide HB).drewN n1
          have c1 : (w.drewN n1).cell? ⟨g, 1, none⟩ = some (.int .i64 a) := hB1.cell 1
          have f1 := hB1.frozen 1
          have HB1 := hide hB1
          clear hB1
          go_wp2_with fail
          refine (dig_any g t (a + 1) nx first _ (Blk.congr (Blk.set_ (unhide HB1) 1 _) (by simp [rCells])) hs (by omega)).mono ?_
          rw [unhide HD]
          rintro e w2 ⟨rfl, hB2, hg2⟩
          have hgw : w.grownBy w2 (some g) := only_trans (only_setCell (p := ⟨g, 1, none⟩) (only_drewN (World.grownBy.refl w _) n1) (Or.inl rfl) _) hg2
          clear c1 f1 hg2
          have HX := hide (And.intro hB2 hgw)
          clear hB2 hgw
          go_wp2_with fail
          refine (is_any g t b nx first 93 93 rfl w2 (unhide HX).1).mono ?_
          rintro e w3 ⟨rfl, n2, rfl⟩
          rw [unhide HJ]
          go_wp2
          go_ret2
          exact ⟨rfl, b, (unhide HX).1.drewN _, only_drewN (unhide HX).2 _⟩
  · have hi91 := isB_false h91
    have hbr : spBr t.data.toList a = .good (0, a) := by
      unfold spBr
      rw [if_neg h91]
    rw [hbr]
    have HI := hide hi91
    clear h91 hbr hi91
    go_enter Tryd.func29, Tryd.ntmps29
    go_wp2_with fail
    refine (is_any g t a nx first 91 91 rfl w (unhide HB)).mono ?_
    rintro e w1 ⟨rfl, n1, rfl⟩
    rw [unhide HI]
    go_wp2
    go_ret2
    exact ⟨rfl, (unhide HB).drewN _, only_drewN (World.grownBy.refl w _) _⟩
end Go.Proofs.YtjbmphfgckhaeaaDoor
namespace Go.Proofs.YtjbmphfgckhaeaaDoor
open Go.RowKit

/-- The cells of spec.Op. -/
def oC (text fl : ByteArray) (st en vb vs ix arg : Int) (wd pr : Z3) : Array Value :=
  #[.string text, .int .i64 st, .int .i64 en, .string fl, .int .i32 vb, .int .i64 vs, .int .i64 ix, .int .i64 arg, .int .i64 wd.fix, .int .i64 wd.dyn, .int .i64 wd.idx, .int .i64 pr.fix, .int .i64 pr.dyn, .int .i64 pr.idx]
def soC (x : SO) : Array Value := oC x.text x.fl x.st x.en x.vb x.vs x.ix x.arg x.wd x.pr
/-- The world while op runs: the reader (block g), the operation (block o). -/
structure OI (w0 : World) (g o : Nat) (t : ByteArray) (first : Int) (a : Nat) (nx : Int) (cs : Array Value) (w : World) : Prop where
  rd : Blk w g 60 (rCells t a nx first)
  op : Blk w o 26 cs
  gr : w0.grownBy w (some g)
  ob : w0.heap.size ≤ o
section
variable {w0 w : World} {g o : Nat} {t : ByteArray} {first : Int} {a : Nat} {nx : Int} {cs : Array Value}
theorem OI.drewN (h : OI w0 g o t first a nx cs w) (n : Nat) : OI w0 g o t first a nx cs (w.drewN n) := ⟨h.rd.drewN n, h.op.drewN n, only_drewN h.gr n, h.ob⟩
theorem OI.drew (h : OI w0 g o t first a nx cs w) : OI w0 g o t first a nx cs w.drew := h.drewN 1
theorem OI.ne (h : OI w0 g o t first a nx cs w) : g ≠ o := h.rd.ne_ h.op (by decide)
/-- A step of the reader's own. -/
theorem OI.step {w' : World} {a' : Nat} {nx' : Int} (h : OI w0 g o t first a nx cs w) (hb : Blk w' g 60 (rCells t a' nx' first)) (hg : w.grownBy w' (some g)) : OI w0 g o t first a' nx' cs w' :=
  ⟨hb, h.op.grown hg (fun e => h.ne (by injection e with e; exact e.symm)), only_trans h.gr hg, h.ob⟩
theorem OI.setAt (h : OI w0 g o t first a nx cs w) (v : Int) (a' : Nat) (hv : v = a') : OI w0 g o t first a' nx cs (w.setCell ⟨g, 1, none⟩ (.int .i64 v)) := by
  subst hv
  exact h.step (h.rd.set_ 1 _) (only_setCell (p := ⟨g, 1, none⟩) (World.grownBy.refl w _) (Or.inl rfl) _)
theorem OI.setNx (h : OI w0 g o t first a nx cs w) (v : Int) : OI w0 g o t first a v cs (w.setCell ⟨g, 2, none⟩ (.int .i64 v)) :=
  h.step (h.rd.set_ 2 _) (only_setCell (p := ⟨g, 2, none⟩) (World.grownBy.refl w _) (Or.inl rfl) _)
theorem OI.setOp (h : OI w0 g o t first a nx cs w) (k : Nat) (v : Value) : OI w0 g o t first a nx (cs.setIfInBounds k v) (w.setCell ⟨o, k, none⟩ v) :=
  ⟨h.rd.far (p := ⟨o, k, none⟩) h.ne v, h.op.set_ k v, only_setCell (p := ⟨o, k, none⟩) h.gr (Or.inr h.ob) v, h.ob⟩
theorem OI.allOp (h : OI w0 g o t first a nx cs w) (ds : Array Value) (hs : ds.size = cs.size) : OI w0 g o t first a nx ds (w.setCells o 0 ds.toList) :=
  ⟨h.rd.cells_far h.ne 0 _, h.op.cells_all ds hs, only_cells (Or.inr h.ob) _ 0 h.gr, h.ob⟩
theorem OI.below {w' : World} (h : OI w0 g o t first a nx cs w) (hb : Below w.heap.size w w') : OI w0 g o t first a nx cs w' :=
  ⟨h.rd.below hb h.rd.lt, h.op.below hb h.op.lt, only_below h.gr hb, h.ob⟩
theorem OI.congr (h : OI w0 g o t first a nx cs w) {cs' : Array Value} (e : cs = cs') : OI w0 g o t first a nx cs' w := e ▸ h
end
def ZC : Array Value := oC ⟨#[]⟩ ⟨#[]⟩ 0 0 0 0 0 0 ⟨0, 0, 0⟩ ⟨0, 0, 0⟩
def SpP (g : Nat) (t : ByteArray) (first : Int) (r : R3 (SO × Nat × Int)) (w : World) (e : Ending) (w' : World) : Prop :=
  match r with
  | .good (x, b, nx) => e = .returned (.tuple #[.agg (soC x), .int .i64 0]) ∧ Blk w' g 60 (rCells t b nx first) ∧ w.grownBy w' (some g)
  | .bad => ∃ (x : SO) (b : Nat) (nx : Int), e = .returned (.tuple #[.agg (soC x), .int .i64 1]) ∧ Blk w' g 60 (rCells t b nx first) ∧ w.grownBy w' (some g)
  | .opn => ∃ (x : SO) (b : Nat) (nx : Int), e = .returned (.tuple #[.agg (soC x), .int .i64 2]) ∧ Blk w' g 60 (rCells t b nx first) ∧ w.grownBy w' (some g)

theorem results_blk2 {fn : Func} {p q : Tmp} {ty : TypeId} (h : fn.results = #[.cell p ty, .tmp q]) (tmps : Array Value) (P : Program) (w : World) (g : Nat) (cs : Array Value) (d : TypeDesc) (v : Value)
    (hp : tmps.getD p undef = .pointer (some ⟨g, 0, none⟩)) (hq : tmps.getD q undef = v) (hb : Blk w g ty cs) (hu : P.underlying ty = some d) (hd : d.isRow = true) (hi : (P.info? ty).map (·.size) = some cs.size) :
    (results fn tmps).run P w = .ok (.tuple #[.agg cs, v]) w := by
  have hl := run_loadVar_mid (P := P) w g 0 ty cs.toList d hb.range hu hd (by simpa using hi)
  simp only [results, h]
  have hp' : tmps[p]?.getD undef = .pointer (some ⟨g, 0, none⟩) := by simpa using hp
  have hq' : tmps[q]?.getD undef = v := by simpa using hq
  simp only [Array.toArray_toList] at hl
  simp [Sem.run_bind, Result.andThen, hp', hq', asAddr, hl]
theorem info26 : (Tryd.prog.info? 26).map (·.size) = some 14 := by kernel_rfl
/-- What a return of the operation asks. -/
structure RetP (w0 : World) (g o : Nat) (t : ByteArray) (first : Int) (a : Nat) (nx : Int) (cs : Array Value) (W : World) (Ls : List Value) : Prop where
  rg : W.rangeAt o 0 Ls
  i1 : (Tryd.prog.info? 26).map (·.size) = some Ls.length
  i2 : (Tryd.prog.info? 26).map (·.size) = some Ls.toArray.size
  i3 : (Tryd.prog.info? 26).map (·.size) = some cs.size
  th : W.there o 0 Ls.toArray.size
  oc : Ls.toArray.all (·.oneCell') = true
  af : OI w0 g o t first a nx cs (W.setCells o 0 Ls.toArray.toList)
theorem ret_pack {w0 W : World} {g o : Nat} {t : ByteArray} {first : Int} {a : Nat} {nx : Int} {x : SO} (h : OI w0 g o t first a nx (soC x) W) : ∃ Ls : List Value, RetP w0 g o t first a nx (soC x) W Ls :=
  ⟨(soC x).toList, h.op.range, info26, info26, info26, there_blk h.op rfl, by simp [soC, oC, Value.oneCell'], h.allOp _ rfl⟩
def isFB (l : L) (a : Nat) : Bool :=
  match l[a]? with
  | some c => isF c
  | none => false
theorem append_list' (s t : ByteArray) : (s ++ t).data.toList = s.data.toList ++ t.data.toList := by simp
/-- The flags from st + 1 up to a. -/
structure FlR (l : L) (st a : Nat) (fl : ByteArray) : Prop where
  lo : st + 1 ≤ a
  hi : a ≤ l.length
  run : rE isF l (st + 1) = rE isF l a
  fl : fl = mk (seg l (st + 1) a)
theorem FlR.start {l : L} {st : Nat} (h : st < l.length) : FlR l st (st + 1) ⟨#[]⟩ := ⟨Nat.le_refl _, h, rfl, by unfold seg; rw [Nat.sub_self]; rfl⟩
theorem FlR.step {l : L} {st a : Nat} {fl u : ByteArray} (h : FlR l st a fl) (hb : a < l.length) (hf : isF l[a] = true) (hu : u.data.toList = [l[a]]) : FlR l st (a + 1) (fl ++ u) := by
  have hlo := h.lo
  refine ⟨by omega, by omega, ?_, ?_⟩
  · rw [rE_step isF l a hb hf]
    exact h.run
  · refine eq_mk ?_
    rw [append_list', seg_snoc h.lo hb, h.fl, mk_data, hu]
theorem FlR.stop {l : L} {st a : Nat} {fl : ByteArray} (h : FlR l st a fl) (he : rE isF l a = a) : a = rE isF l (st + 1) ∧ fl = flV l st := by
  have h1 := h.run
  refine ⟨by omega, ?_⟩
  rw [h.fl]
  unfold flV
  rw [← seg_run]
  congr 2
  omega
theorem isFB_false {l : L} {a : Nat} (h : isFB l a = false) : rE isF l a = a := by
  unfold isFB at h
  rcases Nat.lt_or_ge a l.length with hlt | hge
  · rw [List.getElem?_eq_getElem hlt] at h
    exact rE_stop isF l a hlt h
  · exact rE_end isF l a hge
theorem isFB_true {l : L} {a : Nat} (h : isFB l a = true) : ∃ hlt : a < l.length, isF l[a] = true := by
  unfold isFB at h
  rcases Nat.lt_or_ge a l.length with hlt | hge
  · rw [List.getElem?_eq_getElem hlt] at h
    exact ⟨hlt, h⟩
  · rw [List.getElem?_eq_none hge] at h
    cases h
theorem isFB_or (l : L) (a : Nat) : isFB l a = (isB l a 35 || (isB l a 48 || (isB l a 43 || (isB l a 45 || isB l a 32)))) := by
  unfold isFB isB
  cases l[a]? with
  | none => rfl
  | some c =>
    simp only [isF, Option.some.injEq]
    simp
theorem isDat_lt {l : L} {a : Nat} (h : l.length ≤ a) : isDat l a = false := by
  unfold isDat
  rw [List.getElem?_eq_none h]
theorem isDat_eq (t : ByteArray) (a : Nat) (h : a < t.size) : isDat t.data.toList a = isD t[a] := by
  unfold isDat
  rw [get_data t a h]
structure QB (t : ByteArray) (q : SS) (B : Int) : Prop where
  n : q.n ≤ 999999
  a : q.a ≤ t.size
  x0 : 0 ≤ q.nx
  x1 : q.nx ≤ B
theorem star_bd {t : ByteArray} {q : SS} {B first : Int} (h : QB t q B) (hB : 3000000 ≤ B) (hf0 : 0 ≤ first) (hf1 : first ≤ 1000000) : 0 ≤ (starZ first q.nx q.n).dyn + 1 ∧ (starZ first q.nx q.n).dyn + 1 ≤ B + 1 := by
  obtain ⟨h1, h2, h3, h4⟩ := h
  unfold starZ
  split
  · show 0 ≤ first + (q.n : Int) - 1 + 1 ∧ first + (q.n : Int) - 1 + 1 ≤ B + 1
    omega
  · show 0 ≤ q.nx + 1 ∧ q.nx + 1 ≤ B + 1
    omega
theorem lt_of_at {t : ByteArray} {a : Nat} {c : UInt8} (h : t.data.toList[a]? = some c) : a < t.size := by
  rw [size_data]
  exact (List.getElem?_eq_some_iff.1 h).1
theorem spBr_bd {t : ByteArray} {a : Nat} {x : Nat × Nat} (ha : a ≤ t.size) (h : spBr t.data.toList a = .good x) : x.1 ≤ 999999 ∧ x.2 ≤ t.size := by
  unfold spBr at h
  split at h
  · rename_i h91
    have hlt := lt_of_at h91
    cases hd : spDig t.data.toList (a + 1) with
    | bad => rw [hd] at h; cases h
    | opn => rw [hd] at h; cases h
    | good y =>
      rw [hd, R3.bind_good] at h
      obtain ⟨e1, e2, e3, e4⟩ := spDig_good hd
      split at h
      · cases h
      · rename_i hc
        injection h with h
        subst h
        refine ⟨e4, ?_⟩
        rcases Nat.lt_or_ge y.2 t.size with hl | hl
        · exact hl
        · exact absurd (Or.inr (by rw [List.getElem?_eq_none (by rw [← size_data]; exact hl)]; simp)) hc
  · injection h with h
    subst h
    exact ⟨by omega, ha⟩
theorem spDig_bd {t : ByteArray} {a : Nat} {x : Nat × Nat} (ha : a ≤ t.size) (h : spDig t.data.toList a = .good x) : x.1 ≤ 999999 ∧ x.2 ≤ t.size := by
  obtain ⟨e1, e2, e3, e4⟩ := spDig_good h
  exact ⟨e4, by rw [e2]; exact rE_le' isD t a ha⟩
end Go.Proofs.YtjbmphfgckhaeaaDoor
