/-
  A text without the sign %, put ahead of a format, moves its operations: a law about parseM alone. No condition.
-/
import Derived.Test.YtjbmphfgckhaeaaDoorWq
namespace Go.Proofs.YtjbmphfgckhaeaaDoor

/-- y is x, d places later. -/
structure Mv (d : Int) (x y : IOp) : Prop where
  text : y.text = x.text
  st : x.st + d = y.st
  arg : y.arg = x.arg
  vb : y.vb = x.vb
  fl : y.fl = x.fl
  ix : y.ix = x.ix
def All2 (R : IOp → IOp → Prop) (xs ys : List IOp) : Prop := xs.length = ys.length ∧ ∀ (k : Nat) (x y : IOp), xs[k]? = some x → ys[k]? = some y → R x y
theorem All2.nil (R : IOp → IOp → Prop) : All2 R [] [] := ⟨rfl, fun k x y h => by cases h⟩
theorem All2.cons {R : IOp → IOp → Prop} {x y : IOp} {xs ys : List IOp} (h : R x y) (hs : All2 R xs ys) : All2 R (x :: xs) (y :: ys) := by
  refine ⟨by simp [hs.1], fun k a b ha hb => ?_⟩
  cases k with
  | zero =>
    simp only [List.getElem?_cons_zero, Option.some.injEq] at ha hb
    subst ha hb
    exact h
  | succ k =>
    simp only [List.getElem?_cons_succ] at ha hb
    exact hs.2 k a b ha hb
/-- Either both are none, or both are some and R holds pairwise. -/
def Same (R : IOp → IOp → Prop) : Option (List IOp) → Option (List IOp) → Prop
  | none, none => True
  | some xs, some ys => All2 R xs ys
  | _, _ => False
theorem Same.cons {R : IOp → IOp → Prop} {x y : IOp} {a b : Option (List IOp)} (h : R x y) (hs : Same R a b) : Same R (a.map (x :: ·)) (b.map (y :: ·)) := by
  cases a <;> cases b <;> first | exact hs | exact All2.cons h hs
theorem Same.none_iff {R : IOp → IOp → Prop} {a b : Option (List IOp)} (hs : Same R a b) (h : a = none) : b = none := by
  subst h
  cases b with
  | none => rfl
  | some _ => exact hs.elim
theorem Same.some_iff {R : IOp → IOp → Prop} {a b : Option (List IOp)} (hs : Same R a b) {xs : List IOp} (h : a = some xs) : ∃ ys, b = some ys ∧ All2 R xs ys := by
  subst h
  cases b with
  | none => exact hs.elim
  | some ys => exact ⟨ys, rfl, hs⟩

theorem parse_shift (first : Int) (d : Nat) : ∀ (f i : Nat) (l : L) (an : Int), Same (Mv d) (parseFrom first f i l an) (parseFrom first f (i + d) l an)
  | 0, _, _, _ => All2.nil _
  | f + 1, _, [], _ => All2.nil _
  | f + 1, i, c :: r, an => by
    simp only [parseFrom]
    split
    · cases opM (c :: r) first an with
      | none => exact True.intro
      | some x =>
        simp only [Option.bind_some]
        have h := parse_shift first d f (i + x.n) ((c :: r).drop x.n) (nextA x an)
        rw [show i + x.n + d = i + d + x.n from by omega] at h
        exact Same.cons ⟨rfl, by simp [iop], rfl, rfl, rfl, rfl⟩ h
    · have h := parse_shift first d f (i + 1) r an
      rwa [show i + 1 + d = i + d + 1 from by omega] at h
theorem parse_behind (first : Int) (f : Nat) (l : L) (an : Int) : ∀ (p : L) (i : Nat), ¬ (37 : UInt8) ∈ p → parseFrom first (p.length + f) i (p ++ l) an = parseFrom first f (i + p.length) l an
  | [], i, _ => by simp
  | c :: r, i, h => by
    have hc : c ≠ 37 := fun e => h (by simp [e])
    have hr : ¬ (37 : UInt8) ∈ r := fun e => h (by simp [e])
    have h1 := parse_behind first f l an r (i + 1) hr
    rw [show (c :: r).length + f = (r.length + f) + 1 from by simp; omega, List.cons_append]
    simp only [parseFrom, if_neg hc]
    rw [h1]
    simp [Nat.add_comm, Nat.add_left_comm]
theorem plain_moves (p l : L) (idx : Int) (hp : ¬ (37 : UInt8) ∈ p) : Same (Mv p.length) (parseM l idx) (parseM (p ++ l) idx) := by
  unfold parseM
  by_cases h : (37 : UInt8) ∈ l
  · rw [if_pos h, if_pos (by simp [h])]
    have h1 := parse_behind (idx + 1) (l.length + 1) l (idx + 1) p 0 hp
    rw [show (p ++ l).length + 1 = p.length + (l.length + 1) from by simp; omega, h1]
    exact parse_shift (idx + 1) p.length (l.length + 1) 0 l (idx + 1)
  · rw [if_neg h, if_neg (by simp [h, hp])]
    exact True.intro
end Go.Proofs.YtjbmphfgckhaeaaDoor
