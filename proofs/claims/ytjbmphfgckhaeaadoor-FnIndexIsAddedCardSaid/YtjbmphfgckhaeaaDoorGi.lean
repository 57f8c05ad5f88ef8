/-
  A text without the sign %, put ahead of a format, moves its operations: a law about parseM alone. No condition.
  In a call where the format stands n places later the arguments stand n places later: a law about parseM alone. No condition.
-/
import Derived.Test.YtjbmphfgckhaeaaDoorWq
import Derived.Test.YtjbmphfgckhaeaaDoorPt
namespace Go.Proofs.YtjbmphfgckhaeaaDoor

/-- y is x, d places later. -/
structure Mv (d : Int) (x y : IOp) : Prop where
  text : y.text = x.text
  st : x.st + d = y.st
  arg : y.arg = x.arg
  vb : y.vb = x.vb
  fl : y.fl = x.fl
  ix : y.ix = x.ix
def All2 (R : IOp → IOp → Prop) (xs ys : List IOp) : Prop := xs.length = ys.length ∧ ∀ (k : Nat) (x y : IOp), xs[k]? = some x → ys[k]? = some y → R x y
theorem All2.nil (R : IOp → IOp → Prop) : All2 R [] [] := ⟨rfl, fun k x y h => by cases h⟩
theorem All2.cons {R : IOp → IOp → Prop} {x y : IOp} {xs ys : List IOp} (h : R x y) (hs : All2 R xs ys) : All2 R (x :: xs) (y :: ys) := by
  refine ⟨by simp [hs.1], fun k a b ha hb => ?_⟩
  cases k with
  | zero =>
    simp only [List.getElem?_cons_zero, Option.some.injEq] at ha hb
    subst ha hb
    exact h
  | succ k =>
    simp only [List.getElem?_cons_succ] at ha hb
    exact hs.2 k a b ha hb
/-- Either both are none, or both are some and R holds pairwise. -/
def Same (R : IOp → IOp → Prop) : Option (List IOp) → Option (List IOp) → Prop
  | none, none => True
  | some xs, some ys => All2 R xs ys
  | _, _ => False
theorem Same.cons {R : IOp → IOp → Prop} {x y : IOp} {a b : Option (List IOp)} (h : R x y) (hs : Same R a b) : Same R (a.map (x :: ·)) (b.map (y :: ·)) := by
  cases a <;> cases b <;> first | exact hs | exact All2.cons h hs
theorem Same.none_iff {R : IOp → IOp → Prop} {a b : Option (List IOp)} (hs : Same R a b) (h : a = none) : b = none := by
  subst h
  cases b with
  | none => rfl
  | some _ => exact hs.elim
theorem Same.some_iff {R : IOp → IOp → Prop} {a b : Option (List IOp)} (hs : Same R a b) {xs : List IOp} (h : a = some xs) : ∃ ys, b = some ys ∧ All2 R xs ys := by
  subst h
  cases b with
  | none => exact hs.elim
  | some ys => exact ⟨ys, rfl, hs⟩

theorem parse_shift (first : Int) (d : Nat) : ∀ (f i : Nat) (l : L) (an : Int), Same (Mv d) (parseFrom first f i l an) (parseFrom first f (i + d) l an)
  | 0, _, _, _ => All2.nil _
  | f + 1, _, [], _ => All2.nil _
  | f + 1, i, c :: r, an => by
    simp only [parseFrom]
    split
    · cases opM (c :: r) first an with
      | none => exact True.intro
      | some x =>
        simp only [Option.bind_some]
        have h := parse_shift first d f (i + x.n) ((c :: r).drop x.n) (nextA x an)
        rw [show i + x.n + d = i + d + x.n from by omega] at h
        exact Same.cons ⟨rfl, by simp [iop], rfl, rfl, rfl, rfl⟩ h
    · have h := parse_shift first d f (i + 1) r an
      rwa [show i + 1 + d = i + d + 1 from by omega] at h
theorem parse_behind (first : Int) (f : Nat) (l : L) (an : Int) : ∀ (p : L) (i : Nat), ¬ (37 : UInt8) ∈ p → parseFrom first (p.length + f) i (p ++ l) an = parseFrom first f (i + p.length) l an
  | [], i, _ => by simp
  | c :: r, i, h => by
    have hc : c ≠ 37 := fun e => h (by simp [e])
    have hr : ¬ (37 : UInt8) ∈ r := fun e => h (by simp [e])
    have h1 := parse_behind first f l an r (i + 1) hr
    rw [show (c :: r).length + f = (r.length + f) + 1 from by simp; omega, List.cons_append]
    simp only [parseFrom, if_neg hc]
    rw [h1]
    simp [Nat.add_comm, Nat.add_left_comm]
theorem plain_moves (p l : L) (idx : Int) (hp : ¬ (37 : UInt8) ∈ p) : Same (Mv p.length) (parseM l idx) (parseM (p ++ l) idx) := by
  unfold parseM
  by_cases h : (37 : UInt8) ∈ l
  · rw [if_pos h, if_pos (by simp [h])]
    have h1 := parse_behind (idx + 1) (l.length + 1) l (idx + 1) p 0 hp
    rw [show (p ++ l).length + 1 = p.length + (l.length + 1) from by simp; omega, h1]
    exact parse_shift (idx + 1) p.length (l.length + 1) 0 l (idx + 1)
  · rw [if_neg h, if_neg (by simp [h, hp])]
    exact True.intro
end Go.Proofs.YtjbmphfgckhaeaaDoor
namespace Go.Proofs.YtjbmphfgckhaeaaDoor

def MvD (n : Nat) (a b : Int) : Prop := (a < 0 ∧ b = a) ∨ (0 ≤ a ∧ b = a + n)
structure ShZ (n : Nat) (z y : Sz) : Prop where
  fix : y.fix = z.fix
  dyn : MvD n z.dyn y.dyn
structure Sh (n : Nat) (s u : St) : Prop where
  an0 : 0 ≤ s.an
  an : u.an = s.an + n
  ix : u.ix = s.ix
  ip : u.ip = s.ip
  pd : u.pd = s.pd
  nb : u.nb = s.nb
  fl : u.fl = s.fl
  wd : ShZ n s.wd u.wd
  pr : ShZ n s.pr u.pr
def OShift (R : St → St → Prop) : Option St → Option St → Prop
  | none, none => True
  | some s, some u => R s u
  | _, _ => False
theorem Sh.idx {n : Nat} {s u : St} {l : L} {first : Int} (hf : 1 ≤ first) (h : Sh n s u) : OShift (Sh n) (pIdx l first s) (pIdx l (first + n) u) := by
  obtain ⟨h0, h1, h2, h3, h4, h5, h6, h7, h8⟩ := h
  unfold pIdx
  rw [h5]
  split
  · split
    · exact ⟨by show (0 : Int) ≤ _ + (first - 1); omega, by show (_ : Int) + (first + n - 1) = _ + (first - 1) + n; omega, rfl, rfl, rfl, rfl, h6, h7, h8⟩
    · exact True.intro
  · exact ⟨h0, h1, h2, h3, h4, h5, h6, h7, h8⟩
theorem Sh.sz {n : Nat} {s u : St} {l : L} (k : Nat) (h : Sh n s u) : Sh n (szM k l s) (szM k l u) := by
  obtain ⟨h0, h1, h2, h3, h4, h5, h6, h7, h8⟩ := h
  have hst : ShZ n (if s.pd then ⟨-1, s.an, s.ix, s.ip - k, s.nb + 1⟩ else ⟨-1, s.an, -1, (s.nb : Int) - k, s.nb + 1⟩) (if s.pd then ⟨-1, u.an, u.ix, u.ip - k, s.nb + 1⟩ else ⟨-1, u.an, -1, (s.nb : Int) - k, s.nb + 1⟩) := by
    split <;> exact ⟨rfl, .inr ⟨h0, h1⟩⟩
  unfold szM
  rw [h5]
  split
  · rw [h4]
    unfold put
    split
    · exact ⟨by show 0 ≤ s.an + 1; omega, by show u.an + 1 = s.an + 1 + n; omega, h2, h3, rfl, rfl, h6, hst, h8⟩
    · exact ⟨by show 0 ≤ s.an + 1; omega, by show u.an + 1 = s.an + 1 + n; omega, h2, h3, rfl, rfl, h6, h7, hst⟩
  · split
    · unfold put
      split
      · exact ⟨h0, h1, h2, h3, h4, rfl, h6, ⟨rfl, .inl ⟨by show (-1 : Int) < 0; decide, rfl⟩⟩, h8⟩
      · exact ⟨h0, h1, h2, h3, h4, rfl, h6, h7, ⟨rfl, .inl ⟨by show (-1 : Int) < 0; decide, rfl⟩⟩⟩
    · exact ⟨h0, h1, h2, h3, h4, rfl, h6, h7, h8⟩
theorem OShift.some_some {R : St → St → Prop} {a b : Option St} (h : OShift R a b) : (a = none ∧ b = none) ∨ ∃ s u, a = some s ∧ b = some u ∧ R s u := by
  cases a <;> cases b
  · exact .inl ⟨rfl, rfl⟩
  · exact h.elim
  · exact h.elim
  · exact .inr ⟨_, _, rfl, rfl, h⟩
theorem Sh.prec {n : Nat} {s u : St} {l : L} {first : Int} (hf : 1 ≤ first) (h : Sh n s u) : OShift (Sh n) (pPrec l first s) (pPrec l (first + n) u) := by
  have hb : Sh n { s with nb := s.nb + 1 } { u with nb := s.nb + 1 } := ⟨h.an0, h.an, h.ix, h.ip, h.pd, rfl, h.fl, h.wd, h.pr⟩
  unfold pPrec
  rw [h.nb]
  split
  · rcases (hb.idx (l := l) hf).some_some with ⟨e1, e2⟩ | ⟨s', u', e1, e2, h'⟩
    · rw [e1, e2]
      exact True.intro
    · rw [e1, e2]
      exact h'.sz 1
  · exact h
theorem Sh.last {n : Nat} {s u : St} {l : L} {first : Int} (hf : 1 ≤ first) (h : Sh n s u) : OShift (Sh n) (lastIdx l first s) (lastIdx l (first + n) u) := by
  unfold lastIdx
  rw [h.pd]
  split
  · exact h
  · exact h.idx hf
theorem op_shift {n : Nat} {l : L} {first an : Int} (hf : 1 ≤ first) (ha : 0 ≤ an) :
    (opM l first an = none ∧ opM l (first + n) (an + n) = none) ∨ ∃ x y, opM l first an = some x ∧ opM l (first + n) (an + n) = some y ∧ Sh n x.st y.st ∧ y.r = x.r ∧ y.w = x.w := by
  have h0 : Sh n (st0 l an) (st0 l (an + n)) := ⟨ha, rfl, rfl, rfl, rfl, rfl, rfl, ⟨rfl, .inl ⟨by show (-1 : Int) < 0; decide, rfl⟩⟩, ⟨rfl, .inl ⟨by show (-1 : Int) < 0; decide, rfl⟩⟩⟩
  unfold opM
  rcases (h0.idx (l := l) hf).some_some with ⟨e1, e2⟩ | ⟨s1, u1, e1, e2, h1⟩
  · rw [e1, e2]
    exact .inl ⟨rfl, rfl⟩
  · rw [e1, e2, Option.bind_some, Option.bind_some]
    rcases ((h1.sz 0 (l := l)).prec (l := l) hf).some_some with ⟨e1, e2⟩ | ⟨s3, u3, e1, e2, h3⟩
    · rw [e1, e2]
      exact .inl ⟨rfl, rfl⟩
    · rw [e1, e2, Option.bind_some, Option.bind_some]
      rcases (h3.last (l := l) hf).some_some with ⟨e1, e2⟩ | ⟨s4, u4, e1, e2, h4⟩
      · rw [e1, e2]
        exact .inl ⟨rfl, rfl⟩
      · rw [e1, e2, Option.bind_some, Option.bind_some]
        unfold verbM
        rw [h4.nb]
        split
        · exact .inl ⟨rfl, rfl⟩
        · exact .inr ⟨_, _, rfl, rfl, h4, rfl, rfl⟩
/-- y is x, its arguments n places later. -/
structure Mi (n : Nat) (x y : IOp) : Prop where
  text : y.text = x.text
  st : y.st = x.st
  ix : y.ix = x.ix
  vb : y.vb = x.vb
  arg : y.arg = x.arg + n
  wf : y.wd.fix = x.wd.fix
  wd : MvD n x.wd.dyn y.wd.dyn
  pf : y.pr.fix = x.pr.fix
  pd : MvD n x.pr.dyn y.pr.dyn
theorem add_fix (z : Sz) (i : Int) : (z.add i).fix = z.fix ∧ (z.add i).dyn = z.dyn := by
  unfold Sz.add
  split <;> exact ⟨rfl, rfl⟩
theorem iop_shift {n : Nat} {l : L} {i : Int} {x y : OpR} (h : Sh n x.st y.st) (hr : y.r = x.r) (hw : y.w = x.w) : Mi n (iop l i x) (iop l i y) := by
  have hn : y.n = x.n := by unfold OpR.n; rw [h.nb, hw]
  refine ⟨?_, rfl, ?_, ?_, h.an, ?_, ?_, ?_, ?_⟩
  · show mk (l.take y.n) = mk (l.take x.n)
    rw [hn]
  · show y.ix = x.ix
    unfold OpR.ix
    rw [h.pd, h.ix]
  · show (y.r : Int) = x.r
    rw [hr]
  · show (y.st.wd.add i).fix = (x.st.wd.add i).fix
    rw [(add_fix _ _).1, (add_fix _ _).1]
    exact h.wd.fix
  · show MvD n (x.st.wd.add i).dyn (y.st.wd.add i).dyn
    rw [(add_fix _ _).2, (add_fix _ _).2]
    exact h.wd.dyn
  · show (y.st.pr.add i).fix = (x.st.pr.add i).fix
    rw [(add_fix _ _).1, (add_fix _ _).1]
    exact h.pr.fix
  · show MvD n (x.st.pr.add i).dyn (y.st.pr.add i).dyn
    rw [(add_fix _ _).2, (add_fix _ _).2]
    exact h.pr.dyn
theorem from_shift (n : Nat) (first : Int) (hf : 1 ≤ first) : ∀ (f i : Nat) (l : L) (an : Int), 0 ≤ an → Same (Mi n) (parseFrom first f i l an) (parseFrom (first + n) f i l (an + n))
  | 0, _, _, _, _ => All2.nil _
  | f + 1, _, [], _, _ => All2.nil _
  | f + 1, i, c :: r, an, ha => by
    simp only [parseFrom]
    split
    · rcases op_shift (n := n) (l := c :: r) hf ha with ⟨e1, e2⟩ | ⟨x, y, e1, e2, h, hr, hw⟩
      · rw [e1, e2]
        exact True.intro
      · rw [e1, e2, Option.bind_some, Option.bind_some]
        have hn : y.n = x.n := by unfold OpR.n; rw [h.nb, hw]
        have h0 := h.an0
        have hna : nextA y (an + n) = nextA x an + n := by
          unfold nextA
          rw [hr, h.an]
          split
          · rfl
          · omega
        have hp : 0 ≤ nextA x an := by
          unfold nextA
          split
          · exact ha
          · omega
        have ih := from_shift n first hf f (i + x.n) ((c :: r).drop x.n) (nextA x an) hp
        rw [hn, hna]
        exact Same.cons (iop_shift h hr hw) ih
    · exact from_shift n first hf f (i + 1) r an ha
theorem plain_index (l : L) (idx : Int) (n : Nat) (hi : 0 ≤ idx) : Same (Mi n) (parseM l idx) (parseM l (idx + n)) := by
  unfold parseM
  by_cases h : (37 : UInt8) ∈ l
  · rw [if_pos h, if_pos h, show idx + n + 1 = idx + 1 + n from by omega]
    exact from_shift n (idx + 1) (by omega) _ _ _ _ (by omega)
  · rw [if_neg h, if_neg h]
    exact True.intro
end Go.Proofs.YtjbmphfgckhaeaaDoor
