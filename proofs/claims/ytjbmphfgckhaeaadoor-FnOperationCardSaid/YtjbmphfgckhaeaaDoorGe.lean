/-
  The reference against parseOperation, one operation. No program and no memory in sight. No condition.
  The reference against Parse, the whole text. No program and no memory in sight. No condition.
  laws.size and laws.op: true of an operation that is the reference's. No condition.
  The reference's Parse as the function spParse. Conditions: the library's tables, texts of at most 4096 bytes, an index from 0 to 1998; the walk of op is a premise here (SopAny), paid in the last text.
  The reference's Parse as the function spParse: the walk. Conditions: the library's tables, texts of at most 4096 bytes, an index from 0 to 1998; the walk of op is a premise (SopAny).
-/
import Derived.Test.YtjbmphfgckhaeaaDoorGa
import Derived.Test.YtjbmphfgckhaeaaDoorWo
import Derived.Deep.LoopGhost
namespace Go.Proofs.YtjbmphfgckhaeaaDoor

structure Same3 (a : Z3) (b : Sz) : Prop where
  fix : a.fix = b.fix
  dyn : a.dyn = b.dyn
  idx : a.idx = b.idx
/-- The reference's state q (over the whole text) against the parser's state s (over the text from i on). -/
structure Rl (l : L) (i : Nat) (first nx0 : Int) (s : St) (q : SS) : Prop where
  nb : q.a = s.nb + i
  le : q.a ≤ l.length
  pz : q.n = 0 → s.pd = false ∧ s.an = q.nx
  pn : 0 < q.n → s.pd = true ∧ s.an = first + q.n - 1 ∧ s.ix = q.n ∧ s.ip + i = q.fr
  wd : q.a < l.length → Same3 q.wd s.wd
  pr : q.a < l.length → Same3 q.pr s.pr
  nz : q.nx = nx0 ∨ i + 1 < q.a
  lo : i + 1 ≤ q.a

section
variable {l : L} {i : Nat} {first nx0 : Int}
theorem br_good {s : St} {a : Nat} (ha : a = s.nb + i) {x : Nat × Nat} (h : spBr l a = .good x) :
    (x = (0, a) ∧ pIdx (l.drop i) first s = some s) ∨
    (0 < x.1 ∧ a + 1 < x.2 ∧ x.2 ≤ l.length ∧ ∃ nb' : Nat, x.2 = nb' + i ∧ pIdx (l.drop i) first s = some { s with ix := x.1, ip := s.nb, nb := nb', an := x.1 + (first - 1), hi := true, pd := true }) := by
  unfold spBr at h
  by_cases hb : l[a]? = some 91
  · right
    rw [if_pos hb] at h
    cases hd : spDig l (a + 1) with
    | bad => rw [hd] at h; cases h
    | opn => rw [hd] at h; cases h
    | good y =>
      rw [hd, R3.bind_good] at h
      obtain ⟨h1, h2, h3, h4⟩ := spDig_good hd
      split at h
      · cases h
      · rename_i hc
        injection h with h
        subst h
        have hc1 : 1 ≤ y.1 := by omega
        have hc2 : l[y.2]? = some 93 := by
          cases he : decide (l[y.2]? = some 93) with
          | true => exact of_decide_eq_true he
          | false => exact absurd (Or.inr (of_decide_eq_false he)) hc
        have hlt := (List.getElem?_eq_some_iff.1 hc2).1
        have hr : rE isD (l.drop i) (s.nb + 1) + i = rE isD l (a + 1) := by
          rw [rE_drop, show s.nb + 1 + i = a + 1 from by omega]
        have hsg : seg (l.drop i) (s.nb + 1) (rE isD (l.drop i) (s.nb + 1)) = seg l (a + 1) (rE isD l (a + 1)) := by
          rw [seg_drop, hr, show s.nb + 1 + i = a + 1 from by omega]
        have hmx : mx32 = 2147483647 := rfl
        refine ⟨hc1, by show a + 1 < y.2 + 1; omega, by show y.2 + 1 ≤ l.length; omega, rE isD (l.drop i) (s.nb + 1) + 1, by show y.2 + 1 = _; omega, ?_⟩
        unfold pIdx
        rw [if_pos (by rw [at_drop, ← ha]; exact hb), if_pos ⟨by omega, by rw [at_drop, hr, ← h2]; exact hc2, by rw [hsg, ← h1]; exact hc1, by rw [hsg, ← h1]; omega⟩, hsg, ← h1]
  · left
    rw [if_neg hb] at h
    injection h with h
    subst h
    refine ⟨rfl, ?_⟩
    unfold pIdx
    rw [if_neg (by rw [at_drop, ← ha]; exact hb)]
theorem br_bad {s : St} {a : Nat} (ha : a = s.nb + i) (h : spBr l a = .bad) : pIdx (l.drop i) first s = none := by
  unfold spBr at h
  by_cases hb : l[a]? = some 91
  · rw [if_pos hb] at h
    have hr : rE isD (l.drop i) (s.nb + 1) + i = rE isD l (a + 1) := by
      rw [rE_drop, show s.nb + 1 + i = a + 1 from by omega]
    have hsg : seg (l.drop i) (s.nb + 1) (rE isD (l.drop i) (s.nb + 1)) = seg l (a + 1) (rE isD l (a + 1)) := by
      rw [seg_drop, hr, show s.nb + 1 + i = a + 1 from by omega]
    unfold pIdx
    rw [if_pos (by rw [at_drop, ← ha]; exact hb), if_neg]
    rintro ⟨c1, c2, c3, _⟩
    rw [at_drop, hr] at c2
    rw [hsg] at c3
    cases hd : spDig l (a + 1) with
    | bad =>
      have := spDig_bad hd
      omega
    | opn => rw [hd] at h; cases h
    | good y =>
      rw [hd, R3.bind_good] at h
      obtain ⟨h1, h2, h3, h4⟩ := spDig_good hd
      rw [if_neg] at h
      · cases h
      · rintro (e | e)
        · omega
        · exact e (by rw [h2]; exact c2)
  · rw [if_neg hb] at h
    cases h

theorem Rl.at_ {s : St} {q : SS} (h : Rl l i first nx0 s q) : (l.drop i)[s.nb]? = l[q.a]? := by rw [at_drop, ← h.nb]
theorem star_dyn {s : St} {q : SS} (h : Rl l i first nx0 s q) : (starZ first q.nx q.n).dyn = s.an ∧ (starZ first q.nx q.n).fix = -1 ∧ (starZ first q.nx q.n).idx = if s.pd then s.ix else -1 := by
  unfold starZ
  by_cases hn : 0 < q.n
  · obtain ⟨h1, h2, h3, _⟩ := h.pn hn
    rw [if_pos hn, h1]
    exact ⟨h2.symm, rfl, h3.symm⟩
  · obtain ⟨h1, h2⟩ := h.pz (by omega)
    rw [if_neg hn, h1]
    exact ⟨h2.symm, rfl, rfl⟩
/-- A star. -/
theorem star_rel (k : Nat) (hk : k = 0 ∨ k = 1) {s : St} {q q' : SS} (h : Rl l i first nx0 s q) (hb : l[q.a]? = some 42) (h1 : q'.n = 0) (h2 : q'.a = q.a + 1) (h3 : q'.nx = (starZ first q.nx q.n).dyn + 1)
    (hw : q'.wd = if k = 0 then starZ first q.nx q.n else q.wd) (hp : q'.pr = if k = 0 then q.pr else starZ first q.nx q.n) : Rl l i first nx0 (szM k (l.drop i) s) q' := by
  have hlt := (List.getElem?_eq_some_iff.1 hb).1
  obtain ⟨d1, d2, d3⟩ := star_dyn h
  have hb' : (l.drop i)[s.nb]? = some 42 := h.at_.trans hb
  have hnb := h.nb
  have hlo := h.lo
  have hst : Same3 (starZ first q.nx q.n) (if s.pd then ⟨-1, s.an, s.ix, s.ip - k, s.nb + 1⟩ else ⟨-1, s.an, -1, (s.nb : Int) - k, s.nb + 1⟩) := by
    cases hpd : s.pd with
    | true =>
      rw [hpd] at d3
      exact ⟨d2, d1, d3⟩
    | false =>
      rw [hpd] at d3
      exact ⟨d2, d1, d3⟩
  unfold szM
  rw [if_pos hb']
  unfold put
  rcases hk with rfl | rfl
  · rw [if_pos rfl] at hw hp ⊢
    exact ⟨by show q'.a = s.nb + 1 + i; omega, by omega, fun _ => ⟨rfl, by show s.an + 1 = q'.nx; omega⟩, fun hn => by omega, fun _ => by rw [hw]; exact hst, fun _ => by rw [hp]; exact h.pr hlt, .inr (by omega), by omega⟩
  · rw [if_neg (by decide)] at hw hp ⊢
    exact ⟨by show q'.a = s.nb + 1 + i; omega, by omega, fun _ => ⟨rfl, by show s.an + 1 = q'.nx; omega⟩, fun hn => by omega, fun _ => by rw [hw]; exact h.wd hlt, fun _ => by rw [hp]; exact hst, .inr (by omega), by omega⟩
/-- Digits. -/
theorem dig_rel (k : Nat) (hk : k = 0 ∨ k = 1) {s : St} {q q' : SS} {x : Nat × Nat} (h : Rl l i first nx0 s q) (hn : q.n = 0) (hb : l[q.a]? ≠ some 42) (hx : spDig l q.a = .good x) (h1 : q'.n = 0) (h2 : q'.a = x.2) (h3 : q'.nx = q.nx)
    (hw : q'.wd = if k = 0 then ⟨x.1, -1, -1⟩ else q.wd) (hp : q'.pr = if k = 0 then q.pr else ⟨x.1, -1, -1⟩) : Rl l i first nx0 (szM k (l.drop i) s) q' := by
  obtain ⟨e1, e2, e3, e4⟩ := spDig_good hx
  have hb' : ¬ (l.drop i)[s.nb]? = some 42 := by rw [h.at_]; exact hb
  have hnb := h.nb
  have hle := h.le
  have hlo := h.lo
  have hr : rE isD (l.drop i) s.nb + i = rE isD l q.a := by rw [rE_drop, ← hnb]
  have hsg : seg (l.drop i) s.nb (rE isD (l.drop i) s.nb) = seg l q.a (rE isD l q.a) := by rw [seg_drop, hr, ← hnb]
  have hrl := rE_le isD l q.a hle
  have hmx : mx32 = 2147483647 := rfl
  obtain ⟨p1, p2⟩ := h.pz hn
  have hll : (l.drop i).length = l.length - i := List.length_drop
  unfold szM
  rw [if_neg hb']
  by_cases hend : rE isD l q.a < l.length
  · rw [if_pos ⟨by omega, by omega⟩]
    have hst : Same3 ⟨x.1, -1, -1⟩ ⟨(min (dv (seg (l.drop i) s.nb (rE isD (l.drop i) s.nb))) mx32 : Nat), -1, -1, (s.nb : Int) - k, rE isD (l.drop i) s.nb⟩ := by
      refine ⟨?_, rfl, rfl⟩
      show (x.1 : Int) = ((min (dv (seg (l.drop i) s.nb (rE isD (l.drop i) s.nb))) mx32 : Nat) : Int)
      rw [hsg, ← e1, Nat.min_eq_left (by omega)]
    unfold put
    rcases hk with rfl | rfl
    · rw [if_pos rfl] at hw hp ⊢
      exact ⟨by show q'.a = rE isD (l.drop i) s.nb + i; omega, by omega, fun _ => ⟨p1, by rw [h3]; exact p2⟩, fun hn => by omega, fun _ => by rw [hw]; exact hst, fun _ => by rw [hp]; exact h.pr (by omega), .inr (by omega), by omega⟩
    · rw [if_neg (by decide)] at hw hp ⊢
      exact ⟨by show q'.a = rE isD (l.drop i) s.nb + i; omega, by omega, fun _ => ⟨p1, by rw [h3]; exact p2⟩, fun hn => by omega, fun _ => by rw [hw]; exact h.wd (by omega), fun _ => by rw [hp]; exact hst, .inr (by omega), by omega⟩
  · rw [if_neg (by omega)]
    exact ⟨by show q'.a = rE isD (l.drop i) s.nb + i; omega, by omega, fun _ => ⟨p1, by rw [h3]; exact p2⟩, fun hn => by omega, fun hh => by omega, fun hh => by omega, .inr (by omega), by omega⟩
theorem w_rel {s : St} {q : SS} (h : Rl l i first nx0 s q) :
    match spW l first q with
    | .opn => True
    | .bad => False
    | .good q' => Rl l i first nx0 (szM 0 (l.drop i) s) q' := by
  unfold spW
  by_cases hb : l[q.a]? = some 42
  · rw [if_pos hb]
    exact star_rel 0 (.inl rfl) h hb rfl rfl rfl rfl rfl
  · rw [if_neg hb]
    by_cases hd : isDat l q.a = true
    · rw [if_pos hd]
      by_cases hn : 0 < q.n
      · rw [if_pos hn]
        exact True.intro
      · rw [if_neg hn]
        cases hx : spDig l q.a with
        | opn => exact True.intro
        | bad =>
          have h1 := spDig_bad hx
          have h2 := (isDat_run hd).1
          exact absurd h1 (by omega)
        | good x => exact dig_rel 0 (.inl rfl) h (by omega) hb hx (by show q.n = 0; omega) rfl rfl rfl rfl
    · rw [if_neg hd]
      have hr := isDat_not hd
      have hr' : rE isD (l.drop i) s.nb = s.nb := by
        have := rE_drop isD l i s.nb
        rw [← h.nb, hr] at this
        have := h.nb
        omega
      have hb' : ¬ (l.drop i)[s.nb]? = some 42 := by rw [h.at_]; exact hb
      show Rl l i first nx0 (szM 0 (l.drop i) s) q
      unfold szM
      rw [if_neg hb', if_neg (by omega), hr']
      exact h
theorem p_rel {s : St} {q : SS} (h : Rl l i first nx0 s q) :
    match spP l first q with
    | .opn => True
    | .bad => pPrec (l.drop i) first s = none
    | .good q' => ∃ s', pPrec (l.drop i) first s = some s' ∧ Rl l i first nx0 s' q' := by
  unfold spP
  by_cases hb : l[q.a]? = some 46
  · rw [if_pos hb]
    have hlt := (List.getElem?_eq_some_iff.1 hb).1
    have hb' : (l.drop i)[s.nb]? = some 46 := h.at_.trans hb
    have hnb := h.nb
    have hlo := h.lo
    by_cases hn : 0 < q.n
    · rw [if_pos hn]
      exact True.intro
    · rw [if_neg hn]
      obtain ⟨p1, p2⟩ := h.pz (by omega)
      have ha : q.a + 1 = ({ s with nb := s.nb + 1 } : St).nb + i := by show q.a + 1 = s.nb + 1 + i; omega
      cases hx : spBr l (q.a + 1) with
      | opn => exact True.intro
      | bad =>
        rw [R3.bind_bad]
        show pPrec (l.drop i) first s = none
        unfold pPrec
        rw [if_pos hb', br_bad ha hx]
        rfl
      | good x =>
        rw [R3.bind_good]
        have key : ∃ s2, pIdx (l.drop i) first { s with nb := s.nb + 1 } = some s2 ∧ Rl l i first nx0 s2 { q with n := x.1, a := x.2, fr := q.a + 1 } := by
          rcases br_good (first := first) ha hx with ⟨rfl, h1⟩ | ⟨h1, h2, h3, nb', h4, h5⟩
          · exact ⟨_, h1, ⟨ha, by show q.a + 1 ≤ _; omega, fun _ => ⟨p1, p2⟩, fun hh => absurd hh (Nat.lt_irrefl 0), fun _ => h.wd hlt, fun _ => h.pr hlt, .inr (by show i + 1 < q.a + 1; omega), by show i + 1 ≤ q.a + 1; omega⟩⟩
          · exact ⟨_, h5, ⟨h4, h3, fun hh => absurd hh (by show ¬ x.1 = 0; omega), fun _ => ⟨rfl, by show (x.1 : Int) + (first - 1) = first + (x.1 : Int) - 1; omega, rfl, by show ((s.nb + 1 : Nat) : Int) + i = ((q.a + 1 : Nat) : Int); omega⟩, fun _ => h.wd hlt, fun _ => h.pr hlt, .inr (by show i + 1 < x.2; omega), by show i + 1 ≤ x.2; omega⟩⟩
        obtain ⟨s2, k1, k2⟩ := key
        have hpp : pPrec (l.drop i) first s = some (szM 1 (l.drop i) s2) := by
          unfold pPrec
          rw [if_pos hb', k1]
          rfl
        by_cases hb2 : l[x.2]? = some 42
        · rw [if_pos hb2]
          exact ⟨_, hpp, star_rel 1 (.inr rfl) k2 hb2 rfl rfl rfl rfl rfl⟩
        · rw [if_neg hb2]
          by_cases hd : isDat l x.2 = true
          · rw [if_pos hd]
            by_cases hn2 : 0 < x.1
            · rw [if_pos hn2]
              exact True.intro
            · rw [if_neg hn2]
              cases hy : spDig l x.2 with
              | opn => exact True.intro
              | bad =>
                have h1 := spDig_bad hy
                have h2 := (isDat_run hd).1
                exact absurd h1 (by omega)
              | good y => exact ⟨_, hpp, dig_rel 1 (.inr rfl) k2 (by show x.1 = 0; omega) hb2 hy rfl rfl rfl rfl rfl⟩
          · rw [if_neg hd]
            exact True.intro
  · rw [if_neg hb]
    refine ⟨s, ?_, h⟩
    unfold pPrec
    rw [if_neg (by rw [h.at_]; exact hb)]
theorem l_rel {s : St} {q : SS} (h : Rl l i first nx0 s q) :
    match spL l q with
    | .opn => True
    | .bad => lastIdx (l.drop i) first s = none
    | .good q' => ∃ s', lastIdx (l.drop i) first s = some s' ∧ Rl l i first nx0 s' q' := by
  unfold spL
  have hnb := h.nb
  have hlo := h.lo
  by_cases hn : q.n = 0
  · rw [if_pos hn]
    obtain ⟨p1, p2⟩ := h.pz hn
    have hla : lastIdx (l.drop i) first s = pIdx (l.drop i) first s := by
      unfold lastIdx
      rw [p1, if_neg (by decide)]
    rw [hla]
    cases hx : spBr l q.a with
    | opn => exact True.intro
    | bad => exact br_bad hnb hx
    | good x =>
      rw [R3.bind_good]
      rcases br_good (first := first) hnb hx with ⟨rfl, h1⟩ | ⟨h1, h2, h3, nb', h4, h5⟩
      · exact ⟨s, h1, ⟨hnb, h.le, fun _ => ⟨p1, p2⟩, fun hh => absurd hh (Nat.lt_irrefl 0), h.wd, h.pr, h.nz, hlo⟩⟩
      · exact ⟨_, h5, ⟨h4, h3, fun hh => absurd hh (by show ¬ x.1 = 0; omega), fun _ => ⟨rfl, by show (x.1 : Int) + (first - 1) = first + (x.1 : Int) - 1; omega, rfl, by show (s.nb : Int) + i = (q.a : Int); omega⟩, fun _ => h.wd (by omega), fun _ => h.pr (by omega), .inr (by show i + 1 < x.2; omega), by show i + 1 ≤ x.2; omega⟩⟩
  · rw [if_neg hn]
    refine ⟨s, ?_, h⟩
    unfold lastIdx
    rw [(h.pn (by omega)).1, if_pos rfl]
end
/-- An operation of the reference against one of the program. -/
structure OM (o : SO) (y : IOp) : Prop where
  text : y.text = o.text
  st : y.st = o.st
  en : y.en = o.en
  fl : y.fl = o.fl
  vb : y.vb = o.vb
  vs : y.vs = o.vs
  ve : y.ve = o.en
  ix : y.ix = o.ix
  arg : o.vb = 37 ∨ y.arg = o.arg
  wd : Same3 o.wd y.wd
  pr : Same3 o.pr y.pr
theorem Same3.add {a : Z3} {b : Sz} (h : Same3 a b) (i : Int) : Same3 a (b.add i) := by
  unfold Sz.add
  split
  · exact ⟨h.fix, h.dyn, h.idx⟩
  · exact h
theorem flags_at {l : L} {i : Nat} : rE isF (l.drop i) 1 + i = rE isF l (i + 1) := by
  rw [rE_drop, Nat.add_comm 1 i]
theorem fl_idx {l : L} {first : Int} {s s' : St} (h : pIdx l first s = some s') : s'.fl = s.fl := by
  unfold pIdx at h
  split at h
  · split at h
    · injection h with h
      subst h
      rfl
    · cases h
  · injection h with h
    subst h
    rfl
theorem fl_sz (k : Nat) (l : L) (s : St) : (szM k l s).fl = s.fl := by
  unfold szM put
  split
  · split <;> rfl
  · split
    · split <;> rfl
    · rfl
theorem fl_prec {l : L} {first : Int} {s s' : St} (h : pPrec l first s = some s') : s'.fl = s.fl := by
  unfold pPrec at h
  split at h
  · obtain ⟨s2, h2, rfl⟩ := Option.map_eq_some_iff.1 h
    rw [fl_sz]
    have := fl_idx h2
    exact this
  · injection h with h
    subst h
    rfl
theorem fl_last {l : L} {first : Int} {s s' : St} (h : lastIdx l first s = some s') : s'.fl = s.fl := by
  unfold lastIdx at h
  split at h
  · injection h with h
    subst h
    rfl
  · exact fl_idx h
theorem op_rel {l : L} {i : Nat} {first nx0 : Int} (hi : i < l.length) :
    match spOp l first i nx0 with
    | .opn => True
    | .bad => opM (l.drop i) first nx0 = none
    | .good (o, b, nx) => ∃ x, opM (l.drop i) first nx0 = some x ∧ OM o (iop (l.drop i) i x) ∧ b = i + x.n ∧ nx = nextA x nx0 := by
  have hf := flags_at (l := l) (i := i)
  have hfle := rE_le isF l (i + 1) (by omega)
  have hfge := rE_ge isF l (i + 1)
  have hll : (l.drop i).length = l.length - i := List.length_drop
  unfold spOp opM
  have hnb0 : rE isF l (i + 1) = (st0 (l.drop i) nx0).nb + i := hf.symm
  cases hx : spBr l (rE isF l (i + 1)) with
  | opn => exact True.intro
  | bad =>
    rw [R3.bind_bad, br_bad hnb0 hx]
    rfl
  | good x =>
    rw [R3.bind_good]
    have key : ∃ s1, pIdx (l.drop i) first (st0 (l.drop i) nx0) = some s1 ∧ Rl l i first nx0 s1 (ssV l i nx0 x) := by
      rcases br_good (first := first) hnb0 hx with ⟨rfl, h1⟩ | ⟨h1, h2, h3, nb', h4, h5⟩
      · exact ⟨_, h1, ⟨hnb0, hfle, fun _ => ⟨rfl, rfl⟩, fun hh => absurd hh (Nat.lt_irrefl 0), fun _ => ⟨rfl, rfl, rfl⟩, fun _ => ⟨rfl, rfl, rfl⟩, .inl rfl, hfge⟩⟩
      · exact ⟨_, h5, ⟨h4, h3, fun hh => absurd hh (by show ¬ x.1 = 0; omega), fun _ => ⟨rfl, by show (x.1 : Int) + (first - 1) = first + (x.1 : Int) - 1; omega, rfl, by show (((st0 (l.drop i) nx0).nb : Nat) : Int) + i = ((rE isF l (i + 1) : Nat) : Int); omega⟩, fun _ => ⟨rfl, rfl, rfl⟩, fun _ => ⟨rfl, rfl, rfl⟩, .inl rfl, by show i + 1 ≤ x.2; omega⟩⟩
    obtain ⟨s1, k1, k2⟩ := key
    rw [k1, Option.bind_some]
    have hfl : s1.fl = flV l i := by
      rw [fl_idx k1]
      show mk (((l.drop i).drop 1).takeWhile isF) = _
      unfold flV
      rw [List.drop_drop]
    have hw := w_rel k2
    cases hs1 : spW l first (ssV l i nx0 x) with
    | opn => exact True.intro
    | bad => rw [hs1] at hw; exact hw.elim
    | good q1 =>
      rw [hs1] at hw
      replace hw : Rl l i first nx0 (szM 0 (l.drop i) s1) q1 := hw
      rw [R3.bind_good]
      have hp := p_rel hw
      cases hs2 : spP l first q1 with
      | opn => exact True.intro
      | bad =>
        rw [hs2] at hp
        replace hp : pPrec (l.drop i) first (szM 0 (l.drop i) s1) = none := hp
        rw [R3.bind_bad, hp]
        rfl
      | good q2 =>
        rw [hs2] at hp
        obtain ⟨s2, hp1, hp2⟩ : ∃ s', pPrec (l.drop i) first (szM 0 (l.drop i) s1) = some s' ∧ Rl l i first nx0 s' q2 := hp
        rw [R3.bind_good, hp1, Option.bind_some]
        have hl := l_rel hp2
        cases hs3 : spL l q2 with
        | opn => exact True.intro
        | bad =>
          rw [hs3] at hl
          replace hl : lastIdx (l.drop i) first s2 = none := hl
          rw [R3.bind_bad, hl]
          rfl
        | good q3 =>
          rw [hs3] at hl
          obtain ⟨s3, hl1, hl2⟩ : ∃ s', lastIdx (l.drop i) first s2 = some s' ∧ Rl l i first nx0 s' q3 := hl
          rw [R3.bind_good, hl1, Option.bind_some]
          have hfl3 : s3.fl = flV l i := by rw [fl_last hl1, fl_prec hp1, fl_sz, hfl]
          have hnb := hl2.nb
          have hle := hl2.le
          have hlo := hl2.lo
          unfold spV verbM
          by_cases hend : q3.a = l.length
          · rw [if_pos hend, if_pos (show s3.nb = (l.drop i).length by omega)]
          · have hne : ¬ s3.nb = (l.drop i).length := by omega
            rw [if_neg hend]
            have hdd : (l.drop i).drop s3.nb = l.drop q3.a := by rw [List.drop_drop, hnb, Nat.add_comm]
            by_cases ho : opnV l i q3
            · rw [if_pos ho]
              exact True.intro
            · rw [if_neg ho, if_neg hne, hdd]
              refine ⟨_, rfl, ?_, ?_, ?_⟩
              · obtain ⟨e1, e2, e3⟩ : (s3.pd = true ↔ 0 < q3.n) ∧ (0 < q3.n → s3.ip + i = q3.fr ∧ s3.ix = q3.n ∧ s3.an = first + q3.n - 1) ∧ (¬ 0 < q3.n → s3.an = q3.nx) := by
                  by_cases hn : 0 < q3.n
                  · obtain ⟨h1, h2, h3, h4⟩ := hl2.pn hn
                    exact ⟨⟨fun _ => hn, fun _ => h1⟩, fun _ => ⟨h4, h3, h2⟩, fun h => absurd hn h⟩
                  · obtain ⟨h1, h2⟩ := hl2.pz (by omega)
                    exact ⟨⟨(fun h => absurd (h1.symm.trans h) Bool.false_ne_true), (fun h => absurd h hn)⟩, (fun h => absurd h hn), fun _ => h2⟩
                refine ⟨?_, rfl, ?_, hfl3, rfl, ?_, ?_, ?_, ?_, (hl2.wd (by omega)).add _, (hl2.pr (by omega)).add _⟩
                · show mk ((l.drop i).take (s3.nb + (dec (l.drop q3.a)).2)) = mk (seg l i (q3.a + (dec (l.drop q3.a)).2))
                  unfold seg
                  rw [show q3.a + (dec (l.drop q3.a)).2 - i = s3.nb + (dec (l.drop q3.a)).2 from by omega]
                · show ((s3.nb + (dec (l.drop q3.a)).2 : Nat) : Int) + i = ((q3.a + (dec (l.drop q3.a)).2 : Nat) : Int)
                  omega
                · show (if s3.pd then s3.ip else (s3.nb : Int)) + i = if 0 < q3.n then (q3.fr : Int) else q3.a
                  by_cases hn : 0 < q3.n
                  · rw [if_pos (e1.2 hn), if_pos hn]
                    exact (e2 hn).1
                  · rw [if_neg (fun h => hn (e1.1 h)), if_neg hn]
                    omega
                · show ((s3.nb + (dec (l.drop q3.a)).2 : Nat) : Int) + i = ((q3.a + (dec (l.drop q3.a)).2 : Nat) : Int)
                  omega
                · show (if s3.pd then s3.ix else -1) = if 0 < q3.n then (q3.n : Int) else -1
                  by_cases hn : 0 < q3.n
                  · rw [if_pos (e1.2 hn), if_pos hn]
                    exact (e2 hn).2.1
                  · rw [if_neg (fun h => hn (e1.1 h)), if_neg hn]
                · by_cases hc : (dec (l.drop q3.a)).1 = 37
                  · left
                    show (((dec (l.drop q3.a)).1 : Nat) : Int) = 37
                    omega
                  · right
                    show s3.an = argV l first q3
                    unfold argV
                    rw [if_neg hc]
                    by_cases hn : 0 < q3.n
                    · rw [if_pos hn]
                      exact (e2 hn).2.2
                    · rw [if_neg hn]
                      exact e3 hn
              · show q3.a + (dec (l.drop q3.a)).2 = i + (s3.nb + (dec (l.drop q3.a)).2)
                omega
              · show (if (dec (l.drop q3.a)).1 = 37 then q3.nx else argV l first q3 + 1) = if (dec (l.drop q3.a)).1 = 37 then nx0 else s3.an + 1
                by_cases hc : (dec (l.drop q3.a)).1 = 37
                · rw [if_pos hc, if_pos hc]
                  rcases hl2.nz with h | h
                  · exact h
                  · exact absurd (Or.inr (Or.inl ⟨hc, .inr h⟩)) ho
                · rw [if_neg hc, if_neg hc]
                  unfold argV
                  rw [if_neg hc]
                  by_cases hn : 0 < q3.n
                  · rw [if_pos hn, (hl2.pn hn).2.1]
                  · rw [if_neg hn, (hl2.pz (by omega)).2]
end Go.Proofs.YtjbmphfgckhaeaaDoor
namespace Go.Proofs.YtjbmphfgckhaeaaDoor

/-- spec's Parse, from place i on, the next argument being nx. -/
def spFrom (l : L) (first : Int) : Nat → Nat → Int → R3 (List SO)
  | 0, _, _ => .good []
  | f + 1, i, nx =>
    if i < l.length then
      if l[i]? = some 37 then (spOp l first i nx).bind fun x => (spFrom l first f x.2.1 x.2.2).bind fun r => .good (x.1 :: r)
      else spFrom l first f (i + 1) nx
    else .good []
def someR (r : R3 (List SO)) : R3 (List SO) :=
  match r with
  | .good [] => .opn
  | r => r
def spParse (l : L) (idx : Int) : R3 (List SO) := someR (spFrom l (idx + 1) (l.length + 1) 0 (idx + 1))
def AllOM (os : List SO) (xs : List IOp) : Prop := os.length = xs.length ∧ ∀ (k : Nat) (o : SO) (x : IOp), os[k]? = some o → xs[k]? = some x → OM o x
theorem AllOM.nil : AllOM [] [] := ⟨rfl, fun k o x h => by cases h⟩
theorem AllOM.cons {o : SO} {x : IOp} {os : List SO} {xs : List IOp} (h : OM o x) (hs : AllOM os xs) : AllOM (o :: os) (x :: xs) := by
  refine ⟨by simp [hs.1], fun k a b ha hb => ?_⟩
  cases k with
  | zero =>
    simp only [List.getElem?_cons_zero, Option.some.injEq] at ha hb
    subst ha hb
    exact h
  | succ k =>
    simp only [List.getElem?_cons_succ] at ha hb
    exact hs.2 k a b ha hb
def FromRel (l : L) (first : Int) (f i : Nat) (nx : Int) (r : R3 (List SO)) : Prop :=
  match r with
  | .opn => True
  | .bad => parseFrom first f i (l.drop i) nx = none
  | .good os => ∃ xs, parseFrom first f i (l.drop i) nx = some xs ∧ AllOM os xs
theorem from_rel (l : L) (first : Int) : ∀ (f i : Nat) (nx : Int), FromRel l first f i nx (spFrom l first f i nx)
  | 0, i, nx => ⟨[], rfl, AllOM.nil⟩
  | f + 1, i, nx => by
    unfold spFrom
    by_cases hi : i < l.length
    · rw [if_pos hi]
      by_cases hc : l[i]? = some 37
      · rw [if_pos hc]
        have hc' : l[i] = 37 := (List.getElem?_eq_some_iff.1 hc).2
        have ho := op_rel (first := first) (nx0 := nx) hi
        cases hs : spOp l first i nx with
        | opn => exact True.intro
        | bad =>
          rw [hs] at ho
          replace ho : opM (l.drop i) first nx = none := ho
          show parseFrom first (f + 1) i (l.drop i) nx = none
          exact parse_none (by omega) hi hc' ho
        | good x =>
          obtain ⟨o, b, nx'⟩ := x
          rw [hs] at ho
          obtain ⟨x, h1, h2, h3, h4⟩ : ∃ x, opM (l.drop i) first nx = some x ∧ OM o (iop (l.drop i) i x) ∧ b = i + x.n ∧ nx' = nextA x nx := ho
          have ih := from_rel l first f b nx'
          have hp := parse_some (g := f + 1) (first := first) (an := nx) (by omega) hi hc' h1
          rw [show f + 1 - 1 = f from rfl, ← h3, ← h4] at hp
          rw [R3.bind_good]
          show FromRel l first (f + 1) i nx ((spFrom l first f b nx').bind fun r => .good (o :: r))
          cases hr : spFrom l first f b nx' with
          | opn => exact True.intro
          | bad =>
            rw [hr] at ih
            replace ih : parseFrom first f b (l.drop b) nx' = none := ih
            show parseFrom first (f + 1) i (l.drop i) nx = none
            rw [hp, ih]
            rfl
          | good os =>
            rw [hr] at ih
            obtain ⟨xs, k1, k2⟩ : ∃ xs, parseFrom first f b (l.drop b) nx' = some xs ∧ AllOM os xs := ih
            exact ⟨iop (l.drop i) i x :: xs, by rw [hp, k1]; rfl, AllOM.cons h2 k2⟩
      · rw [if_neg hc]
        have hc' : l[i] ≠ 37 := fun e => hc (by rw [List.getElem?_eq_getElem hi, e])
        have ih := from_rel l first f (i + 1) nx
        have hp := parse_skip (g := f + 1) (first := first) (an := nx) (by omega) hi hc'
        rw [show f + 1 - 1 = f from rfl] at hp
        unfold FromRel at ih ⊢
        rw [hp]
        exact ih
    · rw [if_neg hi]
      exact ⟨[], by rw [List.drop_eq_nil_of_le (by omega), parse_end _ _ _ _ (by omega)], AllOM.nil⟩
theorem from_none (l : L) (first : Int) (h : ¬ (37 : UInt8) ∈ l) : ∀ (f i : Nat) (nx : Int), spFrom l first f i nx = .good []
  | 0, i, nx => rfl
  | f + 1, i, nx => by
    unfold spFrom
    by_cases hi : i < l.length
    · rw [if_pos hi, if_neg]
      · exact from_none l first h f (i + 1) nx
      · intro e
        exact h (List.mem_of_getElem? e)
    · rw [if_neg hi]
theorem someR_bad {r : R3 (List SO)} (h : someR r = .bad) : r = .bad := by
  unfold someR at h
  split at h
  · cases h
  · exact h
theorem someR_good {r : R3 (List SO)} {os : List SO} (h : someR r = .good os) : r = .good os ∧ os ≠ [] := by
  unfold someR at h
  split at h
  · cases h
  · rename_i hn
    subst h
    refine ⟨rfl, fun e => ?_⟩
    subst e
    exact hn rfl
theorem sp_bad {l : L} {idx : Int} (h : spParse l idx = .bad) : parseM l idx = none := by
  have h1 := someR_bad h
  have h2 := from_rel l (idx + 1) (l.length + 1) 0 (idx + 1)
  rw [h1] at h2
  unfold parseM
  split
  · exact h2
  · rfl
theorem sp_good {l : L} {idx : Int} {os : List SO} (h : spParse l idx = .good os) : ∃ xs, parseM l idx = some xs ∧ AllOM os xs := by
  obtain ⟨h1, hne⟩ := someR_good h
  have h2 := from_rel l (idx + 1) (l.length + 1) 0 (idx + 1)
  rw [h1] at h2
  unfold parseM
  by_cases hm : (37 : UInt8) ∈ l
  · rw [if_pos hm]
    exact h2
  · rw [from_none l (idx + 1) hm] at h1
    injection h1 with h1
    exact absurd h1.symm hne
end Go.Proofs.YtjbmphfgckhaeaaDoor
namespace Go.Proofs.YtjbmphfgckhaeaaDoor
open Go.RowKit

set_option maxRecDepth 100000 in
set_option maxHeartbeats 1600000 in
theorem size_true (a b c d e : Int) (w : World) :
    Calls Tryd.prog 23 #[.agg #[.int .i64 a, .int .i64 b, .int .i64 c, .int .i64 d, .int .i64 e], .agg #[.int .i64 a, .int .i64 b, .int .i64 c]] w fun x w' => x = .returned (.bool true) ∧ Below w.heap.size w w' := by
  go_enter Tryd.func23, Tryd.ntmps23
  go_wp2
  go_ret
  exact ⟨rfl, ((Below.refl _ _).alloc (Nat.le_refl _) _).alloc (by simp) _⟩

set_option maxRecDepth 100000 in
set_option maxHeartbeats 6400000 in
theorem op_lit37 (text fl : ByteArray) (st en vb vs ix arg arg2 w1 w2 w3 w4 w5 p1 p2 p3 p4 p5 : Int) (h37 : vb = 37) (w : World) :
    Calls Tryd.prog 12 #[.agg #[.string text, .int .i64 st, .int .i64 en, .string fl, .int .i32 vb, .int .i64 vs, .int .i64 en, .int .i64 ix, .int .i64 arg, .int .i64 w1, .int .i64 w2, .int .i64 w3, .int .i64 w4, .int .i64 w5, .int .i64 p1, .int .i64 p2, .int .i64 p3, .int .i64 p4, .int .i64 p5], .agg #[.string text, .int .i64 st, .int .i64 en, .string fl, .int .i32 vb, .int .i64 vs, .int .i64 ix, .int .i64 arg2, .int .i64 w1, .int .i64 w2, .int .i64 w3, .int .i64 p1, .int .i64 p2, .int .i64 p3]] w fun x w' => x = .returned (.bool true) ∧ Below w.heap.size w w' := by
    have b37 : (vb == 37) = true := by rw [h37]; rfl
    clear h37
    go_enter Tryd.func12, Tryd.ntmps12
    go_wp2_with fail
    refine (size_true w1 w2 w3 w4 w5 _).mono ?_
    rintro x W1 ⟨rfl, hb1⟩
    have hA : Blk ((w.alloc (.cells #[.string text, .int .i64 st, .int .i64 en, .string fl, .int .i32 vb, .int .i64 vs, .int .i64 en, .int .i64 ix, .int .i64 arg, .int .i64 w1, .int .i64 w2, .int .i64 w3, .int .i64 w4, .int .i64 w5, .int .i64 p1, .int .i64 p2, .int .i64 p3, .int .i64 p4, .int .i64 p5] 32)).alloc (.cells #[.string text, .int .i64 st, .int .i64 en, .string fl, .int .i32 vb, .int .i64 vs, .int .i64 ix, .int .i64 arg2, .int .i64 w1, .int .i64 w2, .int .i64 w3, .int .i64 p1, .int .i64 p2, .int .i64 p3] 26)) w.heap.size 32 #[.string text, .int .i64 st, .int .i64 en, .string fl, .int .i32 vb, .int .i64 vs, .int .i64 en, .int .i64 ix, .int .i64 arg, .int .i64 w1, .int .i64 w2, .int .i64 w3, .int .i64 w4, .int .i64 w5, .int .i64 p1, .int .i64 p2, .int .i64 p3, .int .i64 p4, .int .i64 p5] := (Blk.new w 32 _).alloc _
    have hB : Blk ((w.alloc (.cells #[.string text, .int .i64 st, .int .i64 en, .string fl, .int .i32 vb, .int .i64 vs, .int .i64 en, .int .i64 ix, .int .i64 arg, .int .i64 w1, .int .i64 w2, .int .i64 w3, .int .i64 w4, .int .i64 w5, .int .i64 p1, .int .i64 p2, .int .i64 p3, .int .i64 p4, .int .i64 p5] 32)).alloc (.cells #[.string text, .int .i64 st, .int .i64 en, .string fl, .int .i32 vb, .int .i64 vs, .int .i64 ix, .int .i64 arg2, .int .i64 w1, .int .i64 w2, .int .i64 w3, .int .i64 p1, .int .i64 p2, .int .i64 p3] 26)) (w.heap.size + 1) 26 #[.string text, .int .i64 st, .int .i64 en, .string fl, .int .i32 vb, .int .i64 vs, .int .i64 ix, .int .i64 arg2, .int .i64 w1, .int .i64 w2, .int .i64 w3, .int .i64 p1, .int .i64 p2, .int .i64 p3] := by
      have := Blk.new (w.alloc (.cells #[.string text, .int .i64 st, .int .i64 en, .string fl, .int .i32 vb, .int .i64 vs, .int .i64 en, .int .i64 ix, .int .i64 arg, .int .i64 w1, .int .i64 w2, .int .i64 w3, .int .i64 w4, .int .i64 w5, .int .i64 p1, .int .i64 p2, .int .i64 p3, .int .i64 p4, .int .i64 p5] 32)) 26 #[.string text, .int .i64 st, .int .i64 en, .string fl, .int .i32 vb, .int .i64 vs, .int .i64 ix, .int .i64 arg2, .int .i64 w1, .int .i64 w2, .int .i64 w3, .int .i64 p1, .int .i64 p2, .int .i64 p3]
      simpa using this
    have hA1 := hA.below hb1 hA.lt
    have hB1 := hB.below hb1 hB.lt
    have HBW := hide (((((Below.refl w.heap.size w).alloc (Nat.le_refl _) (.cells #[.string text, .int .i64 st, .int .i64 en, .string fl, .int .i32 vb, .int .i64 vs, .int .i64 en, .int .i64 ix, .int .i64 arg, .int .i64 w1, .int .i64 w2, .int .i64 w3, .int .i64 w4, .int .i64 w5, .int .i64 p1, .int .i64 p2, .int .i64 p3, .int .i64 p4, .int .i64 p5] 32)).alloc (by simp) (.cells #[.string text, .int .i64 st, .int .i64 en, .string fl, .int .i32 vb, .int .i64 vs, .int .i64 ix, .int .i64 arg2, .int .i64 w1, .int .i64 w2, .int .i64 w3, .int .i64 p1, .int .i64 p2, .int .i64 p3] 26)).trans (hb1.mono (by simp; omega))))
    have HA1 := hide (And.intro hA1 hB1)
    clear hA hB hb1 hA1 hB1
    have a14 : W1.cell? ⟨w.heap.size, 14, none⟩ = some (.int .i64 p1) := (unhide HA1).1.cell 14
    have a15 : W1.cell? ⟨w.heap.size, 15, none⟩ = some (.int .i64 p2) := (unhide HA1).1.cell 15
    have a16 : W1.cell? ⟨w.heap.size, 16, none⟩ = some (.int .i64 p3) := (unhide HA1).1.cell 16
    have a17 : W1.cell? ⟨w.heap.size, 17, none⟩ = some (.int .i64 p4) := (unhide HA1).1.cell 17
    have a18 : W1.cell? ⟨w.heap.size, 18, none⟩ = some (.int .i64 p5) := (unhide HA1).1.cell 18
    have b11 : W1.cell? ⟨w.heap.size + 1, 11, none⟩ = some (.int .i64 p1) := (unhide HA1).2.cell 11
    have b12 : W1.cell? ⟨w.heap.size + 1, 12, none⟩ = some (.int .i64 p2) := (unhide HA1).2.cell 12
    have b13 : W1.cell? ⟨w.heap.size + 1, 13, none⟩ = some (.int .i64 p3) := (unhide HA1).2.cell 13
    go_wp2_with fail
    refine (size_true p1 p2 p3 p4 p5 _).mono ?_
    rintro x W2 ⟨rfl, hb2⟩
    go_wp2
    go_ret
    exact ⟨rfl, (unhide HBW).trans (hb2.mono (unhide HBW).size)⟩

set_option maxRecDepth 100000 in
set_option maxHeartbeats 6400000 in
theorem op_litno (text fl : ByteArray) (st en vb vs ix arg w1 w2 w3 w4 w5 p1 p2 p3 p4 p5 : Int) (h37 : vb ≠ 37) (w : World) :
    Calls Tryd.prog 12 #[.agg #[.string text, .int .i64 st, .int .i64 en, .string fl, .int .i32 vb, .int .i64 vs, .int .i64 en, .int .i64 ix, .int .i64 arg, .int .i64 w1, .int .i64 w2, .int .i64 w3, .int .i64 w4, .int .i64 w5, .int .i64 p1, .int .i64 p2, .int .i64 p3, .int .i64 p4, .int .i64 p5], .agg #[.string text, .int .i64 st, .int .i64 en, .string fl, .int .i32 vb, .int .i64 vs, .int .i64 ix, .int .i64 arg, .int .i64 w1, .int .i64 w2, .int .i64 w3, .int .i64 p1, .int .i64 p2, .int .i64 p3]] w fun x w' => x = .returned (.bool true) ∧ Below w.heap.size w w' := by
    have b37 : (vb == 37) = false := by rw [beq_eq_false_iff_ne]; exact h37
    clear h37
    go_enter Tryd.func12, Tryd.ntmps12
    go_wp2_with fail
    refine (size_true w1 w2 w3 w4 w5 _).mono ?_
    rintro x W1 ⟨rfl, hb1⟩
    have hA : Blk ((w.alloc (.cells #[.string text, .int .i64 st, .int .i64 en, .string fl, .int .i32 vb, .int .i64 vs, .int .i64 en, .int .i64 ix, .int .i64 arg, .int .i64 w1, .int .i64 w2, .int .i64 w3, .int .i64 w4, .int .i64 w5, .int .i64 p1, .int .i64 p2, .int .i64 p3, .int .i64 p4, .int .i64 p5] 32)).alloc (.cells #[.string text, .int .i64 st, .int .i64 en, .string fl, .int .i32 vb, .int .i64 vs, .int .i64 ix, .int .i64 arg, .int .i64 w1, .int .i64 w2, .int .i64 w3, .int .i64 p1, .int .i64 p2, .int .i64 p3] 26)) w.heap.size 32 #[.string text, .int .i64 st, .int .i64 en, .string fl, .int .i32 vb, .int .i64 vs, .int .i64 en, .int .i64 ix, .int .i64 arg, .int .i64 w1, .int .i64 w2, .int .i64 w3, .int .i64 w4, .int .i64 w5, .int .i64 p1, .int .i64 p2, .int .i64 p3, .int .i64 p4, .int .i64 p5] := (Blk.new w 32 _).alloc _
    have hB : Blk ((w.alloc (.cells #[.string text, .int .i64 st, .int .i64 en, .string fl, .int .i32 vb, .int .i64 vs, .int .i64 en, .int .i64 ix, .int .i64 arg, .int .i64 w1, .int .i64 w2, .int .i64 w3, .int .i64 w4, .int .i64 w5, .int .i64 p1, .int .i64 p2, .int .i64 p3, .int .i64 p4, .int .i64 p5] 32)).alloc (.cells #[.string text, .int .i64 st, .int .i64 en, .string fl, .int .i32 vb, .int .i64 vs, .int .i64 ix, .int .i64 arg, .int .i64 w1, .int .i64 w2, .int .i64 w3, .int .i64 p1, .int .i64 p2, .int .i64 p3] 26)) (w.heap.size + 1) 26 #[.string text, .int .i64 st, .int .i64 en, .string fl, .int .i32 vb, .int .i64 vs, .int .i64 ix, .int .i64 arg, .int .i64 w1, .int .i64 w2, .int .i64 w3, .int .i64 p1, .int .i64 p2, .int .i64 p3] := by
      have := Blk.new (w.alloc (.cells #[.string text, .int .i64 st, .int .i64 en, .string fl, .int .i32 vb, .int .i64 vs, .int .i64 en, .int .i64 ix, .int .i64 arg, .int .i64 w1, .int .i64 w2, .int .i64 w3, .int .i64 w4, .int .i64 w5, .int .i64 p1, .int .i64 p2, .int .i64 p3, .int .i64 p4, .int .i64 p5] 32)) 26 #[.string text, .int .i64 st, .int .i64 en, .string fl, .int .i32 vb, .int .i64 vs, .int .i64 ix, .int .i64 arg, .int .i64 w1, .int .i64 w2, .int .i64 w3, .int .i64 p1, .int .i64 p2, .int .i64 p3]
      simpa using this
    have hA1 := hA.below hb1 hA.lt
    have hB1 := hB.below hb1 hB.lt
    have HBW := hide (((((Below.refl w.heap.size w).alloc (Nat.le_refl _) (.cells #[.string text, .int .i64 st, .int .i64 en, .string fl, .int .i32 vb, .int .i64 vs, .int .i64 en, .int .i64 ix, .int .i64 arg, .int .i64 w1, .int .i64 w2, .int .i64 w3, .int .i64 w4, .int .i64 w5, .int .i64 p1, .int .i64 p2, .int .i64 p3, .int .i64 p4, .int .i64 p5] 32)).alloc (by simp) (.cells #[.string text, .int .i64 st, .int .i64 en, .string fl, .int .i32 vb, .int .i64 vs, .int .i64 ix, .int .i64 arg, .int .i64 w1, .int .i64 w2, .int .i64 w3, .int .i64 p1, .int .i64 p2, .int .i64 p3] 26)).trans (hb1.mono (by simp; omega))))
    have HA1 := hide (And.intro hA1 hB1)
    clear hA hB hb1 hA1 hB1
    have a14 : W1.cell? ⟨w.heap.size, 14, none⟩ = some (.int .i64 p1) := (unhide HA1).1.cell 14
    have a15 : W1.cell? ⟨w.heap.size, 15, none⟩ = some (.int .i64 p2) := (unhide HA1).1.cell 15
    have a16 : W1.cell? ⟨w.heap.size, 16, none⟩ = some (.int .i64 p3) := (unhide HA1).1.cell 16
    have a17 : W1.cell? ⟨w.heap.size, 17, none⟩ = some (.int .i64 p4) := (unhide HA1).1.cell 17
    have a18 : W1.cell? ⟨w.heap.size, 18, none⟩ = some (.int .i64 p5) := (unhide HA1).1.cell 18
    have b11 : W1.cell? ⟨w.heap.size + 1, 11, none⟩ = some (.int .i64 p1) := (unhide HA1).2.cell 11
    have b12 : W1.cell? ⟨w.heap.size + 1, 12, none⟩ = some (.int .i64 p2) := (unhide HA1).2.cell 12
    have b13 : W1.cell? ⟨w.heap.size + 1, 13, none⟩ = some (.int .i64 p3) := (unhide HA1).2.cell 13
    go_wp2_with fail
    refine (size_true p1 p2 p3 p4 p5 _).mono ?_
    rintro x W2 ⟨rfl, hb2⟩
    go_wp2
    go_ret
    exact ⟨rfl, (unhide HBW).trans (hb2.mono (unhide HBW).size)⟩

theorem op_true (x : IOp) (o : SO) (h : OM o x) (w : World) : Calls Tryd.prog 12 #[.agg (iCells x), .agg (soC o)] w fun e w' => e = .returned (.bool true) ∧ Below w.heap.size w w' := by
  obtain ⟨text, st, en, fl, vb, vs, ve, ix, arg, ⟨w1, w2, w3, w4, w5⟩, ⟨p1, p2, p3, p4, p5⟩⟩ := x
  obtain ⟨text', st', en', fl', vb', vs', ix', arg', ⟨x1, x2, x3⟩, ⟨y1, y2, y3⟩⟩ := o
  obtain ⟨e1, e2, e3, e4, e5, e6, e7, e8, e9, ⟨f1, f2, f3⟩, ⟨g1, g2, g3⟩⟩ := h
  simp only at e1 e2 e3 e4 e5 e6 e7 e8 e9 f1 f2 f3 g1 g2 g3
  subst e1 e2 e3 e4 e5 e6 e8 f1 f2 f3 g1 g2 g3
  subst e7
  by_cases h37 : vb = 37
  · exact op_lit37 _ _ _ _ _ _ _ _ _ _ _ _ _ _ _ _ _ _ _ h37 w
  · obtain rfl := e9.resolve_left h37
    exact op_litno _ _ _ _ _ _ _ _ _ _ _ _ _ _ _ _ _ _ h37 w
end Go.Proofs.YtjbmphfgckhaeaaDoor
namespace Go.Proofs.YtjbmphfgckhaeaaDoor
open Go.RowKit

def SopAny : Prop := ∀ (g : Nat) (t : ByteArray) (st : Nat) (nx first : Int) (w : World), Blk w g 60 (rCells t st nx first) → t.size ≤ 4096 → st < t.size → 0 ≤ nx → nx ≤ 100000000 → 0 ≤ first → first ≤ 1000000 → G w → 4 ≤ g →
    Calls Tryd.prog 20 #[.pointer (some ⟨g, 0, none⟩)] w (SpP g t first (spOp t.data.toList first st nx) w)

/-! ### Bounds -/
theorem spW_bd {t : ByteArray} {first : Int} {q q' : SS} {B : Int} (hB : 3000000 ≤ B) (hf0 : 0 ≤ first) (hf1 : first ≤ 1000000) (h : QB t q B) (he : spW t.data.toList first q = .good q') : QB t q' (B + 1) := by
  obtain ⟨h1, h2, h3, h4⟩ := h
  unfold spW at he
  split at he
  · rename_i hb
    have hlt := lt_of_at hb
    have hz := star_bd (q := q) ⟨h1, h2, h3, h4⟩ hB hf0 hf1
    injection he with he
    subst he
    exact ⟨by show 0 ≤ 999999; omega, by show q.a + 1 ≤ t.size; omega, hz.1, hz.2⟩
  · split at he
    · split at he
      · cases he
      · cases hd : spDig t.data.toList q.a with
        | bad => rw [hd] at he; cases he
        | opn => rw [hd] at he; cases he
        | good x =>
          rw [hd, R3.bind_good] at he
          injection he with he
          subst he
          exact ⟨h1, (spDig_bd h2 hd).2, h3, by show q.nx ≤ _; omega⟩
    · injection he with he
      subst he
      exact ⟨h1, h2, h3, by omega⟩
theorem spP_bd {t : ByteArray} {first : Int} {q q' : SS} {B : Int} (hB : 3000000 ≤ B) (hf0 : 0 ≤ first) (hf1 : first ≤ 1000000) (h : QB t q B) (he : spP t.data.toList first q = .good q') : QB t q' (B + 1) := by
  obtain ⟨h1, h2, h3, h4⟩ := h
  unfold spP at he
  split at he
  · rename_i hb
    have hlt := lt_of_at hb
    split at he
    · cases he
    · cases hx : spBr t.data.toList (q.a + 1) with
      | bad => rw [hx] at he; cases he
      | opn => rw [hx] at he; cases he
      | good x =>
        rw [hx, R3.bind_good] at he
        obtain ⟨hx1, hx2⟩ := spBr_bd (by omega) hx
        split at he
        · rename_i hb2
          have hlt2 := lt_of_at hb2
          have hz : 0 ≤ (starZ first q.nx x.1).dyn + 1 ∧ (starZ first q.nx x.1).dyn + 1 ≤ B + 1 := star_bd (q := { q with n := x.1 }) ⟨hx1, h2, h3, h4⟩ hB hf0 hf1
          injection he with he
          subst he
          exact ⟨by show 0 ≤ 999999; omega, by show x.2 + 1 ≤ t.size; omega, hz.1, hz.2⟩
        · split at he
          · split at he
            · cases he
            · cases hd : spDig t.data.toList x.2 with
              | bad => rw [hd] at he; cases he
              | opn => rw [hd] at he; cases he
              | good y =>
                rw [hd, R3.bind_good] at he
                injection he with he
                subst he
                exact ⟨by show 0 ≤ 999999; omega, (spDig_bd hx2 hd).2, h3, by show q.nx ≤ _; omega⟩
          · cases he
  · injection he with he
    subst he
    exact ⟨h1, h2, h3, by omega⟩
theorem spL_bd {t : ByteArray} {q q' : SS} {B : Int} (h : QB t q B) (he : spL t.data.toList q = .good q') : QB t q' B := by
  obtain ⟨h1, h2, h3, h4⟩ := h
  unfold spL at he
  split at he
  · cases hx : spBr t.data.toList q.a with
    | bad => rw [hx] at he; cases he
    | opn => rw [hx] at he; cases he
    | good x =>
      rw [hx, R3.bind_good] at he
      obtain ⟨hx1, hx2⟩ := spBr_bd h2 hx
      injection he with he
      subst he
      exact ⟨hx1, hx2, h3, h4⟩
  · injection he with he
    subst he
    exact ⟨h1, h2, h3, h4⟩
theorem spOp_bd {t : ByteArray} {first : Int} {st : Nat} {nx : Int} {o : SO} {b : Nat} {nx' B : Int} (hB : 3000000 ≤ B) (hf0 : 0 ≤ first) (hf1 : first ≤ 1000000) (hst : st < t.size) (h0 : 0 ≤ nx) (h1 : nx ≤ B) (he : spOp t.data.toList first st nx = .good (o, b, nx')) :
    0 ≤ nx' ∧ nx' ≤ B + 3 ∧ st + 2 ≤ b ∧ b ≤ t.size := by
  have hl := size_data t
  have hpos : st + 2 ≤ b ∧ b ≤ t.size := by
    have hr := op_rel (l := t.data.toList) (i := st) (first := first) (nx0 := nx) (by omega)
    rw [he] at hr
    obtain ⟨x, k1, k2, k3, k4⟩ : ∃ x, opM (t.data.toList.drop st) first nx = some x ∧ OM o (iop (t.data.toList.drop st) st x) ∧ b = st + x.n ∧ nx' = nextA x nx := hr
    have hll : (t.data.toList.drop st).length = t.data.toList.length - st := List.length_drop
    obtain ⟨⟨a1, a2, a3⟩, hlt, hr, hw⟩ := op_place (by omega) k1
    have hne : (t.data.toList.drop st).drop x.st.nb ≠ [] := by
      intro h0
      have := congrArg List.length h0
      simp only [List.length_drop, List.length_nil] at this
      omega
    have hdw := dec_width _ hne
    rw [← hw] at hdw
    simp only [List.length_drop] at hdw
    have hxn : x.n = x.st.nb + x.w := rfl
    omega
  refine ⟨?_, ?_, hpos⟩ <;>
  · unfold spOp at he
    cases hx : spBr t.data.toList (rE isF t.data.toList (st + 1)) with
    | bad => rw [hx] at he; cases he
    | opn => rw [hx] at he; cases he
    | good x =>
      rw [hx, R3.bind_good] at he
      obtain ⟨hx1, hx2⟩ := spBr_bd (rE_le' isF t (st + 1) (by omega)) hx
      cases hs1 : spW t.data.toList first (ssV t.data.toList st nx x) with
      | bad => rw [hs1] at he; cases he
      | opn => rw [hs1] at he; cases he
      | good q1 =>
        rw [hs1, R3.bind_good] at he
        have b1 := spW_bd hB hf0 hf1 (q := ssV t.data.toList st nx x) ⟨hx1, hx2, h0, h1⟩ hs1
        cases hs2 : spP t.data.toList first q1 with
        | bad => rw [hs2] at he; cases he
        | opn => rw [hs2] at he; cases he
        | good q2 =>
          rw [hs2, R3.bind_good] at he
          have b2 := spP_bd (by omega) hf0 hf1 b1 hs2
          cases hs3 : spL t.data.toList q2 with
          | bad => rw [hs3] at he; cases he
          | opn => rw [hs3] at he; cases he
          | good q3 =>
            rw [hs3, R3.bind_good] at he
            obtain ⟨c1, c2, c3, c4⟩ := spL_bd b2 hs3
            unfold spV at he
            split at he
            · cases he
            · split at he
              · cases he
              · injection he with he
                injection he with _ he
                injection he with _ he
                subst he
                unfold argV
                split
                · omega
                · split <;> omega

/-! ### The walk -/
def flatS (os : List SO) : List Value := os.flatMap fun o => (soC o).toList
theorem flatS_snoc (os : List SO) (o : SO) : flatS (os ++ [o]) = flatS os ++ (soC o).toList := by
  unfold flatS
  rw [List.flatMap_append]
  simp only [List.flatMap_cons, List.flatMap_nil, List.append_nil]
/-- What is collected so far. -/
def SpR (t : ByteArray) (first : Int) (T : R3 (List SO)) (w : World) (g f a : Nat) (nx : Int) (n : Nat) (v : Value) (wr : World) : Prop :=
  ∃ os : List SO, os.length = n ∧ T = (spFrom t.data.toList first f a nx).bind (fun r => .good (os ++ r)) ∧ t.size - a < f ∧ n ≤ a ∧
    wr.ownsRow w.heap.size 26 14 v n (flatS os) ∧ Blk wr g 60 (rCells t a nx first) ∧ Below w.heap.size w wr
def SpPost (r : R3 (List SO)) (w : World) (e : Ending) (w' : World) : Prop :=
  match r with
  | .good os => ∃ v : Value, e = .returned (.tuple #[v, .int .i64 0]) ∧ w'.ownsRow w.heap.size 26 14 v os.length (flatS os) ∧ Below w.heap.size w w'
  | .bad => e = .returned (.tuple #[.slice none 0 0, .int .i64 1]) ∧ Below w.heap.size w w'
  | .opn => e = .returned (.tuple #[.slice none 0 0, .int .i64 2]) ∧ Below w.heap.size w w'
theorem bind_at {l : L} {first : Int} {f a : Nat} {nx : Int} (hf : 1 ≤ f) (ha : a < l.length) (hc : l[a]? = some 37) :
    spFrom l first f a nx = (spOp l first a nx).bind fun x => (spFrom l first (f - 1) x.2.1 x.2.2).bind fun r => .good (x.1 :: r) := by
  obtain ⟨k, rfl⟩ : ∃ k, f = k + 1 := ⟨f - 1, by omega⟩
  rw [spFrom, if_pos ha, if_pos hc]
  rfl
theorem bind_skip {l : L} {first : Int} {f a : Nat} {nx : Int} (hf : 1 ≤ f) (ha : a < l.length) (hc : l[a]? ≠ some 37) : spFrom l first f a nx = spFrom l first (f - 1) (a + 1) nx := by
  obtain ⟨k, rfl⟩ : ∃ k, f = k + 1 := ⟨f - 1, by omega⟩
  rw [spFrom, if_pos ha, if_neg hc]
  rfl
theorem bind_end {l : L} {first : Int} {f a : Nat} {nx : Int} (hf : 1 ≤ f) (ha : ¬ a < l.length) : spFrom l first f a nx = .good [] := by
  obtain ⟨k, rfl⟩ : ∃ k, f = k + 1 := ⟨f - 1, by omega⟩
  rw [spFrom, if_neg ha]
theorem someR_cons {os : List SO} (h : 0 < os.length) : someR (.good os) = .good os := by
  cases os with
  | nil => cases h
  | cons x r => rfl
theorem bind_assoc {α : Type} (r : R3 (List α)) (os : List α) (x : α) : (r.bind fun s => .good (x :: s)).bind (fun s => .good (os ++ s)) = r.bind fun s => .good ((os ++ [x]) ++ s) := by
  cases r with
  | bad => rfl
  | opn => rfl
  | good s =>
    show R3.good (os ++ x :: s) = .good ((os ++ [x]) ++ s)
    simp
theorem info26b : (Tryd.prog.info? 26).map (fun i => (i.zero, i.size, i.bytes)) = some (some (.agg ZC), 14, 128) := by kernel_rfl
theorem one_cells14 (x : SO) (u : Value) (h : u ∈ (soC x).toList) : u.oneCell' = true := by
  simp only [soC, oC, List.mem_cons, List.not_mem_nil, or_false] at h
  rcases h with h | h | h | h | h | h | h | h | h | h | h | h | h | h <;> (subst h; rfl)
/-- A new box for an operation of the reference. -/
structure BoxP (W : World) (Ls : List Value) (x : SO) (W1 : World) : Prop where
  eq : W1 = (W.alloc (.cells #[.string ⟨#[]⟩, .int .i64 0, .int .i64 0, .string ⟨#[]⟩, .int .i32 0, .int .i64 0, .int .i64 0, .int .i64 0, .int .i64 0, .int .i64 0, .int .i64 0, .int .i64 0, .int .i64 0, .int .i64 0] 26)).setCells W.heap.size 0 Ls.toArray.toList
  th : (W.alloc (.cells #[.string ⟨#[]⟩, .int .i64 0, .int .i64 0, .string ⟨#[]⟩, .int .i32 0, .int .i64 0, .int .i64 0, .int .i64 0, .int .i64 0, .int .i64 0, .int .i64 0, .int .i64 0, .int .i64 0, .int .i64 0] 26)).there W.heap.size 0 Ls.toArray.size
  i1 : (Tryd.prog.info? 26).map (·.size) = some Ls.length
  i2 : (Tryd.prog.info? 26).map (·.size) = some Ls.toArray.size
  oc : Ls.toArray.all (·.oneCell') = true
  rg : W1.rangeAt W.heap.size 0 Ls
  ls : Ls = (soC x).toList
  bw : Below W.heap.size W W1
theorem box_pack (W : World) (x : SO) : ∃ (Ls : List Value) (W1 : World), BoxP W Ls x W1 := by
  refine ⟨(soC x).toList, _, rfl, there_blk (Blk.new W 26 #[.string ⟨#[]⟩, .int .i64 0, .int .i64 0, .string ⟨#[]⟩, .int .i32 0, .int .i64 0, .int .i64 0, .int .i64 0, .int .i64 0, .int .i64 0, .int .i64 0, .int .i64 0, .int .i64 0, .int .i64 0]) rfl, info26, info26, by simp [soC, oC, Value.oneCell'], ?_, rfl, ?_⟩
  · exact ((Blk.new W 26 #[.string ⟨#[]⟩, .int .i64 0, .int .i64 0, .string ⟨#[]⟩, .int .i32 0, .int .i64 0, .int .i64 0, .int .i64 0, .int .i64 0, .int .i64 0, .int .i64 0, .int .i64 0, .int .i64 0, .int .i64 0]).cells_all (soC x) rfl).range
  · exact below_cells ((Below.refl _ _).alloc (Nat.le_refl _) _) (Nat.le_refl _) 0 _
end Go.Proofs.YtjbmphfgckhaeaaDoor
namespace Go.Proofs.YtjbmphfgckhaeaaDoor
open Go.RowKit

set_option maxRecDepth 100000 in
set_option maxHeartbeats 12800000 in
theorem sparse_any (hop : SopAny) (t : ByteArray) (idx : Int) (w : World) (hG : G w) (hs : t.size ≤ 4096) (hi0 : 0 ≤ idx) (hi1 : idx ≤ 2000) :
    Calls Tryd.prog 13 #[.string t, .int .i64 idx] w (SpPost (spParse t.data.toList idx) w) := by
  obtain ⟨T, hT⟩ : ∃ T, spFrom t.data.toList (idx + 1) (t.data.toList.length + 1) 0 (idx + 1) = T := ⟨_, rfl⟩
  have hsp : spParse t.data.toList idx = someR T := by rw [← hT]; rfl
  rw [hsp]
  have HT := hide hT
  have HL := hide (size_data t)
  have h4 := hG.big
  clear hT hsp
  obtain ⟨i0, hi, hz0, hz1, hz2⟩ := info_parts info26b
  have HZ0 := hide hz0
  have HZ1 := hide hz1
  have HZ2 := hide hz2
  clear hz0 hz1 hz2
  go_enter Tryd.func13, Tryd.ntmps13
  go_wp2
  go_loopg [4] (t.size + 1) (fun f s4 wr => ∃ (a : Nat) (nx : Int) (n : Nat), a ≤ t.size ∧ t.size - a < f ∧ n ≤ a ∧ 0 ≤ nx ∧ nx ≤ 4000000 + 3 * (a : Int) ∧ Hid (SpR t (idx + 1) T w w.heap.size f a nx n s4 wr))
  case atStart =>
    refine ⟨0, idx + 1, 0, Nat.zero_le _, by omega, Nat.le_refl _, by omega, by omega, [], rfl, ?_, by omega, Nat.le_refl _, ⟨rfl, .inl ⟨rfl, rfl⟩⟩, ?_, ?_⟩
    · rw [← unhide HT, unhide HL]
      cases spFrom t.data.toList (idx + 1) (t.data.toList.length + 1) 0 (idx + 1) <;> rfl
    · exact Blk.congr (Blk.new w 60 _) rfl
    · exact (Below.refl _ _).alloc (Nat.le_refl _) _
  case round =>
    obtain ⟨a, nx, n, hat, hGk, hna, hx0, hx1, hR⟩ := hrel
    by_cases hlt : a < t.size
    · have hll : a < t.data.toList.length := by rw [← unhide HL]; exact hlt
      have hj0 : (0 : Int) ≤ (a : Int) := by omega
      have hj1 : (a : Int) < (t.size : Int) := by omega
      have hd : decide (a < t.size) = true := decide_eq_true hlt
      obtain ⟨os, r1, r2, r3, r4, r5, r6, r7⟩ := unhide hR
      have c1 : wr.cell? ⟨w.heap.size, 1, none⟩ = some (.int .i64 a) := r6.cell 1
      have f1 := r6.frozen 1
      have hbz := r7.size
      by_cases hc : t[a] = 37
      · have hne : ((t[a].toNat : Int) != 37) = false := by rw [hc]; rfl
        have hce : t.data.toList[a]? = some 37 := by rw [get_data t a hlt, hc]
        have hT2 := r2.trans (by rw [bind_at (by omega) hll hce] : _ = (((spOp t.data.toList (idx + 1) a nx).bind fun x => (spFrom t.data.toList (idx + 1) (gk - 1) x.2.1 x.2.2).bind fun r => .good (x.1 :: r)).bind (fun r => .good (os ++ r))))
        have HT2 := hide hT2
        have HX := hide (And.intro r1 (And.intro r4 (And.intro r5 (And.intro r6 r7))))
        have hGr : G wr := hG.below r7 h4
        clear hc hce hT2 r1 r2 r3 r4 r5 r6 r7 hR
        go_wp2_with fail
        refine (hop w.heap.size t a nx (idx + 1) wr (unhide HX).2.2.2.1 hs hlt hx0 (by omega) (by omega) (by omega) hGr (by omega)).mono ?_
        cases hso : spOp t.data.toList (idx + 1) a nx with
        | bad =>
          rintro e W2 ⟨xo, b2, nx2, rfl, hB2, hg2⟩
          have HE : Hid (T = .bad) := by
            show T = .bad
            rw [unhide HT2, hso]
            rfl
          have hb2 : Below w.heap.size w W2 := (unhide HX).2.2.2.2.trans (only_to_below hg2 (Nat.le_refl _) hbz)
          have HB2 := hide hb2
          clear hso c1 f1 hB2 hg2 hb2
          obtain ⟨Ls, W3, hbx⟩ := box_pack W2 xo
          have HBX := hide hbx
          clear hbx
          go_wp2_with (first | (refine wpList_store_mid rfl 26 (.tmp 7) (.tmp 40) rfl W2.heap.size 0 Ls.toArray rfl (congrArg Value.agg (by rw [(unhide HBX).ls])) (unhide HBX).th (unhide HBX).i2 (unhide HBX).oc ?_; rw [← (unhide HBX).eq]) | (refine wpList_load_mid rfl 26 (.tmp 7) rfl W2.heap.size 0 rfl Ls _ (unhide HBX).rg Tryd.underlying26 rfl (unhide HBX).i1 ?_))
          go_ret2
          rw [unhide HE]
          exact ⟨rfl, (unhide HB2).trans ((unhide HBX).bw.mono (unhide HB2).size)⟩
        | opn =>
          rintro e W2 ⟨xo, b2, nx2, rfl, hB2, hg2⟩
          have HE : Hid (T = .opn) := by
            show T = .opn
            rw [unhide HT2, hso]
            rfl
          have hb2 : Below w.heap.size w W2 := (unhide HX).2.2.2.2.trans (only_to_below hg2 (Nat.le_refl _) hbz)
          have HB2 := hide hb2
          clear hso c1 f1 hB2 hg2 hb2
          obtain ⟨Ls, W3, hbx⟩ := box_pack W2 xo
          have HBX := hide hbx
          clear hbx
          go_wp2_with (first | (refine wpList_store_mid rfl 26 (.tmp 7) (.tmp 40) rfl W2.heap.size 0 Ls.toArray rfl (congrArg Value.agg (by rw [(unhide HBX).ls])) (unhide HBX).th (unhide HBX).i2 (unhide HBX).oc ?_; rw [← (unhide HBX).eq]) | (refine wpList_load_mid rfl 26 (.tmp 7) rfl W2.heap.size 0 rfl Ls _ (unhide HBX).rg Tryd.underlying26 rfl (unhide HBX).i1 ?_))
          go_ret2
          rw [unhide HE]
          exact ⟨rfl, (unhide HB2).trans ((unhide HBX).bw.mono (unhide HB2).size)⟩
        | good y =>
          obtain ⟨xo, b, nx2⟩ := y
          obtain ⟨k0, k1, k2, k3⟩ := spOp_bd (B := 4000000 + 3 * (a : Int)) (by omega) (by omega) (by omega) hlt hx0 hx1 hso
          have hT3 : T = (spFrom t.data.toList (idx + 1) (gk - 1) b nx2).bind (fun r => .good ((os ++ [xo]) ++ r)) := by
            rw [unhide HT2, hso, R3.bind_good, bind_assoc]
          rintro e W2 ⟨he, hB2, hg2⟩
          have hb2 : Below w.heap.size w W2 := (unhide HX).2.2.2.2.trans (only_to_below hg2 (Nat.le_refl _) hbz)
          have hown2 := (unhide HX).2.2.1.kept (w' := W2) hg2 (.inr (by
            rcases (unhide HX).2.2.1.2 with ⟨h0, _⟩ | ⟨g', cap', cur, hv, hBg, hcur, _⟩
            · rw [h0]; simp [Value.ownBlock]
            · have := own_blk_ne (unhide HX).2.2.1 (unhide HX).2.2.2.1 (by decide)
              exact this))
          obtain ⟨text, st, en, fl, vb, vs, ix, arg, ⟨w1, w2, w3⟩, ⟨p1, p2, p3⟩⟩ := xo
          obtain ⟨Ls, W3, hbx⟩ := box_pack W2 ⟨text, st, en, fl, vb, vs, ix, arg, ⟨w1, w2, w3⟩, ⟨p1, p2, p3⟩⟩
          have hbw := hbx.bw
          have hown3 := hown2.kept (w' := W3) (row := none) ⟨hbw.os, hbw.tape, hbw.output, hbw.size, fun j hj _ => hbw.block j hj⟩ (Classical.em _)
          have HRL : Hid (W3.rangeAt W2.heap.size 0 (#[.string text, .int .i64 st, .int .i64 en, .string fl, .int .i32 vb, .int .i64 vs, .int .i64 ix, .int .i64 arg, .int .i64 w1, .int .i64 w2, .int .i64 w3, .int .i64 p1, .int .i64 p2, .int .i64 p3] : Array Value).toList) := by
            have h5 := hbx.rg
            rw [hbx.ls] at h5
            exact h5
          have HEQ : Hid (#[.string text, .int .i64 st, .int .i64 en, .string fl, .int .i32 vb, .int .i64 vs, .int .i64 ix, .int .i64 arg, .int .i64 w1, .int .i64 w2, .int .i64 w3, .int .i64 p1, .int .i64 p2, .int .i64 p3] = Ls.toArray) := by
            show _ = _
            rw [hbx.ls]
            rfl
          have hB3 := hB2.below hbw hB2.lt
          have hb3 := hb2.trans (hbw.mono hb2.size)
          have hbs : w.heap.size ≤ W3.heap.size := hb3.size
          have HBX := hide hbx
          have HX3 := hide (And.intro hT3 (And.intro hB3 hb3))
          replace he : e = .returned (.tuple #[.agg #[.string text, .int .i64 st, .int .i64 en, .string fl, .int .i32 vb, .int .i64 vs, .int .i64 ix, .int .i64 arg, .int .i64 w1, .int .i64 w2, .int .i64 w3, .int .i64 p1, .int .i64 p2, .int .i64 p3], .int .i64 0]) := he
          subst he
          have C1 : Hid (∀ j u, (#[.string text, .int .i64 st, .int .i64 en, .string fl, .int .i32 vb, .int .i64 vs, .int .i64 ix, .int .i64 arg, .int .i64 w1, .int .i64 w2, .int .i64 w3, .int .i64 p1, .int .i64 p2, .int .i64 p3] : Array Value).toList[j]? = some u → (W3.alloc (.cells (#[.string text, .int .i64 st, .int .i64 en, .string fl, .int .i32 vb, .int .i64 vs, .int .i64 ix, .int .i64 arg, .int .i64 w1, .int .i64 w2, .int .i64 w3, .int .i64 p1, .int .i64 p2, .int .i64 p3] : Array Value) 26)).cell? ((⟨W3.heap.size, 0, none⟩ : Addr).add j) = some u) := new_cells W3 26 (#[.string text, .int .i64 st, .int .i64 en, .string fl, .int .i32 vb, .int .i64 vs, .int .i64 ix, .int .i64 arg, .int .i64 w1, .int .i64 w2, .int .i64 w3, .int .i64 p1, .int .i64 p2, .int .i64 p3] : Array Value)
          have C2 : Hid (∀ u ∈ (#[.string text, .int .i64 st, .int .i64 en, .string fl, .int .i32 vb, .int .i64 vs, .int .i64 ix, .int .i64 arg, .int .i64 w1, .int .i64 w2, .int .i64 w3, .int .i64 p1, .int .i64 p2, .int .i64 p3] : Array Value).toList, u.oneCell' = true) := one_cells14 ⟨text, st, en, fl, vb, vs, ix, arg, ⟨w1, w2, w3⟩, ⟨p1, p2, p3⟩⟩
          have C3 : Hid (n + 1 ≤ maxLen) := by show _ ≤ _; unfold maxLen; omega
          have C4 : Hid ((n + 1) * 128 ≤ 140737488355328) := by show _ ≤ _; omega
          have C5 : Hid (w.heap.size ≤ (W3.alloc (.cells (#[.string text, .int .i64 st, .int .i64 en, .string fl, .int .i32 vb, .int .i64 vs, .int .i64 ix, .int .i64 arg, .int .i64 w1, .int .i64 w2, .int .i64 w3, .int .i64 p1, .int .i64 p2, .int .i64 p3] : Array Value) 26)).heap.size) := by show _ ≤ _; simp; omega
          clear hso c1 f1 hB2 hg2 hb2 hown2 hbx hbw hT3 hB3 hb3
          go_wp2_with (first | (refine wpList_store_mid rfl 26 (.tmp 7) (.tmp 40) rfl W2.heap.size 0 Ls.toArray rfl (congrArg Value.agg (unhide HEQ)) (unhide HBX).th (unhide HBX).i2 (unhide HBX).oc ?_; rw [← (unhide HBX).eq]) | (refine wpList_load_mid rfl 26 (.tmp 7) rfl W2.heap.size 0 rfl (#[.string text, .int .i64 st, .int .i64 en, .string fl, .int .i32 vb, .int .i64 vs, .int .i64 ix, .int .i64 arg, .int .i64 w1, .int .i64 w2, .int .i64 w3, .int .i64 p1, .int .i64 p2, .int .i64 p3] : Array Value).toList _ (unhide HRL) Tryd.underlying26 rfl (by kernel_rfl) ?_) | (at_builtin; refine wpList_append_own _ rfl _ _ 37 rfl w.heap.size 26 i0 (.agg ZC) 14 128 Tryd.underlying37 hi (unhide HZ0) (unhide HZ1) (unhide HZ2) rfl (by decide) _ _ _ rfl (hown3.alloc _) ⟨W3.heap.size, 0, none⟩ 1 1 (#[.string text, .int .i64 st, .int .i64 en, .string fl, .int .i32 vb, .int .i64 vs, .int .i64 ix, .int .i64 arg, .int .i64 w1, .int .i64 w2, .int .i64 w3, .int .i64 p1, .int .i64 p2, .int .i64 p3] : Array Value).toList rfl rfl (unhide C1) (unhide C2) (unhide C3) (unhide C4) (unhide C5) ?_; intro v' W5 hown5 hg5 _; have HG5 := hide hg5; clear hg5))
          go_roundg (gk - 1)
          case measure => omega
          case rel =>
            obtain ⟨hT3, hB3, hb3⟩ := unhide HX3
            have hg5 := unhide HG5
            have h3a := hown3.alloc (.cells #[.string text, .int .i64 st, .int .i64 en, .string fl, .int .i32 vb, .int .i64 vs, .int .i64 ix, .int .i64 arg, .int .i64 w1, .int .i64 w2, .int .i64 w3, .int .i64 p1, .int .i64 p2, .int .i64 p3] 26)
            refine ⟨b, nx2, n + 1, k3, by omega, by omega, k0, by omega, os ++ [⟨text, st, en, fl, vb, vs, ix, arg, ⟨w1, w2, w3⟩, ⟨p1, p2, p3⟩⟩], by rw [List.length_append, (unhide HX).1]; rfl, hT3, by omega, by omega, ?_, ?_, ?_⟩
            · rw [flatS_snoc]
              exact hown5
            · exact (hB3.alloc _).grown hg5 (own_blk_ne h3a (hB3.alloc _) (by decide)).symm
            · exact (hb3.alloc hbs _).grown hg5 (by simp; omega) (fun j hj => (h3a.lt j hj).1)
      · have hne : ((t[a].toNat : Int) != 37) = true := by rw [bne_iff_ne]; intro e5; exact hc (UInt8.toNat_inj.1 (by simpa using Int.ofNat.inj e5))
        have hce : t.data.toList[a]? ≠ some 37 := by
          rw [get_data t a hlt]
          intro e5
          exact hc (Option.some.inj e5)
        have hT2 := r2.trans (by rw [bind_skip (by omega) hll hce] : _ = (spFrom t.data.toList (idx + 1) (gk - 1) (a + 1) nx).bind (fun r => .good (os ++ r)))
        have HX := hide (And.intro r1 (And.intro hT2 (And.intro r5 (And.intro r6 r7))))
        clear hc hce hT2 r1 r2 r3 r4 r5 r6 r7 hR
        go_wp2
        go_roundg (gk - 1)
        case measure => omega
        case rel =>
          obtain ⟨x1, x2, x3, x4, x5⟩ := unhide HX
          refine ⟨a + 1, nx, n, by omega, by omega, by omega, hx0, by omega, os, x1, x2, by omega, by omega, x3.kept (row := some w.heap.size) (only_setCell (p := ⟨w.heap.size, 1, none⟩) (World.grownBy.refl _ _) (Or.inl rfl) _) (.inr (own_blk_ne x3 x4 (by decide))), ?_, x5.setCell (Nat.le_refl _) _⟩
          exact Blk.congr (x4.set_ 1 _) (by simp [rCells])
    · have hd : decide (a < t.size) = false := decide_eq_false hlt
      obtain ⟨os, r1, r2, r3, r4, r5, r6, r7⟩ := unhide hR
      have hTe : T = .good os := by
        rw [r2, bind_end (by omega) (by rw [← unhide HL]; exact hlt), R3.bind_good, List.append_nil]
      have c1 : wr.cell? ⟨w.heap.size, 1, none⟩ = some (.int .i64 a) := r6.cell 1
      rcases r5.2 with ⟨hv, hx⟩ | ⟨g', cap, cur, hv, hrest⟩
      · have hn0 : n = 0 := hx
        subst hv
        have HE : Hid (T = .good []) := by
          show T = _
          rw [hTe]
          rw [hn0] at r1
          rw [List.eq_nil_of_length_eq_zero r1]
        have HX := hide r7
        clear r1 r2 r3 r4 r5 r6 r7 hR hTe hx hn0
        go_wp2
        go_ret2
        rw [unhide HE]
        exact ⟨rfl, unhide HX⟩
      · subst hv
        by_cases hn : n = 0
        · have hz : ((n : Int) == 0) = true := by rw [beq_iff_eq]; omega
          have HE : Hid (T = .good []) := by
            show T = _
            rw [hTe]
            rw [hn] at r1
            rw [List.eq_nil_of_length_eq_zero r1]
          have HX := hide r7
          clear r1 r2 r3 r4 r5 r6 r7 hR hTe hrest hn
          go_wp2
          go_ret2
          rw [unhide HE]
          exact ⟨rfl, unhide HX⟩
        · have hz : ((n : Int) == 0) = false := by rw [beq_eq_false_iff_ne]; omega
          have HE : Hid (someR T = .good os) := by
            show someR T = _
            rw [hTe]
            exact someR_cons (by omega)
          have HX := hide (And.intro r1 (And.intro r5 r7))
          clear r1 r2 r3 r4 r5 r6 r7 hR hTe hrest hn
          go_wp2
          go_ret2
          rw [unhide HE]
          exact ⟨_, rfl, by rw [(unhide HX).1]; exact (unhide HX).2.1, (unhide HX).2.2⟩
end Go.Proofs.YtjbmphfgckhaeaaDoor
