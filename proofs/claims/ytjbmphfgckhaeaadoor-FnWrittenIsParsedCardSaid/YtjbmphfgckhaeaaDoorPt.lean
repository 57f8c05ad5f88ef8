/-
  Where the texts of the operations stand: a law about parseM alone. No condition.
-/
import Derived.Test.YtjbmphfgckhaeaaDoorPar
import Derived.Lib.MapLaws
namespace Go.Proofs.YtjbmphfgckhaeaaDoor

theorem bN (n : Nat) (z : Int) (h : z = n) : UInt8.ofNat n = z.toNat.toUInt8 := by
  subst h
  simp
theorem enc_bad : (Utf8.encode (-1)).data.toList = Lib.encodeRune (-1) := by decide
theorem enc_inv (r s : Int) (hr : Utf8.valid r = false) (hs : Utf8.valid s = false) : Utf8.encode r = Utf8.encode s := by
  unfold Utf8.encode
  rw [hr, hs]
  rfl
theorem enc_good (n : Nat) (hv : n < 55296 ∨ (57344 ≤ n ∧ n ≤ 1114111)) : (Utf8.encode (n : Int)).data.toList = Lib.encodeRune (n : Int) := by
  have hb : Utf8.valid (n : Int) = true := by
    unfold Utf8.valid
    simp only [Bool.or_eq_true, Bool.and_eq_true, decide_eq_true_eq]
    omega
  have hz : ∀ r : Int, Lib.encodeRune r = (Lib.encodeRuneZ r).map fun x => x.toNat.toUInt8 := fun _ => rfl
  rw [hz]
  unfold Utf8.encode
  simp only [hb, if_true, Int.toNat_natCast]
  by_cases h1 : n < 128
  · rw [if_pos h1, Lib.encodeRuneZ_one (by omega) (by omega)]
    simp only [List.map_cons, List.map_nil]
    rw [bN n n rfl]
  · rw [if_neg h1]
    by_cases h2 : n < 2048
    · rw [if_pos h2, Lib.encodeRuneZ_two (by omega) (by omega)]
      simp only [List.map_cons, List.map_nil]
      rw [bN _ (192 + (n : Int) / 64) (by omega), bN _ (128 + (n : Int) % 64) (by omega)]
    · rw [if_neg h2]
      by_cases h3 : n < 65536
      · rw [if_pos h3, Lib.encodeRuneZ_three (by omega)]
        simp only [List.map_cons, List.map_nil]
        rw [bN _ (224 + (n : Int) / 4096) (by omega), bN _ (128 + (n : Int) / 64 % 64) (by omega), bN _ (128 + (n : Int) % 64) (by omega)]
      · rw [if_neg h3, Lib.encodeRuneZ_four (by omega) (by omega)]
        simp only [List.map_cons, List.map_nil]
        rw [bN _ (240 + (n : Int) / 262144) (by omega), bN _ (128 + (n : Int) / 4096 % 64) (by omega), bN _ (128 + (n : Int) / 64 % 64) (by omega), bN _ (128 + (n : Int) % 64) (by omega)]
theorem enc_list (r : Int) : (Utf8.encode r).data.toList = Lib.encodeRune r := by
  by_cases hv : (0 ≤ r ∧ r < 55296) ∨ (57344 ≤ r ∧ r ≤ 1114111)
  · obtain ⟨n, rfl⟩ : ∃ n : Nat, r = n := ⟨r.toNat, by omega⟩
    exact enc_good n (by omega)
  · have hb : Utf8.valid r = false := by
      unfold Utf8.valid
      rw [Bool.eq_false_iff]
      simp only [ne_eq, Bool.or_eq_true, Bool.and_eq_true, decide_eq_true_eq]
      omega
    rw [enc_inv r (-1) hb (by decide), enc_bad]
    unfold Lib.encodeRune
    rw [Lib.encodeRuneZ_bad (by omega), Lib.encodeRuneZ_bad (by omega)]
theorem dec_L (l : L) (h : l ≠ []) : dec l = Lib.decodeL l := by
  have hs : ¬ (mk l).size = 0 := by
    rw [mk_size']
    intro e
    exact h (List.eq_nil_of_length_eq_zero e)
  have := Lib.decodeL_drop (mk l) 0
  rw [List.drop_zero, mk_data] at this
  unfold dec Lib.decodeGo
  rw [if_neg hs, this]

/-- Where a state stands. -/
structure Pl (l : L) (s : St) : Prop where
  lo : 1 ≤ s.nb
  hi : s.nb ≤ l.length
  ip : s.pd = true → 1 ≤ s.ip ∧ s.ip < s.nb
theorem Pl.idx {l : L} {first : Int} {s s' : St} (h : Pl l s) (he : pIdx l first s = some s') : Pl l s' := by
  obtain ⟨a, b, c⟩ := h
  unfold pIdx at he
  split at he
  · split at he
    · rename_i hc
      have hr := (List.getElem?_eq_some_iff.1 hc.2.1).1
      have hr0 := hc.1
      injection he with he
      subst he
      exact ⟨by show 1 ≤ rE isD l (s.nb + 1) + 1; omega, by show rE isD l (s.nb + 1) + 1 ≤ _; omega, fun _ => ⟨by show 1 ≤ (s.nb : Int); omega, by show (s.nb : Int) < ((rE isD l (s.nb + 1) + 1 : Nat) : Int); omega⟩⟩
    · cases he
  · injection he with he
    subst he
    exact ⟨a, b, c⟩
theorem Pl.sz {l : L} {s : St} (k : Nat) (h : Pl l s) : Pl l (szM k l s) := by
  obtain ⟨a, b, c⟩ := h
  have hr := rE_le isD l s.nb b
  have hg := rE_ge isD l s.nb
  unfold szM
  split
  · rename_i hb
    have hlt := (List.getElem?_eq_some_iff.1 hb).1
    unfold put
    split <;> exact ⟨by show 1 ≤ s.nb + 1; omega, by show s.nb + 1 ≤ _; omega, fun h => by cases h⟩
  · split
    · unfold put
      split <;> exact ⟨by show 1 ≤ rE isD l s.nb; omega, hr, fun h => ⟨(c h).1, by have := (c h).2; show s.ip < ((rE isD l s.nb : Nat) : Int); omega⟩⟩
    · exact ⟨by show 1 ≤ rE isD l s.nb; omega, hr, fun h => ⟨(c h).1, by have := (c h).2; show s.ip < ((rE isD l s.nb : Nat) : Int); omega⟩⟩
theorem Pl.prec {l : L} {first : Int} {s s' : St} (h : Pl l s) (he : pPrec l first s = some s') : Pl l s' := by
  unfold pPrec at he
  split at he
  · rename_i hb
    have hlt := (List.getElem?_eq_some_iff.1 hb).1
    obtain ⟨s2, h2, rfl⟩ := Option.map_eq_some_iff.1 he
    have hp : Pl l { s with nb := s.nb + 1 } := ⟨by show 1 ≤ s.nb + 1; omega, by show s.nb + 1 ≤ _; omega, fun hh => ⟨(h.ip hh).1, by have := (h.ip hh).2; show s.ip < ((s.nb + 1 : Nat) : Int); omega⟩⟩
    exact (hp.idx h2).sz 1
  · injection he with he
    subst he
    exact h
theorem op_place {l : L} {first an : Int} {x : OpR} (h1 : 1 ≤ l.length) (he : opM l first an = some x) :
    Pl l x.st ∧ x.st.nb < l.length ∧ x.r = (dec (l.drop x.st.nb)).1 ∧ x.w = (dec (l.drop x.st.nb)).2 := by
  unfold opM at he
  obtain ⟨s1, he1, he⟩ := Option.bind_eq_some_iff.1 he
  obtain ⟨s3, he3, he⟩ := Option.bind_eq_some_iff.1 he
  obtain ⟨s4, he4, he⟩ := Option.bind_eq_some_iff.1 he
  have p0 : Pl l (st0 l an) := ⟨rE_ge isF l 1, rE_le isF l 1 h1, fun h => by cases h⟩
  have p3 := ((p0.idx he1).sz 0).prec he3
  have p4 : Pl l s4 := by
    unfold lastIdx at he4
    split at he4
    · injection he4 with he4
      subst he4
      exact p3
    · exact p3.idx he4
  unfold verbM at he
  split at he
  · cases he
  · rename_i hne
    injection he with he
    subst he
    have := p4.hi
    exact ⟨p4, by show s4.nb < _; omega, rfl, rfl⟩

/-- Where an operation's text stands: behind p, up to q. -/
def TxOk (l : L) (p : Nat) (x : IOp) (q : Nat) : Prop :=
  ∃ s v : Nat, x.st = s ∧ x.en = q ∧ x.ve = q ∧ x.vs = v ∧ p ≤ s ∧ s < v ∧ v < q ∧ q ≤ l.length ∧ x.text = mk (seg l s q) ∧ l[s]? = some 37 ∧ 0 ≤ x.vb ∧ x.vb ≤ 1114111 ∧
    (x.vb ≠ 65533 → ∃ m : Nat, (Utf8.encode x.vb).size = m ∧ v + m ≤ q ∧ Utf8.encode x.vb = mk (seg l (q - m) q))
def Chain (l : L) : Nat → List IOp → Prop
  | _, [] => True
  | p, x :: r => ∃ q, TxOk l p x q ∧ Chain l q r
theorem Chain.mono {l : L} {p p' : Nat} (hp : p' ≤ p) : ∀ {xs : List IOp}, Chain l p xs → Chain l p' xs
  | [], _ => True.intro
  | _ :: _, ⟨q, ⟨s, v, h1, h2, h3, h4, h5, h6⟩, hr⟩ => ⟨q, ⟨s, v, h1, h2, h3, h4, by omega, h6⟩, hr⟩
theorem tx_one {l : L} {first an : Int} {i : Nat} {x : OpR} (hi : i < l.length) (hc : l[i] = 37) (ho : opM (l.drop i) first an = some x) : TxOk l i (iop (l.drop i) i x) (i + x.n) := by
  have hll : (l.drop i).length = l.length - i := List.length_drop
  obtain ⟨⟨a, b, c⟩, hlt, hr, hw⟩ := op_place (by omega) ho
  have hne : (l.drop i).drop x.st.nb ≠ [] := by
    intro h0
    have := congrArg List.length h0
    simp only [List.length_drop, List.length_nil] at this
    omega
  have hdw := dec_width _ hne
  rw [← hw] at hdw
  simp only [List.length_drop] at hdw
  have hxn : x.n = x.st.nb + x.w := rfl
  have hvs : ∃ v : Nat, x.vs + i = v ∧ i < v ∧ v ≤ i + x.st.nb := by
    unfold OpR.vs
    split
    · rename_i hp
      have := c hp
      exact ⟨(x.st.ip + i).toNat, by omega, by omega, by omega⟩
    · exact ⟨x.st.nb + i, by omega, by omega, by omega⟩
  obtain ⟨v, hv1, hv2, hv3⟩ := hvs
  have hdl := dec_L _ hne
  refine ⟨i, v, rfl, ?_, ?_, hv1, Nat.le_refl _, hv2, by omega, by omega, ?_, ?_, ?_, ?_, ?_⟩
  · show ((x.n : Nat) : Int) + i = ((i + x.n : Nat) : Int)
    omega
  · show ((x.n : Nat) : Int) + i = ((i + x.n : Nat) : Int)
    omega
  · show mk ((l.drop i).take x.n) = _
    unfold seg
    rw [show i + x.n - i = x.n from by omega]
  · rw [List.getElem?_eq_getElem hi, hc]
  · show (0 : Int) ≤ (x.r : Int)
    omega
  · show (x.r : Int) ≤ 1114111
    have := Lib.decodeL_rune ((l.drop i).drop x.st.nb)
    rw [hr, hdl]
    omega
  · intro hvb
    have hvb' : (Lib.decodeL ((l.drop i).drop x.st.nb)).1 ≠ 65533 := by
      rw [← hdl, ← hr]
      intro e
      exact hvb (by show (x.r : Int) = 65533; omega)
    have he : (Utf8.encode (x.r : Int)).data.toList = ((l.drop i).drop x.st.nb).take x.w := by
      rw [hr, hw, hdl, enc_list]
      exact Lib.encode_decode _ hne (fun h => hvb' h.1)
    have hm : (Utf8.encode (x.r : Int)).size = x.w := by
      rw [size_data, he]
      simp only [List.length_take, List.length_drop]
      omega
    have hseg : ((l.drop i).drop x.st.nb).take x.w = seg l (i + x.n - x.w) (i + x.n) := by
      have e1 : i + x.n - x.w = i + x.st.nb := by omega
      have e2 : i + x.n - (i + x.st.nb) = x.w := by omega
      unfold seg
      rw [List.drop_drop, e1, e2]
    have hfin : Utf8.encode (x.r : Int) = mk (seg l (i + x.n - x.w) (i + x.n)) := eq_mk (he.trans hseg)
    exact ⟨x.w, hm, by omega, hfin⟩
theorem chain_from (first : Int) (l : L) : ∀ (f i : Nat) (an : Int) (xs : List IOp), parseFrom first f i (l.drop i) an = some xs → Chain l i xs
  | 0, _, _, xs, h => by
    injection h with h
    subst h
    exact True.intro
  | f + 1, i, an, xs, h => by
    by_cases hi : i < l.length
    · by_cases hc : l[i] = 37
      · cases ho : opM (l.drop i) first an with
        | none =>
          rw [parse_none (by omega) hi hc ho] at h
          cases h
        | some x =>
          rw [parse_some (by omega) hi hc ho] at h
          obtain ⟨ys, h1, rfl⟩ := Option.map_eq_some_iff.1 h
          exact ⟨i + x.n, tx_one hi hc ho, chain_from first l f _ _ ys h1⟩
      · rw [parse_skip (by omega) hi hc] at h
        exact (chain_from first l f _ _ xs h).mono (by omega)
    · rw [List.drop_eq_nil_of_le (by omega), parse_end _ _ _ _ (by omega)] at h
      injection h with h
      subst h
      exact True.intro
theorem chain_of {l : L} {idx : Int} {xs : List IOp} (h : parseM l idx = some xs) : Chain l 0 xs := by
  unfold parseM at h
  split at h
  · exact chain_from (idx + 1) l _ 0 _ xs (by rwa [List.drop_zero])
  · cases h
theorem Chain.nth {l : L} {x : IOp} : ∀ {xs : List IOp} {p k : Nat}, Chain l p xs → xs[k]? = some x → ∃ p' q, TxOk l p' x q
  | [], _, _, _, h => by cases h
  | y :: r, p, 0, ⟨q, h1, _⟩, h => by
    simp only [List.getElem?_cons_zero, Option.some.injEq] at h
    subst h
    exact ⟨p, q, h1⟩
  | y :: r, p, k + 1, ⟨q, _, h2⟩, h => by
    simp only [List.getElem?_cons_succ] at h
    exact Chain.nth h2 h
theorem st_bounds {l : L} {idx : Int} {xs : List IOp} (h : parseM l idx = some xs) {k : Nat} {x : IOp} (hx : xs[k]? = some x) : 0 ≤ x.st ∧ x.st ≤ l.length := by
  obtain ⟨p, q, s, v, h1, _, _, _, _, h2, h3, h4, _⟩ := (chain_of h).nth hx
  omega
end Go.Proofs.YtjbmphfgckhaeaaDoor
