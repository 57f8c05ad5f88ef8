/-
  Parse as a plain function: the operations of a text, one behind the other. No condition.
-/
import Derived.Test.YtjbmphfgckhaeaaDoorWl
namespace Go.Proofs.YtjbmphfgckhaeaaDoor
open Go.RowKit

def nextA (x : OpR) (an : Int) : Int := if x.r = 37 then an else x.st.an + 1
def parseFrom (first : Int) : Nat → Nat → L → Int → Option (List IOp)
  | 0, _, _, _ => some []
  | _ + 1, _, [], _ => some []
  | f + 1, i, c :: r, an =>
    if c = 37 then
      (opM (c :: r) first an).bind fun x => (parseFrom first f (i + x.n) ((c :: r).drop x.n) (nextA x an)).map (iop (c :: r) i x :: ·)
    else parseFrom first f (i + 1) r an
/-- fmtstr.Parse: none: an error. -/
def parseM (l : L) (idx : Int) : Option (List IOp) := if (37 : UInt8) ∈ l then parseFrom (idx + 1) (l.length + 1) 0 l (idx + 1) else none

structure SzOk (l : L) (z : Sz) : Prop where
  a : -2 ≤ z.st
  b : z.st ≤ (l.length : Int)
  c : -2 ≤ z.en
  d : z.en ≤ (l.length : Int) + 1
theorem SzOk.no (l : L) : SzOk l Sz.no := ⟨by decide, by show (0 : Int) ≤ _; omega, by decide, by show (0 : Int) ≤ _; omega⟩
def BothOk (l : L) (s : St) : Prop := SzOk l s.wd ∧ SzOk l s.pr
theorem BothOk.idx {l : L} {first : Int} {s s' : St} (h : BothOk l s) (he : pIdx l first s = some s') : BothOk l s' := by
  unfold pIdx at he
  split at he
  · split at he
    · injection he with he; subst he; exact h
    · cases he
  · injection he with he; subst he; exact h
theorem BothOk.sz {l : L} {A : Int} {s : St} (k : Nat) (hk : k ≤ 1) (h : BothOk l s) (ho : OkSt l A s) : BothOk l (szM k l s) := by
  have hr := rE_le isD l s.nb ho.nb
  have hg := rE_ge isD l s.nb
  obtain ⟨h1, h2, h3, h4, h5⟩ := ho
  unfold szM
  split
  · rename_i hb
    have hlt := (List.getElem?_eq_some_iff.1 hb).1
    have hz : SzOk l (if s.pd then ⟨-1, s.an, s.ix, s.ip - k, s.nb + 1⟩ else ⟨-1, s.an, -1, (s.nb : Int) - k, s.nb + 1⟩) := by
      split <;> refine ⟨?_, ?_, ?_, ?_⟩ <;> simp only <;> omega
    unfold put
    split
    · exact ⟨hz, h.2⟩
    · exact ⟨h.1, hz⟩
  · split
    · have hz : SzOk l ⟨(min (dv (seg l s.nb (rE isD l s.nb))) mx32 : Nat), -1, -1, (s.nb : Int) - k, rE isD l s.nb⟩ := by
        refine ⟨?_, ?_, ?_, ?_⟩ <;> simp only <;> omega
      unfold put
      split
      · exact ⟨hz, h.2⟩
      · exact ⟨h.1, hz⟩
    · exact h
theorem op_sizes {l : L} {first an : Int} {x : OpR} (h1 : 1 ≤ l.length) (hf0 : 0 ≤ first) (hf1 : first ≤ 1000000000) (ha0 : 0 ≤ an) (A : Int) (hA : 3147483647 ≤ A) (ha1 : an ≤ A) (he : opM l first an = some x) : BothOk l x.st := by
  unfold opM at he
  obtain ⟨s1, he1, he⟩ := Option.bind_eq_some_iff.1 he
  obtain ⟨s3, he3, he⟩ := Option.bind_eq_some_iff.1 he
  obtain ⟨s4, he4, he⟩ := Option.bind_eq_some_iff.1 he
  have hok0 : OkSt l A (st0 l an) := ⟨rE_le isF l 1 h1, ha0, ha1, Int.le_refl _, by show (0 : Int) ≤ _; omega⟩
  have hok1 := hok0.idx hA hf0 hf1 he1
  have b0 : BothOk l (st0 l an) := ⟨SzOk.no l, SzOk.no l⟩
  have b1 := (b0.idx he1).sz 0 (by omega) hok1
  have hok2 := hok1.sz 0
  have b3 : BothOk l s3 := by
    unfold pPrec at he3
    by_cases hb : l[(szM 0 l s1).nb]? = some 46
    · rw [if_pos hb] at he3
      obtain ⟨s2, h2, rfl⟩ := Option.map_eq_some_iff.1 he3
      have hlt := (List.getElem?_eq_some_iff.1 hb).1
      have hok2' : OkSt l (A + 1) { (szM 0 l s1) with nb := (szM 0 l s1).nb + 1 } := ⟨by show (szM 0 l s1).nb + 1 ≤ _; omega, hok2.a0, hok2.a1, hok2.p0, hok2.p1⟩
      have b2' : BothOk l { (szM 0 l s1) with nb := (szM 0 l s1).nb + 1 } := b1
      exact (b2'.idx h2).sz 1 (by omega) (hok2'.idx (by omega) hf0 hf1 h2)
    · rw [if_neg hb] at he3
      injection he3 with he3; subst he3; exact b1
  have b4 : BothOk l s4 := by
    unfold lastIdx at he4
    split at he4
    · injection he4 with he4; subst he4; exact b3
    · exact b3.idx he4
  unfold verbM at he
  split at he
  · cases he
  · injection he with he; subst he; exact b4

/-! ### One round of Parse -/
theorem parse_end (first : Int) (g i : Nat) (an : Int) (h : 1 ≤ g) : parseFrom first g i [] an = some [] := by
  obtain ⟨k, rfl⟩ : ∃ k, g = k + 1 := ⟨g - 1, by omega⟩
  rfl
theorem drop_at {l : L} {i : Nat} (h : i < l.length) : l.drop i = l[i] :: l.drop (i + 1) := List.drop_eq_getElem_cons h
theorem parse_skip {first : Int} {g i : Nat} {l : L} {an : Int} (h1 : 1 ≤ g) (h : i < l.length) (hc : l[i] ≠ 37) : parseFrom first g i (l.drop i) an = parseFrom first (g - 1) (i + 1) (l.drop (i + 1)) an := by
  obtain ⟨k, rfl⟩ : ∃ k, g = k + 1 := ⟨g - 1, by omega⟩
  rw [drop_at h, parseFrom, if_neg hc]
  rfl
theorem parse_none {first : Int} {g i : Nat} {l : L} {an : Int} (h1 : 1 ≤ g) (h : i < l.length) (hc : l[i] = 37) (ho : opM (l.drop i) first an = none) : parseFrom first g i (l.drop i) an = none := by
  obtain ⟨k, rfl⟩ : ∃ k, g = k + 1 := ⟨g - 1, by omega⟩
  rw [drop_at h] at ho ⊢
  rw [parseFrom, if_pos hc, ho]
  rfl
theorem parse_some {first : Int} {g i : Nat} {l : L} {an : Int} {x : OpR} (h1 : 1 ≤ g) (h : i < l.length) (hc : l[i] = 37) (ho : opM (l.drop i) first an = some x) :
    parseFrom first g i (l.drop i) an = (parseFrom first (g - 1) (i + x.n) (l.drop (i + x.n)) (nextA x an)).map (iop (l.drop i) i x :: ·) := by
  obtain ⟨k, rfl⟩ : ∃ k, g = k + 1 := ⟨g - 1, by omega⟩
  have hd : (l.drop i).drop x.n = l.drop (i + x.n) := by rw [List.drop_drop]
  rw [← hd]
  rw [drop_at h] at ho ⊢
  rw [parseFrom, if_pos hc, ho]
  rfl
end Go.Proofs.YtjbmphfgckhaeaaDoor
