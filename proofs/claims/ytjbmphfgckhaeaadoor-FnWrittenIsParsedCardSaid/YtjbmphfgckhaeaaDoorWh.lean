/-
  parseIndex and parseSize as the functions pIdx and szM: the walks of their ways joined. Conditions: the parser's blocks, places within the text, numbers far from int's ends.
-/
import Derived.Test.YtjbmphfgckhaeaaDoorWe
import Derived.Test.YtjbmphfgckhaeaaDoorWf1
import Derived.Test.YtjbmphfgckhaeaaDoorWf2
import Derived.Test.YtjbmphfgckhaeaaDoorWf3
import Derived.Test.YtjbmphfgckhaeaaDoorWgp0
import Derived.Test.YtjbmphfgckhaeaaDoorWgp1
import Derived.Test.YtjbmphfgckhaeaaDoorWgs0
import Derived.Test.YtjbmphfgckhaeaaDoorWgs1
import Derived.Test.YtjbmphfgckhaeaaDoorWgn0
import Derived.Test.YtjbmphfgckhaeaaDoorWgn1
import Derived.Test.YtjbmphfgckhaeaaDoorWgo
namespace Go.Proofs.YtjbmphfgckhaeaaDoor
open Go.RowKit

/-- Places within the text, numbers within bounds. -/
structure OkSt (l : L) (A : Int) (st : St) : Prop where
  nb : st.nb ≤ l.length
  a0 : 0 ≤ st.an
  a1 : st.an ≤ A
  p0 : 0 ≤ st.ip
  p1 : st.ip ≤ (l.length : Int)
theorem OkSt.mono {l : L} {A A' : Int} {st : St} (h : OkSt l A st) (hA : A ≤ A') : OkSt l A' st := ⟨h.nb, h.a0, Int.le_trans h.a1 hA, h.p0, h.p1⟩
theorem OkSt.idx {l : L} {A first : Int} {st st' : St} (h : OkSt l A st) (hA : 3147483647 ≤ A) (hf0 : 0 ≤ first) (hf1 : first ≤ 1000000000) (he : pIdx l first st = some st') : OkSt l A st' := by
  unfold pIdx at he
  split at he
  · rename_i hb
    have hlt := (List.getElem?_eq_some_iff.1 hb).1
    split at he
    · rename_i hc
      have hle := (List.getElem?_eq_some_iff.1 hc.2.1).1
      have h3 := hc.2.2.2
      have h4 := hc.2.2.1
      unfold mx32 at h3
      injection he with he
      subst he
      refine ⟨?_, ?_, ?_, ?_, ?_⟩ <;> simp only <;> omega
    · cases he
  · injection he with he
    subst he
    exact h
theorem OkSt.sz {l : L} {A : Int} {st : St} (k : Nat) (h : OkSt l A st) : OkSt l (A + 1) (szM k l st) := by
  obtain ⟨h1, h2, h3, h4, h5⟩ := h
  have hr := rE_le isD l st.nb h1
  unfold szM put
  split
  · rename_i hb
    have hlt := (List.getElem?_eq_some_iff.1 hb).1
    split <;> refine ⟨?_, ?_, ?_, ?_, ?_⟩ <;> simp only <;> omega
  · split
    · split <;> refine ⟨?_, ?_, ?_, ?_, ?_⟩ <;> simp only <;> omega
    · refine ⟨?_, ?_, ?_, ?_, ?_⟩ <;> simp only <;> omega

section
variable {s o : Nat} {t : ByteArray} {first : Int} {st : St} {w : World} {B : Nat}
theorem idx_some {st' : St} (h : PS w s o t first st) (hBs : B ≤ s) (hB4 : 4 ≤ B) (hG : G w) (hs : t.size ≤ 140737488351232) (hf0 : 0 ≤ first) (hf1 : first ≤ 1000000000) (hn : st.nb ≤ t.size)
    (he : pIdx t.data.toList first st = some st') : Calls Tryd.prog 40 #[.pointer (some ⟨s, 0, none⟩)] w (OkP s o t first st' w B .nilIface) := by
  unfold pIdx at he
  by_cases hb : t.data.toList[st.nb]? = some 91
  · rw [if_pos hb] at he
    split at he
    · rename_i hc
      injection he with he
      subst he
      have h3 := hc.2.2.2
      unfold mx32 at h3
      exact idx_ok s o t first st w B _ (st.nb + 1) _ h hBs hB4 hG hs hf0 hf1 hb rfl rfl hc.1 hc.2.1 rfl (by omega) (by omega)
    · cases he
  · rw [if_neg hb] at he
    injection he with he
    subst he
    exact idx_none s o t first st w B h hn hb
theorem idx_fail (h : PS w s o t first st) (hBs : B ≤ s) (hB4 : 4 ≤ B) (hG : G w) (hs : t.size ≤ 140737488351232)
    (he : pIdx t.data.toList first st = none) : Calls Tryd.prog 40 #[.pointer (some ⟨s, 0, none⟩)] w (BadP w B) := by
  unfold pIdx at he
  by_cases hb : t.data.toList[st.nb]? = some 91
  · rw [if_pos hb] at he
    split at he
    · cases he
    · rename_i hc
      have hlt := (List.getElem?_eq_some_iff.1 hb).1
      have hsz := size_data t
      have hle := rE_le isD t.data.toList (st.nb + 1) (by omega)
      have hge := rE_ge isD t.data.toList (st.nb + 1)
      by_cases h2 : rE isD t.data.toList (st.nb + 1) = t.size
      · exact idx_syn3 s o t first st w B _ _ h hBs hB4 hG hs hb rfl rfl h2
      · have hlt2 : rE isD t.data.toList (st.nb + 1) < t.size := by omega
        by_cases h1 : st.nb + 1 = rE isD t.data.toList (st.nb + 1)
        · exact idx_syn2 s o t first st w B _ _ h hBs hB4 hG hs hb rfl rfl h1 hlt2
        · have hae : st.nb + 1 < rE isD t.data.toList (st.nb + 1) := by omega
          by_cases h3 : t[rE isD t.data.toList (st.nb + 1)] = 93
          · have h3' : t.data.toList[rE isD t.data.toList (st.nb + 1)]? = some 93 := by rw [get_data t _ hlt2, h3]
            by_cases h4 : dv (seg t.data.toList (st.nb + 1) (rE isD t.data.toList (st.nb + 1))) ≤ mx32
            · exact idx_zero s o t first st w B _ _ h hBs hB4 hG hs hb rfl rfl hae h3' (by
                rcases Nat.eq_zero_or_pos (dv (seg t.data.toList (st.nb + 1) (rE isD t.data.toList (st.nb + 1)))) with h5 | h5
                · exact h5
                · exact absurd ⟨hae, h3', h5, h4⟩ hc)
            · exact idx_over s o t first st w B _ _ h hBs hB4 hG hs hb rfl rfl hae h3' (by omega)
          · exact idx_syn1 s o t first st w B _ _ h hBs hB4 hG hs hb rfl rfl hae hlt2 h3
  · rw [if_neg hb] at he
    cases he

theorem sz0 (h : PS w s o t first st) (hBs : B ≤ s) (hBo : B ≤ o) (hB4 : 4 ≤ B) (hG : G w) (hs : t.size ≤ 140737488351232) (hok : OkSt t.data.toList 900000000000000000 st) :
    Calls Tryd.prog 41 #[.pointer (some ⟨s, 0, none⟩), .int .i64 0] w (OkP s o t first (szM 0 t.data.toList st) w B (.tuple #[])) := by
  have hsz := size_data t
  obtain ⟨h1, h2, h3, h4, h5⟩ := hok
  by_cases hb : t.data.toList[st.nb]? = some 42
  · cases hp : st.pd with
    | true => exact sz_pend0 s o t first st w B h hBs hBo hs hb hp h2 (by omega) h4 (by omega)
    | false => exact sz_star0 s o t first st w B h hBs hBo hs hb hp h2 (by omega)
  · cases hy : hasNum t.data.toList st.nb with
    | true => exact sz_num0 s o t first st w B h hBs hBo hs hb hB4 hG hy
    | false =>
      rcases Nat.lt_or_ge st.nb t.size with hlt | hge
      · exact sz_none_lt s o t first st w B h hBs hs 0 0 hb hB4 hG hy hlt
      · exact sz_none_end s o t first st w B h hBs hs 0 0 hb hB4 hG hy (by omega)
theorem sz1 (h : PS w s o t first st) (hBs : B ≤ s) (hBo : B ≤ o) (hB4 : 4 ≤ B) (hG : G w) (hs : t.size ≤ 140737488351232) (hok : OkSt t.data.toList 900000000000000000 st) :
    Calls Tryd.prog 41 #[.pointer (some ⟨s, 0, none⟩), .int .i64 1] w (OkP s o t first (szM 1 t.data.toList st) w B (.tuple #[])) := by
  have hsz := size_data t
  obtain ⟨h1, h2, h3, h4, h5⟩ := hok
  by_cases hb : t.data.toList[st.nb]? = some 42
  · cases hp : st.pd with
    | true => exact sz_pend1 s o t first st w B h hBs hBo hs hb hp h2 (by omega) h4 (by omega)
    | false => exact sz_star1 s o t first st w B h hBs hBo hs hb hp h2 (by omega)
  · cases hy : hasNum t.data.toList st.nb with
    | true => exact sz_num1 s o t first st w B h hBs hBo hs hb hB4 hG hy
    | false =>
      rcases Nat.lt_or_ge st.nb t.size with hlt | hge
      · exact sz_none_lt s o t first st w B h hBs hs 1 1 hb hB4 hG hy hlt
      · exact sz_none_end s o t first st w B h hBs hs 1 1 hb hB4 hG hy (by omega)
end
end Go.Proofs.YtjbmphfgckhaeaaDoor
