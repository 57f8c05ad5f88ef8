/-
  parseOperation as the function opM: the walks of its ways joined; addOffset. Conditions: the tables and sentinels of the library, numbers far from int's ends.
-/
import Derived.Test.YtjbmphfgckhaeaaDoorWj1
import Derived.Test.YtjbmphfgckhaeaaDoorWj2
import Derived.Test.YtjbmphfgckhaeaaDoorWj3
import Derived.Test.YtjbmphfgckhaeaaDoorWj4
import Derived.Test.YtjbmphfgckhaeaaDoorWj5
namespace Go.Proofs.YtjbmphfgckhaeaaDoor
open Go.RowKit

def OpBad (w : World) (e : Ending) (w' : World) : Prop := (∃ T p, e = .returned (.tuple #[.pointer none, .iface T p])) ∧ Below w.heap.size w w'
theorem dec_ext (t : ByteArray) (n : Nat) (h : n < t.size) :
    Lib.decodeGo (t.extract n t.size) = ((dec (t.data.toList.drop n)).1, (dec (t.data.toList.drop n)).2) ∧ (dec (t.data.toList.drop n)).2 ≤ t.size - n := by
  have e : t.extract n t.size = mk (t.data.toList.drop n) := eq_mk (Lib.extract_to_end t n)
  have hne : t.data.toList.drop n ≠ [] := by
    intro h0
    have := congrArg List.length h0
    simp at this
    omega
  refine ⟨by rw [e]; rfl, ?_⟩
  have := (dec_width _ hne).2
  simpa using this
section
variable {t : ByteArray} {first an : Int} {w : World}
theorem op_some {x : OpR} (hG : G w) (hs : t.size ≤ 140737488351232) (h1 : 1 ≤ t.size) (hf0 : 0 ≤ first) (hf1 : first ≤ 1000000000) (ha0 : 0 ≤ an) (ha1 : an ≤ 800000000000000000)
    (he : opM t.data.toList first an = some x) : Calls Tryd.prog 33 #[.string t, .int .i64 first, .int .i64 an] w (OpGood t first x w) := by
  unfold opM at he
  have hsz := size_data t
  obtain ⟨s1, he1, he⟩ := Option.bind_eq_some_iff.1 he
  obtain ⟨s3, he3, he⟩ := Option.bind_eq_some_iff.1 he
  obtain ⟨s4, he4, he⟩ := Option.bind_eq_some_iff.1 he
  have hok0 : OkSt t.data.toList 800000000000000000 (st0 t.data.toList an) := ⟨rE_le isF t.data.toList 1 (by omega), ha0, ha1, Int.le_refl _, by show (0 : Int) ≤ _; omega⟩
  have hok1 := hok0.idx (by decide) hf0 hf1 he1
  have hok3 := (hok1.sz 0).prec (by decide) hf0 hf1 he3
  unfold verbM at he
  unfold lastIdx at he4
  cases hpd : s3.pd with
  | true =>
    rw [hpd, if_pos rfl] at he4
    injection he4 with he4
    subst he4
    have hn := hok3.nb'
    split at he
    · cases he
    · injection he with he
      subst he
      exact op_g1 t first an w hG hs h1 hf0 hf1 ha0 ha1 s1 he1 s3 he3 hpd _ _ (by omega) (dec_ext t s3.nb (by omega))
  | false =>
    rw [hpd, if_neg (by decide)] at he4
    have hn := (hok3.idx (by decide) hf0 hf1 he4).nb'
    split at he
    · cases he
    · injection he with he
      subst he
      cases hpd4 : s4.pd with
      | true => exact op_g2 t first an w hG hs h1 hf0 hf1 ha0 ha1 s1 he1 s3 he3 s4 he4 hpd _ _ (by omega) (dec_ext t s4.nb (by omega)) hpd4
      | false => exact op_g3 t first an w hG hs h1 hf0 hf1 ha0 ha1 s1 he1 s3 he3 s4 he4 hpd _ _ (by omega) (dec_ext t s4.nb (by omega)) hpd4
theorem op_fail (hG : G w) (hs : t.size ≤ 140737488351232) (h1 : 1 ≤ t.size) (hf0 : 0 ≤ first) (hf1 : first ≤ 1000000000) (ha0 : 0 ≤ an) (ha1 : an ≤ 800000000000000000)
    (he : opM t.data.toList first an = none) : Calls Tryd.prog 33 #[.string t, .int .i64 first, .int .i64 an] w (OpBad w) := by
  unfold opM at he
  cases he1 : pIdx t.data.toList first (st0 t.data.toList an) with
  | none => exact op_f1 t first an w hG hs h1 hf0 hf1 ha0 ha1 he1
  | some s1 =>
    rw [he1, Option.bind_some] at he
    cases he3 : pPrec t.data.toList first (szM 0 t.data.toList s1) with
    | none => exact op_f2 t first an w hG hs h1 hf0 hf1 ha0 ha1 s1 he1 he3
    | some s3 =>
      rw [he3, Option.bind_some] at he
      unfold lastIdx at he
      cases hpd : s3.pd with
      | true =>
        rw [hpd, if_pos rfl, Option.bind_some] at he
        unfold verbM at he
        split at he
        · rename_i hen
          exact op_f4a t first an w hG hs h1 hf0 hf1 ha0 ha1 s1 he1 s3 he3 hpd hen
        · cases he
      | false =>
        rw [hpd, if_neg (by decide)] at he
        cases he4 : pIdx t.data.toList first s3 with
        | none => exact op_f3 t first an w hG hs h1 hf0 hf1 ha0 ha1 s1 he1 s3 he3 hpd he4
        | some s4 =>
          rw [he4, Option.bind_some] at he
          unfold verbM at he
          split at he
          · rename_i hen
            exact op_f4b t first an w hG hs h1 hf0 hf1 ha0 ha1 s1 he1 s3 he3 s4 hpd he4 hen
          · cases he
end
/-- The state that an operation ends in is within bounds. -/
theorem op_bounds {l : L} {first an : Int} {x : OpR} (h1 : 1 ≤ l.length) (hf0 : 0 ≤ first) (hf1 : first ≤ 1000000000) (ha0 : 0 ≤ an) (A : Int) (hA : 3147483647 ≤ A) (ha1 : an ≤ A) (he : opM l first an = some x) :
    OkSt l (A + 2) x.st ∧ 1 ≤ x.w ∧ x.st.nb + x.w ≤ l.length ∧ 1 ≤ x.st.nb := by
  unfold opM at he
  obtain ⟨s1, he1, he⟩ := Option.bind_eq_some_iff.1 he
  obtain ⟨s3, he3, he⟩ := Option.bind_eq_some_iff.1 he
  obtain ⟨s4, he4, he⟩ := Option.bind_eq_some_iff.1 he
  have hok0 : OkSt l A (st0 l an) := ⟨rE_le isF l 1 h1, ha0, ha1, Int.le_refl _, by show (0 : Int) ≤ _; omega⟩
  have hok1 := hok0.idx hA hf0 hf1 he1
  have hok3 := (hok1.sz 0).prec (by omega) hf0 hf1 he3
  have hok4 : OkSt l (A + 1 + 1) s4 := by
    unfold lastIdx at he4
    split at he4
    · injection he4 with he4
      subst he4
      exact hok3
    · exact hok3.idx (by omega) hf0 hf1 he4
  have g : ∀ {s s' : St}, 1 ≤ s.nb → pIdx l first s = some s' → 1 ≤ s'.nb := by
    intro s s' h0 h
    unfold pIdx at h
    split at h
    · split at h
      · injection h with h; subst h; simp only; omega
      · cases h
    · injection h with h; subst h; exact h0
  have gs : ∀ (k : Nat) {s : St}, 1 ≤ s.nb → 1 ≤ (szM k l s).nb := by
    intro k s h0
    have := rE_ge isD l s.nb
    unfold szM put
    split
    · split <;> simp only <;> omega
    · split
      · split <;> simp only <;> omega
      · simp only; omega
  have b0 : 1 ≤ (st0 l an).nb := rE_ge isF l 1
  have b1 := gs 0 (g b0 he1)
  have b3 : 1 ≤ s3.nb := by
    unfold pPrec at he3
    split at he3
    · obtain ⟨s2, h2, rfl⟩ := Option.map_eq_some_iff.1 he3
      exact gs 1 (g (by show 1 ≤ (szM 0 l s1).nb + 1; omega) h2)
    · injection he3 with he3; subst he3; exact b1
  have b4 : 1 ≤ s4.nb := by
    unfold lastIdx at he4
    split at he4
    · injection he4 with he4; subst he4; exact b3
    · exact g b3 he4
  unfold verbM at he
  split at he
  · cases he
  · rename_i hne
    injection he with he
    subst he
    have hlt : s4.nb < l.length := by have := hok4.nb; omega
    have hd : l.drop s4.nb ≠ [] := by
      intro h0
      have := congrArg List.length h0
      simp at this
      omega
    have := dec_width _ hd
    simp only [List.length_drop] at this
    exact ⟨hok4.mono (by omega), this.1, by show s4.nb + (dec (l.drop s4.nb)).2 ≤ l.length; omega, b4⟩
end Go.Proofs.YtjbmphfgckhaeaaDoor
