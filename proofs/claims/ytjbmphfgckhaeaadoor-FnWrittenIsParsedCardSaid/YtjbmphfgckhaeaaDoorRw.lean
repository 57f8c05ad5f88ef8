/-
  impl.Parse's answer as a row of operations at a block: what a law reads of it. Conditions: those of impl.Parse.
-/
import Derived.Test.YtjbmphfgckhaeaaDoorWq
namespace Go.Proofs.YtjbmphfgckhaeaaDoor
open Go.RowKit

theorem parse_from_ne (first : Int) : ∀ (f i : Nat) (l : L) (an : Int), l.length < f → (37 : UInt8) ∈ l → parseFrom first f i l an ≠ some []
  | 0, _, _, _, hf, _ => by omega
  | f + 1, i, [], an, _, h => by simp at h
  | f + 1, i, c :: r, an, hf, h => by
    simp only [parseFrom]
    split
    · intro he
      obtain ⟨x, _, h2⟩ := Option.bind_eq_some_iff.1 he
      obtain ⟨ys, _, h4⟩ := Option.map_eq_some_iff.1 h2
      cases h4
    · rename_i hc
      have hr : (37 : UInt8) ∈ r := by
        rcases List.mem_cons.1 h with e | e
        · exact absurd e.symm hc
        · exact e
      exact parse_from_ne first f (i + 1) r an (by simp at hf; omega) hr
theorem parse_ne {l : L} {idx : Int} {xs : List IOp} (h : parseM l idx = some xs) : 0 < xs.length := by
  cases xs with
  | cons x r => simp
  | nil =>
    exfalso
    unfold parseM at h
    split at h
    · rename_i hc
      exact parse_from_ne (idx + 1) (l.length + 1) 0 l (idx + 1) (by omega) hc h
    · cases h

/-- The operations xs lie one behind the other in block g. -/
def OpsRow (w : World) (g : Nat) (xs : List IOp) : Prop := ∀ (k : Nat) (x : IOp), xs[k]? = some x → ∀ (j : Nat) (v : Value), (iCells x)[j]? = some v → w.cell? ⟨g, k * 19 + j, none⟩ = some v
theorem cell_lt_heap {w : World} {g i : Nat} {v : Value} (h : w.cell? ⟨g, i, none⟩ = some v) : g < w.heap.size := by
  rcases Nat.lt_or_ge g w.heap.size with hlt | hge
  · exact hlt
  · simp [World.cell?, Array.getElem?_eq_none hge] at h
theorem flat_at (xs : List IOp) : ∀ (k : Nat) (x : IOp), xs[k]? = some x → ∀ (j : Nat), j < 19 → (flat xs)[k * 19 + j]? = (iCells x)[j]? := by
  induction xs with
  | nil => intro k x h; cases h
  | cons y r ih =>
    intro k x h j hj
    have hl : (iCells y).toList.length = 19 := rfl
    have hf : flat (y :: r) = (iCells y).toList ++ flat r := rfl
    rw [hf]
    cases k with
    | zero =>
      simp only [List.getElem?_cons_zero, Option.some.injEq] at h
      subst h
      rw [Nat.zero_mul, Nat.zero_add, List.getElem?_append_left (by rw [hl]; exact hj), Array.getElem?_toList]
    | succ k =>
      simp only [List.getElem?_cons_succ] at h
      rw [List.getElem?_append_right (by rw [hl]; omega), hl, show (k + 1) * 19 + j - 19 = k * 19 + j from by omega]
      exact ih k x h j hj
theorem OpsRow.of {w : World} {B g n cap : Nat} {xs : List IOp} (hn : xs.length = n) (h : w.ownsRow B 32 19 (.slice (some ⟨g, 0, none⟩) n cap) n (flat xs)) : OpsRow w g xs := by
  intro k x hx j v hv
  have hk := (List.getElem?_eq_some_iff.1 hx).1
  have hj : j < 19 := (Array.getElem?_eq_some_iff.1 hv).1
  rw [h.cellAt (k * 19 + j) (by omega), flat_at xs k x hx j hj, hv]
theorem OpsRow.lt {w : World} {g : Nat} {xs : List IOp} (h : OpsRow w g xs) (hn : 0 < xs.length) : g < w.heap.size :=
  cell_lt_heap (h 0 xs[0] (List.getElem?_eq_getElem hn) 0 _ rfl)
theorem OpsRow.below {B : Nat} {w w' : World} {g : Nat} {xs : List IOp} (h : OpsRow w g xs) (hb : Below B w w') (hg : g < B) : OpsRow w' g xs := fun k x hx j v hv => by
  rw [hb.cell (p := ⟨g, k * 19 + j, none⟩) hg]
  exact h k x hx j v hv
theorem OpsRow.range {w : World} {g : Nat} {xs : List IOp} (h : OpsRow w g xs) {k : Nat} {x : IOp} (hx : xs[k]? = some x) : w.rangeAt g (k * 19) (iCells x).toList := fun j v hv => h k x hx j v (by simpa using hv)
/-- impl.Parse, of a text whose operations are known. -/
theorem iparse_row (t : ByteArray) (l : L) (idx : Int) (w : World) (xs : List IOp) (n : Nat) (hG : G w) (hs : t.size ≤ 400000000000) (hi0 : 0 ≤ idx) (hi1 : idx ≤ 999999999) (hl : t.data.toList = l) (hx : parseM l idx = some xs) (hn : xs.length = n) :
    Calls Tryd.prog 14 #[.string t, .int .i64 idx] w fun e w' => ∃ g cap : Nat, e = .returned (.tuple #[.slice (some ⟨g, 0, none⟩) n cap, .bool true]) ∧ OpsRow w' g xs ∧ g < w'.heap.size ∧ w.heap.size ≤ g ∧ Below w.heap.size w w' := by
  refine (iparse_some t l idx w xs hG hs hi0 hi1 hl hx).mono ?_
  rintro e w' ⟨v, rfl, hown, hb⟩
  rw [hn] at hown
  have hn0 := parse_ne hx
  obtain ⟨g, cap, rfl⟩ : ∃ g cap, v = .slice (some ⟨g, 0, none⟩) n cap := by
    rcases hown.2 with ⟨_, h0⟩ | ⟨g, cap, cur, hv, _⟩
    · omega
    · exact ⟨g, cap, hv⟩
  have hr := OpsRow.of hn hown
  refine ⟨g, cap, rfl, hr, hr.lt hn0, ?_, hb⟩
  rcases hown.2 with ⟨h0, _⟩ | ⟨g', cap', cur, hv, hB, _⟩
  · cases h0
  · injection hv with hv
    injection hv with hv
    injection hv with hv
    subst hv
    exact hB
end Go.Proofs.YtjbmphfgckhaeaaDoor
