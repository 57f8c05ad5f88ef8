/-
  A list of told operations, out of the reading of the law's first argument: its cells as the walks ask them. No condition.
-/
import Derived.Test.YtjbmphfgckhaeaaDoorNm
import Derived.Deep.Slices
namespace Go.Proofs.YtjbmphfgckhaeaaDoor
open Go.RowKit Go.ChangeShapes Go.WideShapes Go.Deep

theorem cells51 : Tryd.prog.cellsOf 51 = 6 := by kernel_rfl
theorem cells49 : Tryd.prog.cellsOf 49 = 1 := by kernel_rfl
theorem cells3 : Tryd.prog.cellsOf 3 = 1 := by kernel_rfl
theorem cells21 : Tryd.prog.cellsOf 21 = 1 := by kernel_rfl
theorem cells9 : Tryd.prog.cellsOf 9 = 1 := by kernel_rfl
theorem cell_far {w : World} {a : Addr} {v : Value} (h : w.cell? a = some v) : a.block < w.heap.size := by
  rcases Nat.lt_or_ge a.block w.heap.size with hlt | hge
  · exact hlt
  · simp [World.cell?, Array.getElem?_eq_none hge] at h
section
variable {H : Type} {enc : TypeId × Value → H} {W : World} {held : Bool} {fuel : Nat}
theorem ints_of {c : Value} {x : DataW H × List MemPlace} (h : DataW.trod enc Tryd.prog W 0 (fun _ => true) held fuel 49 [c] = some x) : ∃ p n cap zs, c = .slice p n cap ∧ Ints W p n zs := by
  rcases open_ints Tryd.underlying49 Tryd.underlying3 cells3 h with ⟨hc, _⟩ | ⟨a, len, cap, zs, hc, _, hl, _, hz, _, hcell, _⟩
  · injection hc with hc _
    exact ⟨none, 0, 0, [], hc, ⟨rfl, fun _ => rfl, (fun a i z h => by cases h), (fun a h => by cases h)⟩⟩
  · injection hc with hc _
    simp only [if_true] at hz
    refine ⟨some a, len, cap, zs.take len, hc, ⟨by rw [List.length_take]; omega, (fun h => by cases h), fun a' i z ha hi => ?_, fun a' ha h0 => ?_⟩⟩
    · obtain rfl := Option.some.inj ha
      have hil : i < (zs.take len).length := (List.getElem?_eq_some_iff.1 hi).1
      rw [List.length_take] at hil
      rw [List.getElem?_take, if_pos (by omega)] at hi
      rw [hcell i (by omega), List.getD, hi]
      rfl
    · obtain rfl := Option.some.inj ha
      have := cell_far (hcell 0 (by omega))
      rwa [block_add] at this
theorem len6 {α : Type} : ∀ {l : List α}, l.length = 6 → ∃ c0 c1 c2 c3 c4 c5, l = [c0, c1, c2, c3, c4, c5]
  | [c0, c1, c2, c3, c4, c5], _ => ⟨c0, c1, c2, c3, c4, c5, rfl⟩
set_option maxRecDepth 100000 in
theorem told_cell {cs : List Value} {x : DataW H × List MemPlace} (h : DataW.trod enc Tryd.prog W 0 (fun _ => true) held fuel 51 cs = some x) :
    ∃ v : TV, cs = (tvCells v).toList ∧ ∃ fs ws ps, Ints W v.p1 v.n1 fs ∧ Ints W v.p2 v.n2 ws ∧ Ints W v.p3 v.n3 ps := by
  obtain ⟨xs, n, _, _, hlen, hxl, hf⟩ := DataW.trod_struct Tryd.underlying51 h
  rw [cells51] at hlen
  obtain ⟨c0, c1, c2, c3, c4, c5, rfl⟩ := len6 hlen
  replace hxl : xs.length = 6 := hxl
  obtain ⟨x0, x1, x2, x3, x4, x5, rfl⟩ := len6 hxl
  have h0 : DataW.trod enc Tryd.prog W 0 (fun _ => true) held n 49 (([c0, c1, c2, c3, c4, c5].drop 0).take (Tryd.prog.cellsOf 49)) = some x0 := hf 0 _ rfl
  rw [cells49] at h0
  replace h0 : DataW.trod enc Tryd.prog W 0 (fun _ => true) held n 49 [c0] = some x0 := h0
  have h1 : DataW.trod enc Tryd.prog W 0 (fun _ => true) held n 49 (([c0, c1, c2, c3, c4, c5].drop 1).take (Tryd.prog.cellsOf 49)) = some x1 := hf 1 _ rfl
  rw [cells49] at h1
  replace h1 : DataW.trod enc Tryd.prog W 0 (fun _ => true) held n 49 [c1] = some x1 := h1
  have h2 : DataW.trod enc Tryd.prog W 0 (fun _ => true) held n 49 (([c0, c1, c2, c3, c4, c5].drop 2).take (Tryd.prog.cellsOf 49)) = some x2 := hf 2 _ rfl
  rw [cells49] at h2
  replace h2 : DataW.trod enc Tryd.prog W 0 (fun _ => true) held n 49 [c2] = some x2 := h2
  have h3 : DataW.trod enc Tryd.prog W 0 (fun _ => true) held n 3 (([c0, c1, c2, c3, c4, c5].drop 3).take (Tryd.prog.cellsOf 3)) = some x3 := hf 3 _ rfl
  rw [cells3] at h3
  replace h3 : DataW.trod enc Tryd.prog W 0 (fun _ => true) held n 3 [c3] = some x3 := h3
  have h4 : DataW.trod enc Tryd.prog W 0 (fun _ => true) held n 21 (([c0, c1, c2, c3, c4, c5].drop 4).take (Tryd.prog.cellsOf 21)) = some x4 := hf 4 _ rfl
  rw [cells21] at h4
  replace h4 : DataW.trod enc Tryd.prog W 0 (fun _ => true) held n 21 [c4] = some x4 := h4
  have h5 : DataW.trod enc Tryd.prog W 0 (fun _ => true) held n 9 (([c0, c1, c2, c3, c4, c5].drop 5).take (Tryd.prog.cellsOf 9)) = some x5 := hf 5 _ rfl
  rw [cells9] at h5
  replace h5 : DataW.trod enc Tryd.prog W 0 (fun _ => true) held n 9 [c5] = some x5 := h5
  obtain ⟨p1, n1, k1, fs, rfl, i1⟩ := ints_of h0
  obtain ⟨p2, n2, k2, ws, rfl, i2⟩ := ints_of h1
  obtain ⟨p3, n3, k3, ps, rfl, i3⟩ := ints_of h2
  obtain ⟨ix, e3, _, _⟩ := DataW.trod_int Tryd.underlying3 h3
  obtain ⟨vb, e4, _, _⟩ := DataW.trod_int Tryd.underlying21 h4
  obtain ⟨tx, e5, _, _⟩ := DataW.trod_string Tryd.underlying9 h5
  injection e3 with e3 _
  injection e4 with e4 _
  injection e5 with e5 _
  subst e3
  subst e4
  subst e5
  exact ⟨⟨p1, n1, k1, p2, n2, k2, p3, n3, k3, ix, vb, tx⟩, rfl, fs, ws, ps, i1, i2, i3⟩
instance : Inhabited TV := ⟨⟨none, 0, 0, none, 0, 0, none, 0, 0, 0, 0, ⟨#[]⟩⟩⟩
theorem told_open {a0 : Option Addr} {n cap : Nat} {x : DataW H × List MemPlace} (h : DataW.trod enc Tryd.prog W 0 (fun _ => true) held fuel 47 [.slice a0 n cap] = some x) :
    (a0 = none ∧ n = 0 ∧ cap = 0) ∨ ∃ a vs, a0 = some a ∧ vs.length = n ∧ Lies W a vs ∧ (0 < n → a.block < W.heap.size) ∧ ∀ v ∈ vs, ∃ fs ws ps, Ints W v.p1 v.n1 fs ∧ Ints W v.p2 v.n2 ws ∧ Ints W v.p3 v.n3 ps := by
  rcases open_slice Tryd.underlying47 h with ⟨hc, _⟩ | ⟨a, len, cap', m, k, D, Pl, hc, _, hl, _, hm, _, hel⟩
  · injection hc with hc _
    injection hc with h1 h2 h3
    exact .inl ⟨h1, h2, h3⟩
  right
  injection hc with hc _
  injection hc with h1 h2 h3
  subst h1
  subst h2
  subst h3
  simp only [if_true] at hm
  subst hm
  obtain ⟨f, hf⟩ := choose_lt (α := TV) (n := n) (p := fun i v => W.cells? 0 (a.add (i * 6)) 6 = some (tvCells v).toList ∧ ∃ fs ws ps, Ints W v.p1 v.n1 fs ∧ Ints W v.p2 v.n2 ws ∧ Ints W v.p3 v.n3 ps) (fun i hi => by
    obtain ⟨cs', hcs, ht⟩ := hel i (by omega)
    rw [cells51] at hcs
    obtain ⟨v, rfl, hI⟩ := told_cell ht
    exact ⟨v, hcs, hI⟩)
  have hcell : ∀ i, i < n → ∀ j v, (tvCells (f i)).toList[j]? = some v → W.cell? ((a.add (i * 6)).add j) = some v := fun i hi j v hj => by
    obtain ⟨_, hl6, hc⟩ := World.cells?_some (hf i hi).1
    rw [← hj]
    exact hc j (by have := (List.getElem?_eq_some_iff.1 hj).1; omega)
  refine ⟨a, (List.range n).map f, rfl, by simp, fun i v hv => ?_, fun h0 => ?_, fun v hv => ?_⟩
  · rw [List.getElem?_map] at hv
    have hi : i < n := by
      rcases Nat.lt_or_ge i n with hi | hi
      · exact hi
      · rw [List.getElem?_eq_none (by simpa using hi)] at hv
        cases hv
    rw [List.getElem?_range hi] at hv
    obtain rfl := Option.some.inj hv
    exact hcell i hi
  · have := cell_far (hcell 0 h0 0 _ rfl)
    rwa [block_add, block_add] at this
  · obtain ⟨i, hi, rfl⟩ := List.mem_map.1 hv
    exact (hf i (List.mem_range.1 hi)).2
end
end Go.Proofs.YtjbmphfgckhaeaaDoor
