/-
  What the listed variables give the walks: the tables of unicode/utf8 and the sentinels of strconv (the predicate G), out of each row's own condition. No condition.
-/
import Derived.Test.YtjbmphfgckhaeaaDoorMem
import Derived.Test.YtjbmphfgckhaeaaDoorTie
import Derived.PinnedBridge
import Derived.Lib.LaidU8T
import Derived.LaidLaws
import Derived.Lay
namespace Go.Proofs.YtjbmphfgckhaeaaDoor
open Go.RowKit Go.Lib

theorem u8types : U8Types Tryd.prog Tryd.lays197_ren := { Tryd.lays197 with }
theorem u8extra : U8Extra Tryd.prog Tryd.lays197_ren := ⟨by kernel_rfl, by kernel_rfl, by kernel_rfl, by kernel_rfl, by kernel_rfl, by kernel_rfl, by kernel_rfl⟩
theorem gSyn : Tryd.prog.globalNamed "strconv.ErrSyntax" = some 2 := by kernel_rfl
theorem gRan : Tryd.prog.globalNamed "strconv.ErrRange" = some 3 := by kernel_rfl
theorem tSyn : (Tryd.prog.globals[2]?).map (·.type) = some 78 := by kernel_rfl
theorem tRan : (Tryd.prog.globals[3]?).map (·.type) = some 78 := by kernel_rfl
theorem accept_eq : Rows.laid_unicode_utf8_acceptRanges (H := Unit) = acceptData := by kernel_rfl

theorem sentinel_cell {w : World} {n : String} {g : Nat} {d : DataW Unit} {nm : String} (hg : Tryd.prog.globalNamed n = some g) (ht : (Tryd.prog.globals[g]?).map (·.type) = some 78)
    (h : VarReads Tryd.prog w n (.iface nm d)) : ∃ t p, w.cell? ⟨g, 0, none⟩ = some (.iface t p) := by
  obtain ⟨g', t, cs, fuel, p, hg', hty, hvar, hd⟩ := h
  obtain rfl := Option.some.inj (hg.symm.trans hg')
  obtain rfl := Option.some.inj (ht.symm.trans hty)
  obtain ⟨_, u, v, hc, _⟩ := iface_of_trod Tryd.underlying78 hd
  have := World.var?_cell hg hvar 0
  rw [Array.eq_one_of_toList hc] at this
  exact ⟨u, v, this⟩
theorem cell_lt {w : World} {g i : Nat} {v : Value} (h : w.cell? ⟨g, i, none⟩ = some v) : g < w.heap.size := by
  rcases Nat.lt_or_ge g w.heap.size with hlt | hge
  · exact hlt
  · simp [World.cell?, Array.getElem?_eq_none hge] at h
/-- G, of a world in which the seven variables read as they are listed. -/
theorem G_of {w : World} {l : List (String × DataW Unit)} (h : laidMet Tryd.prog l w) (h1 : ("unicode/utf8.first", Rows.laid_unicode_utf8_first) ∈ l) (h2 : ("unicode/utf8.acceptRanges", Rows.laid_unicode_utf8_acceptRanges) ∈ l)
    (h3 : ("strconv.ErrSyntax", Rows.laid_strconv_ErrSyntax) ∈ l) (h4 : ("strconv.ErrRange", Rows.laid_strconv_ErrRange) ∈ l) : G w := by
  have r1 : VarReads Tryd.prog w "unicode/utf8.first" firstData := Pinned.utf8First_eq ▸ laidMet.reads h h1
  have r2 : VarReads Tryd.prog w "unicode/utf8.acceptRanges" acceptData := accept_eq ▸ laidMet.reads h h2
  have hr := sentinel_cell gRan tRan (laidMet.reads h h4)
  refine ⟨utf8Tabs_of_readsT u8types u8extra r1 r2, sentinel_cell gSyn tSyn (laidMet.reads h h3), hr, ?_⟩
  obtain ⟨t, p, hr⟩ := hr
  exact cell_lt hr
/-- The witness's memory meets the list: two closed facts. -/
def laidOrder1 : List (String × DataW Unit) := Rows.fnOperationRow.laid
set_option maxRecDepth 100000 in
theorem laid_fits (os : Os) : (World.holding Tryd.prog os ⟨#[], #[], []⟩).layFits Tryd.prog Rows.fnOperationRow.laid [] = true := by kernel_rfl
end Go.Proofs.YtjbmphfgckhaeaaDoor
