/-
  FnPlainTextMoves: the card. Whatever the input: true. No condition beyond the row's own.
-/
import Derived.Test.YtjbmphfgckhaeaaDoorLn
import Derived.Test.YtjbmphfgckhaeaaDoorFm
namespace Go.Proofs.YtjbmphfgckhaeaaDoor
open Go.RowKit

theorem law6 : Law6 := fun s t i w hs ht _ hG => by
  by_cases hb : 2147483647 < s.size ∨ 2147483647 < t.size
  · exact moves_big s t i w hs ht hb
  by_cases hc : i < 0 ∨ 1000 ≤ i
  · exact moves_nocall s t i w (by omega) (by omega) hc
  by_cases hl : 4096 < s.size + t.size
  · exact moves_long s t i w (by omega) (by omega) (by omega) (by omega) hl
  by_cases hm : (37 : UInt8) ∈ s.data.toList
  · exact moves_sign s t i w (by omega) (by omega) (by omega) (by omega) (by omega) hm
  cases hp : parseM t.data.toList i with
  | none => exact moves_none s t i w hG (by omega) (by omega) (by omega) (by omega) (by omega) hm hp
  | some xs =>
    obtain ⟨ys, hy, h2⟩ := (plain_moves s.data.toList t.data.toList i hm).some_iff hp
    rw [← append_list] at hy
    rw [← size_data] at h2
    exact moves_some s t i w hG (by omega) (by omega) (by omega) (by omega) (by omega) hm xs ys hp hy h2
/-- **FnPlainTextMoves.** -/
theorem fnPlainTextMoves_card : Rows.FnPlainTextMovesCardSaid := card6 law6
end Go.Proofs.YtjbmphfgckhaeaaDoor
