/-
  The walk of laws.FnWrittenIsParsed at the nil list: true. No condition.
-/
import Derived.Test.YtjbmphfgckhaeaaDoorNm
namespace Go.Proofs.YtjbmphfgckhaeaaDoor
open Go.RowKit

set_option maxRecDepth 100000 in
set_option maxHeartbeats 1600000 in
theorem told_nil (i : Int) (w : World) : Calls Tryd.prog 8 #[.slice none 0 0, .int .i64 i] w fun e w' => e = .returned (.bool true) ∧ Below w.heap.size w w' := by
  go_enter Tryd.func8, Tryd.ntmps8
  go_wp2_with fail
  refine (fits1_nil _).mono ?_
  rintro x w2 ⟨b, rfl, hf, hb2⟩
  have hB2 : Below w.heap.size w w2 := ((Below.refl _ _).alloc (Nat.le_refl _) _).trans (hb2.mono (by simp))
  have ci : w2.cell? ⟨w.heap.size, 0, none⟩ = some (.int .i64 i) := by
    rw [hb2.cell (by simp)]
    exact (Blk.new w 3 #[.int .i64 i]).cell 0
  clear hf hb2
  cases b with
  | false =>
    go_wp2
    go_ret
    exact ⟨rfl, hB2⟩
  | true =>
    by_cases hi : i < 0 ∨ 1000 ≤ i
    · have HIi := hide hi
      clear hi
      go_wp2_with fail
      refine (call_no i _ (unhide HIi)).mono ?_
      rintro x w3 ⟨rfl, rfl⟩
      go_wp2
      go_ret
      exact ⟨rfl, hB2⟩
    have i0 : 0 ≤ i := by omega
    have i1 : i < 1000 := by omega
    clear hi
    go_wp2_with fail
    refine (call_yes i _ i0 i1).mono ?_
    rintro x w3 ⟨rfl, rfl⟩
    go_wp2
    go_ret
    exact ⟨rfl, hB2⟩
end Go.Proofs.YtjbmphfgckhaeaaDoor
