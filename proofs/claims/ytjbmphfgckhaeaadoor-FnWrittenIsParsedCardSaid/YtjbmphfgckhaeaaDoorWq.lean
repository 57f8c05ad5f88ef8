/-
  laws.call: whether an index lies from 0 to 999. No condition.
-/
import Derived.Test.YtjbmphfgckhaeaaDoorWp
namespace Go.Proofs.YtjbmphfgckhaeaaDoor
open Go.RowKit

set_option maxHeartbeats 400000 in
theorem call_yes (a : Int) (w : World) (h0 : 0 ≤ a) (h1 : a < 1000) : Calls Tryd.prog 9 #[.int .i64 a] w fun e w' => e = .returned (.bool true) ∧ w = w' := by
  go_enter Tryd.func9, Tryd.ntmps9
  go_wp2
  go_ret
  exact ⟨by simp, rfl⟩
set_option maxHeartbeats 400000 in
theorem call_no (a : Int) (w : World) (h : a < 0 ∨ 1000 ≤ a) : Calls Tryd.prog 9 #[.int .i64 a] w fun e w' => e = .returned (.bool false) ∧ w = w' := by
  by_cases h0 : 0 ≤ a
  · have h1 : 1000 ≤ a := by omega
    have h2 : ¬ a < 1000 := by omega
    go_enter Tryd.func9, Tryd.ntmps9
    go_wp2
    go_ret
    exact ⟨by simp, rfl⟩
  · have h1 : a < 0 := by omega
    go_enter Tryd.func9, Tryd.ntmps9
    go_wp2
    go_ret
    exact ⟨rfl, rfl⟩
end Go.Proofs.YtjbmphfgckhaeaaDoor
