/-
  laws.impl0: package impl parses "%d": true. Conditions: the library's tables and sentinels.
-/
import Derived.Test.YtjbmphfgckhaeaaDoorWo
namespace Go.Proofs.YtjbmphfgckhaeaaDoor
open Go.RowKit

theorem parse_d : (parseM [37, 100] 0).map (fun l => l.map (·.vb)) = some [100] := by kernel_rfl
theorem one_of {r : Option (List IOp)} (h : r.map (fun l => l.map (·.vb)) = some [100]) : ∃ x, r = some [x] ∧ x.vb = 100 := by
  cases r with
  | none => cases h
  | some l =>
    cases l with
    | nil => simp at h
    | cons x r =>
      simp at h
      exact ⟨x, by rw [h.2], h.1⟩
/-- impl.Parse at a text whose operations are known. -/
theorem iparse_some (t : ByteArray) (l : L) (idx : Int) (w : World) (xs : List IOp) (hG : G w) (hs : t.size ≤ 400000000000) (hi0 : 0 ≤ idx) (hi1 : idx ≤ 999999999) (hl : t.data.toList = l) (hx : parseM l idx = some xs) :
    Calls Tryd.prog 14 #[.string t, .int .i64 idx] w fun e w' => ∃ v : Value, e = .returned (.tuple #[v, .bool true]) ∧ w'.ownsRow w.heap.size 32 19 v xs.length (flat xs) ∧ Below w.heap.size w w' := by
  subst hl
  refine (iparse_any t idx w hG hs hi0 hi1).mono fun e w' h => ?_
  rw [IParse, hx] at h
  exact h
theorem iparse_none (t : ByteArray) (l : L) (idx : Int) (w : World) (hG : G w) (hs : t.size ≤ 400000000000) (hi0 : 0 ≤ idx) (hi1 : idx ≤ 999999999) (hl : t.data.toList = l) (hx : parseM l idx = none) :
    Calls Tryd.prog 14 #[.string t, .int .i64 idx] w fun e w' => e = .returned (.tuple #[.slice none 0 0, .bool false]) ∧ Below w.heap.size w w' := by
  subst hl
  refine (iparse_any t idx w hG hs hi0 hi1).mono fun e w' h => ?_
  rw [IParse, hx] at h
  exact h
set_option maxRecDepth 100000 in
set_option maxHeartbeats 1600000 in
theorem impl0_any (w : World) (hG : G w) : Calls Tryd.prog 16 #[] w fun e w' => e = .returned (.bool true) ∧ Below w.heap.size w w' := by
  obtain ⟨x, hx, hv⟩ := one_of parse_d
  have HC := hide (iparse_some ⟨#[37, 100]⟩ [37, 100] 0 w [x] hG (by decide) (by decide) (by decide) rfl hx)
  have HV := hide hv
  clear hx hv
  go_enter Tryd.func16, Tryd.ntmps16
  go_wp2_with fail
  refine (unhide HC).mono ?_
  rintro y w2 ⟨v, rfl, hown, hb⟩
  obtain ⟨g, cap, rfl⟩ : ∃ g cap, v = .slice (some ⟨g, 0, none⟩) 1 cap := by
    rcases hown.2 with ⟨_, h0⟩ | ⟨g, cap, cur, hv, _⟩
    · cases h0
    · exact ⟨g, cap, hv⟩
  have hcell : w2.cell? ⟨g, 4, none⟩ = some (.int .i32 x.vb) := by
    have h1 : w2.ownsRow w.heap.size 32 19 (.slice (some ⟨g, 0, none⟩) 1 cap) 1 (flat [x]) := hown
    rw [h1.cellAt 4 (by decide)]
    rfl
  rw [unhide HV] at hcell
  clear hown
  go_wp2
  go_ret
  exact ⟨rfl, hb⟩
end Go.Proofs.YtjbmphfgckhaeaaDoor
