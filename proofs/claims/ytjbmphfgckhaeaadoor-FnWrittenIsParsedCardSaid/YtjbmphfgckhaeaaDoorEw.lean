/-
  FnWrittenIsParsed: from the walk of the law to the card. No condition.
-/
import Derived.Test.YtjbmphfgckhaeaaDoorFr
import Derived.Test.YtjbmphfgckhaeaaDoorNn
import Derived.Test.YtjbmphfgckhaeaaDoorNo
import Derived.Test.YtjbmphfgckhaeaaDoorNp
import Derived.Test.YtjbmphfgckhaeaaDoorCards
import Derived.WalkKit
import Derived.ProofKit
import Derived.OpenShut
import Derived.ChangeMaps5
import Derived.Carry
import Derived.LaidOnce
import Derived.SevenTiedAt
namespace Go.Proofs.YtjbmphfgckhaeaaDoor
open Go.RowKit Go.ChangeMaps Go.ChangeShapes Go.WideShapes Go.ChangeAt Go.Lib

theorem own8 : ownKnob Tryd.prog.godebug = none := by kernel_rfl
set_option maxRecDepth 100000 in
theorem lifted8 (os : Os) (started : os.Started) (H : Type) (enc : TypeId × Value → H) :
    ReturnsInHanded {} Tryd.checked os 8 .any (fun w args => (Rows.fnWrittenIsParsedSpec.pre enc Tryd.prog Tryd.f8 [] false w args ∧ laidMetH Tryd.prog Rows.fnWrittenIsParsedRow.laid w) ∧ sizedMet enc Tryd.prog Tryd.f8 (OpenSpec.ofChange Rows.fnWrittenIsParsedSpec) false w args)
      (Rows.fnWrittenIsParsedSpec.post enc Tryd.prog Tryd.f8 false true false false) := by
  refine returnsInHanded_of_change_and (C := Tryd.checked) (X := fun w _ => laidMetH Tryd.prog Rows.fnWrittenIsParsedRow.laid w) (fun _ _ _ hh h => h.of_heap hh) own8 started (by kernel_rfl) Tryd.func8
    (ChangeSpec.witness_shaped (enc := enc) (C := Tryd.checked) (os := os) (X := fun w _ => laidMetH Tryd.prog Rows.fnWrittenIsParsedRow.laid w) false (World.laidAll Tryd.prog os Rows.fnWrittenIsParsedRow.laid) #[.slice none 0 0, .int .i64 0] 8 (World.laidAll_os _ _ _)
      (World.shaped_of_ZipB (by kernel_rfl) (by kernel_rfl)) (by kernel_rfl) (by kernel_rfl) (by kernel_rfl)
      (by rw [MakeChecks.laidMetH_plain _ _ _ (by kernel_rfl)]; exact laidMet_laidAll _ (by kernel_rfl) (by kernel_rfl))) ?_
  intro W base args ds gs before hval0 hW _ _ hL _
  have hval : ∀ (j : Nat) t v, Tryd.f8.params[j]? = some t → args[j]? = some v → Value.okWide Tryd.prog W .any base t v := hval0
  have hW' := hW
  obtain ⟨p, q, hA0, hV, rfl, _, _⟩ := hW
  have hA : DataW.TrodAll enc Tryd.prog W 0 (fun _ => true) true Tryd.f8.params.toList args.toList ds p := hA0
  rw [Tryd.params8] at hA hval
  obtain ⟨v0, v1, d0, d1, p0, p1, rfl, rfl, rfl, h0, h1⟩ := trodAll_two hA
  obtain ⟨rfl, rfl⟩ := trodVars_none hV
  obtain ⟨a0, n, cap, rfl⟩ := okWide_slice Tryd.underlying47 (hval 0 47 v0 rfl rfl)
  obtain ⟨i, rfl, rfl, rfl, wi⟩ := open_int Tryd.underlying3 (hval 1 3 v1 rfl rfl) h1
  have h0k := h0
  obtain ⟨fuel, hf⟩ := h0
  simp only [List.append_nil] at hW'
  have hlt : ∀ x ∈ p0, x.block < W.heap.size := fun x hx => by simpa using hW'.lt x hx
  rw [MakeChecks.laidMetH_plain _ _ _ (by kernel_rfl)] at hL
  have hG : G W := G_of hL (by simp [Rows.fnWrittenIsParsedRow]) (by simp [Rows.fnWrittenIsParsedRow]) (by simp [Rows.fnWrittenIsParsedRow]) (by simp [Rows.fnWrittenIsParsedRow])
  have hC : Calls Tryd.prog 8 #[.slice a0 n cap, .int .i64 i] W fun e w' => e = .returned (.bool true) ∧ Below W.heap.size W w' := by
    rcases told_open hf with ⟨rfl, rfl, rfl⟩ | ⟨a, vs, rfl, hn, hl, ha, hI⟩
    · exact told_nil i W
    · exact told_any a n cap i vs W hG hn hl hI ha
  refine hC.mono fun e W' ⟨he, hb⟩ => ?_
  subst he
  exact ⟨_, rfl, _, _, _, [], _, [], hW', trodAll_mk1 (shut_bool Tryd.underlying4 _), trodAll_mk2 (Below.trod (by kernel_rfl) (by kernel_rfl) (of_decide_eq_true (by kernel_rfl)) h0k hb hlt) (shut_int Tryd.underlying3 wi), rfl, hb.frame _, fun h => by cases h⟩

theorem holds8 : Rows.FnWrittenIsParsedSaid :=
  OpenClaim.holds_of_wide 8 Tryd.f8 rfl rfl rfl rfl rfl rfl rfl ⟨rfl, rfl, rfl, rfl, rfl⟩ rfl rfl rfl rfl rfl (by kernel_rfl) Tryd.func8 (by kernel_rfl)
    (of_decide_eq_true (by kernel_rfl)) (by unfold Func.isWrapper; first | (rw [if_pos (by decide +kernel)]; kernel_rfl) | (rw [if_neg (by decide +kernel)]; exact ⟨rfl, rfl⟩))
    (fun os started H enc _ => lifted8 os started H enc)
/-- **FnWrittenIsParsed.** -/
theorem fnWrittenIsParsed_card : Rows.FnWrittenIsParsedCardSaid :=
  Claim7.holds_tied_plain_at .later [] [.data, .data, .data, .data, .sentinel, .sentinel, .pinned] true (true, "c6db099c6eb91f3a3216051661d8a245d87db37fa2e53459a7e55c2485145660") true holds8 (fun _ h => by cases h) (by kernel_rfl) (fun _ h => by cases h) fnWrittenIsParsed_row_tie rfl ⟨rfl, rfl⟩ (by kernel_rfl) rfl
    (fun f fn hf hfn => by
      obtain rfl : f = 8 := Option.some.inj ((show Tryd.prog.funcNamed "formatstrings/laws.FnWrittenIsParsed" = some 8 by kernel_rfl).symm.trans hf) |>.symm
      obtain rfl : fn = Tryd.f8 := (Option.some.inj (Tryd.func8.symm.trans hfn)).symm
      exact ⟨by kernel_rfl, fun j t ht => by
        rw [Tryd.params8] at ht
        have hm : t ∈ [47, 3] := by simpa using Array.mem_of_getElem? ht
        have hall : ([47, 3].all fun u => !Tryd.prog.wantsStandIn u) = true := by kernel_rfl
        exact (show Tryd.prog.wantsStandIn t = false by simpa using List.all_eq_true.1 hall t hm)⟩)
    (by kernel_rfl)
end Go.Proofs.YtjbmphfgckhaeaaDoor
