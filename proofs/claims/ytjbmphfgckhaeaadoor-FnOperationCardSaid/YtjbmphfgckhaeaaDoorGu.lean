/-
  The reference's OpAt. Conditions: texts of at most 4096 bytes, the library's tables; the walk of op is a premise (SopAny).
  fmtstr.ZZOperation and impl.Operation. Conditions: a text of 1 to 4096 bytes that begins with the sign %, numbers from 0 to 999, the library's tables and sentinels.
-/
import Derived.Test.YtjbmphfgckhaeaaDoorGe
import Derived.Deep.DeepCutAuto
import Derived.Test.YtjbmphfgckhaeaaDoorTwo
import Derived.Test.YtjbmphfgckhaeaaDoorPt
import Derived.Test.YtjbmphfgckhaeaaDoorWm
namespace Go.Proofs.YtjbmphfgckhaeaaDoor
open Go.RowKit

theorem results_blk3 {fn : Func} {p q r : Tmp} {ty : TypeId} (h : fn.results = #[.cell p ty, .tmp q, .tmp r]) (tmps : Array Value) (P : Program) (w : World) (g : Nat) (cs : Array Value) (d : TypeDesc) (v u : Value)
    (hp : tmps.getD p undef = .pointer (some ⟨g, 0, none⟩)) (hq : tmps.getD q undef = v) (hr : tmps.getD r undef = u) (hb : Blk w g ty cs) (hu : P.underlying ty = some d) (hd : d.isRow = true) (hi : (P.info? ty).map (·.size) = some cs.size) :
    (results fn tmps).run P w = .ok (.tuple #[.agg cs, v, u]) w := by
  have hl := run_loadVar_mid (P := P) w g 0 ty cs.toList d hb.range hu hd (by simpa using hi)
  simp only [results, h]
  have hp' : tmps[p]?.getD undef = .pointer (some ⟨g, 0, none⟩) := by simpa using hp
  have hq' : tmps[q]?.getD undef = v := by simpa using hq
  have hr' : tmps[r]?.getD undef = u := by simpa using hr
  simp only [Array.toArray_toList] at hl
  simp [Result.andThen, hp', hq', hr', asAddr, hl]
theorem results_blk4 {fn : Func} {p q r s : Tmp} {ty : TypeId} (h : fn.results = #[.cell p ty, .tmp q, .tmp r, .tmp s]) (tmps : Array Value) (P : Program) (w : World) (g : Nat) (cs : Array Value) (d : TypeDesc) (v u x : Value)
    (hp : tmps.getD p undef = .pointer (some ⟨g, 0, none⟩)) (hq : tmps.getD q undef = v) (hr : tmps.getD r undef = u) (hs : tmps.getD s undef = x) (hb : Blk w g ty cs) (hu : P.underlying ty = some d) (hd : d.isRow = true) (hi : (P.info? ty).map (·.size) = some cs.size) :
    (results fn tmps).run P w = .ok (.tuple #[.agg cs, v, u, x]) w := by
  have hl := run_loadVar_mid (P := P) w g 0 ty cs.toList d hb.range hu hd (by simpa using hi)
  simp only [results, h]
  have hp' : tmps[p]?.getD undef = .pointer (some ⟨g, 0, none⟩) := by simpa using hp
  have hq' : tmps[q]?.getD undef = v := by simpa using hq
  have hr' : tmps[r]?.getD undef = u := by simpa using hr
  have hs' : tmps[s]?.getD undef = x := by simpa using hs
  simp only [Array.toArray_toList] at hl
  simp [Result.andThen, hp', hq', hr', hs', asAddr, hl]

theorem cells_ne' {W : World} {p k : Nat} {vs : List Value} {q : Addr} (h : q.block ≠ p) : (W.setCells p k vs).cell? q = W.cell? q := cells_ne (W := W) vs k W h
/-- What op answers, whichever of the three it is. -/
def OpK (t : ByteArray) (first nx : Int) (k : Int) (P : SO → Int → Prop) : Prop :=
  ∀ (g : Nat) (W : World), Blk W g 60 (rCells t 0 nx first) → G W → 4 ≤ g → Calls Tryd.prog 20 #[.pointer (some ⟨g, 0, none⟩)] W fun e w' =>
    ∃ (x : SO) (b : Nat) (nx' : Int), P x nx' ∧ e = .returned (.tuple #[.agg (soC x), .int .i64 k]) ∧ Blk w' g 60 (rCells t b nx' first) ∧ W.grownBy w' (some g)
theorem opk_good (hop : SopAny) {t : ByteArray} {first nx : Int} {x : SO} {b : Nat} {nx' : Int} (hs : t.size ≤ 4096) (h0 : 0 < t.size) (hn0 : 0 ≤ nx) (hn1 : nx ≤ 100000000) (hf0 : 0 ≤ first) (hf1 : first ≤ 1000000) (h : spOp t.data.toList first 0 nx = .good (x, b, nx')) :
    OpK t first nx 0 fun y m => y = x ∧ m = nx' := fun g W hb hG hg => by
  refine (hop g t 0 nx first W hb hs h0 hn0 hn1 hf0 hf1 hG hg).mono ?_
  rw [h]
  rintro e w' ⟨he, h1, h2⟩
  exact ⟨x, b, nx', ⟨rfl, rfl⟩, he, h1, h2⟩
theorem opk_bad (hop : SopAny) {t : ByteArray} {first nx : Int} (hs : t.size ≤ 4096) (h0 : 0 < t.size) (hn0 : 0 ≤ nx) (hn1 : nx ≤ 100000000) (hf0 : 0 ≤ first) (hf1 : first ≤ 1000000) (h : spOp t.data.toList first 0 nx = .bad) :
    OpK t first nx 1 fun _ _ => True := fun g W hb hG hg => by
  refine (hop g t 0 nx first W hb hs h0 hn0 hn1 hf0 hf1 hG hg).mono ?_
  rw [h]
  rintro e w' ⟨x, b, m, he, h1, h2⟩
  exact ⟨x, b, m, True.intro, he, h1, h2⟩
theorem opk_opn (hop : SopAny) {t : ByteArray} {first nx : Int} (hs : t.size ≤ 4096) (h0 : 0 < t.size) (hn0 : 0 ≤ nx) (hn1 : nx ≤ 100000000) (hf0 : 0 ≤ first) (hf1 : first ≤ 1000000) (h : spOp t.data.toList first 0 nx = .opn) :
    OpK t first nx 2 fun _ _ => True := fun g W hb hG hg => by
  refine (hop g t 0 nx first W hb hs h0 hn0 hn1 hf0 hf1 hG hg).mono ?_
  rw [h]
  rintro e w' ⟨x, b, m, he, h1, h2⟩
  exact ⟨x, b, m, True.intro, he, h1, h2⟩

set_option maxRecDepth 100000 in
set_option maxHeartbeats 6400000 in
theorem opat_any (t : ByteArray) (first nx k : Int) (P : SO → Int → Prop) (hk : OpK t first nx k P) (w : World) (hG : G w) :
    Calls Tryd.prog 10 #[.string t, .int .i64 first, .int .i64 nx] w fun e w' => ∃ (x : SO) (nx' : Int), P x nx' ∧ e = .returned (.tuple #[.agg (soC x), .int .i64 nx', .int .i64 k]) ∧ Below w.heap.size w w' := by
  have HK := hide hk
  have h4 := hG.big
  have hB0 : Blk ((w.alloc (.cells #[.string ⟨#[]⟩, .int .i64 0, .int .i64 0, .string ⟨#[]⟩, .int .i32 0, .int .i64 0, .int .i64 0, .int .i64 0, .int .i64 0, .int .i64 0, .int .i64 0, .int .i64 0, .int .i64 0, .int .i64 0] 26)).alloc (.cells #[.string t, .int .i64 0, .int .i64 nx, .int .i64 first] 60)) w.heap.size 26 #[.string ⟨#[]⟩, .int .i64 0, .int .i64 0, .string ⟨#[]⟩, .int .i32 0, .int .i64 0, .int .i64 0, .int .i64 0, .int .i64 0, .int .i64 0, .int .i64 0, .int .i64 0, .int .i64 0, .int .i64 0] := (Blk.new w 26 _).alloc _
  have hR0 : Blk ((w.alloc (.cells #[.string ⟨#[]⟩, .int .i64 0, .int .i64 0, .string ⟨#[]⟩, .int .i32 0, .int .i64 0, .int .i64 0, .int .i64 0, .int .i64 0, .int .i64 0, .int .i64 0, .int .i64 0, .int .i64 0, .int .i64 0] 26)).alloc (.cells #[.string t, .int .i64 0, .int .i64 nx, .int .i64 first] 60)) (w.heap.size + 1) 60 (rCells t 0 nx first) := by
    have := Blk.new (w.alloc (.cells #[.string ⟨#[]⟩, .int .i64 0, .int .i64 0, .string ⟨#[]⟩, .int .i32 0, .int .i64 0, .int .i64 0, .int .i64 0, .int .i64 0, .int .i64 0, .int .i64 0, .int .i64 0, .int .i64 0, .int .i64 0] 26)) 60 #[.string t, .int .i64 0, .int .i64 nx, .int .i64 first]
    have h6 : Blk ((w.alloc (.cells #[.string ⟨#[]⟩, .int .i64 0, .int .i64 0, .string ⟨#[]⟩, .int .i32 0, .int .i64 0, .int .i64 0, .int .i64 0, .int .i64 0, .int .i64 0, .int .i64 0, .int .i64 0, .int .i64 0, .int .i64 0] 26)).alloc (.cells #[.string t, .int .i64 0, .int .i64 nx, .int .i64 first] 60)) (w.heap.size + 1) 60 #[.string t, .int .i64 0, .int .i64 nx, .int .i64 first] := by simpa using this
    exact h6
  have hW0 : Below w.heap.size w ((w.alloc (.cells #[.string ⟨#[]⟩, .int .i64 0, .int .i64 0, .string ⟨#[]⟩, .int .i32 0, .int .i64 0, .int .i64 0, .int .i64 0, .int .i64 0, .int .i64 0, .int .i64 0, .int .i64 0, .int .i64 0, .int .i64 0] 26)).alloc (.cells #[.string t, .int .i64 0, .int .i64 nx, .int .i64 first] 60)) := ((Below.refl _ _).alloc (Nat.le_refl _) _).alloc (by simp) _
  have hG0 := hG.step hW0
  clear hk
  go_enter Tryd.func10, Tryd.ntmps10
  go_wp2_with fail
  generalize ((w.alloc (.cells #[.string ⟨#[]⟩, .int .i64 0, .int .i64 0, .string ⟨#[]⟩, .int .i32 0, .int .i64 0, .int .i64 0, .int .i64 0, .int .i64 0, .int .i64 0, .int .i64 0, .int .i64 0, .int .i64 0, .int .i64 0] 26)).alloc (.cells #[.string t, .int .i64 0, .int .i64 nx, .int .i64 first] 60)) = W0 at hB0 hR0 hW0 hG0 ⊢
  refine (unhide HK (w.heap.size + 1) W0 hR0 hG0 (by omega)).mono ?_
  rintro e W2 ⟨x, b, nx', hP, rfl, hR2, hg2⟩
  have hB2 : Blk W2 w.heap.size 26 #[.string ⟨#[]⟩, .int .i64 0, .int .i64 0, .string ⟨#[]⟩, .int .i32 0, .int .i64 0, .int .i64 0, .int .i64 0, .int .i64 0, .int .i64 0, .int .i64 0, .int .i64 0, .int .i64 0, .int .i64 0] := hB0.grown hg2 (by intro e5; injection e5 with e5; omega)
  have hW2 : Below w.heap.size w W2 := hW0.trans (only_to_below hg2 (by omega) hW0.size)
  obtain ⟨Ls, W3, hbx⟩ := box_pack W2 x
  have hR3 := hR2.below hbx.bw hR2.lt
  have hB3 := hB2.below hbx.bw hB2.lt
  have HLT : Hid (w.heap.size < W2.heap.size) := hB2.lt
  have hW3 := hW2.trans (hbx.bw.mono hW2.size)
  have hgl : W2.heap.size ≤ W3.heap.size := hbx.bw.size
  have HBX := hide hbx
  have HP := hide hP
  have HX := hide (And.intro hR3 (And.intro hB3 hW3))
  clear hbx hP hB0 hR0 hW0 hG0 hR2 hB2 hW2 hR3 hB3 hW3 hg2
  go_upto_region 3 with (first | (refine wpList_store_mid rfl 26 (.tmp 10) (.tmp 20) rfl W2.heap.size 0 Ls.toArray rfl (congrArg Value.agg (by rw [(unhide HBX).ls])) (unhide HBX).th (unhide HBX).i2 (unhide HBX).oc ?_; rw [← (unhide HBX).eq]))
  have hT := unhide HX
  have hS0 : Blk W3 (w.heap.size + 1) 60 (rCells t b nx' first) ∧ W3.rangeAt W2.heap.size 0 Ls := ⟨hT.1, (unhide HBX).rg⟩
  have hlr := unhide HLT
  refine wp_region_held_drew (S := fun W => Blk W (w.heap.size + 1) 60 (rCells t b nx' first) ∧ W.rangeAt W2.heap.size 0 Ls) (by kernel_rfl) ⟨hS0.1.drew, fun j v hv => hS0.2 j v hv⟩ ?_
  intro hS
  have hB := hT.2.1.drew
  have hW := hT.2.2.drew
  clear hT hS0 HX
  generalize W3.drew = W4 at hS hB hW ⊢
  refine wpAnyH_pre (fuel := 3) (by kernel_rfl) (fun _ _ d _ _ h => by cases d <;> exact h) [0, 1, 2, 3, 4, 5] _ _ _ (by kernel_rfl) hS ?_
  refine ⟨_, .agg Ls.toArray, rfl, yieldsIf_load_mid (by rfl) 26 _ rfl W2.heap.size 0 (by rfl) Ls _ (fun W hW => hW.2) Tryd.underlying26 rfl (unhide HBX).i1, ?_⟩
  simp only [Act.put, List.getElem_toArray, List.getElem_cons_zero, List.getElem_cons_succ, List.setIfInBounds_toArray, List.set_cons_zero, List.set_cons_succ]
  refine Pre.step (v := ?_) rfl ?_ ?_ ?_
  rotate_left
  · rfl
  · intro w9 hS9; have c2 : w9.cell? ⟨w.heap.size + 1, 2, none⟩ = some (.int .i64 nx') := hS9.1.cell 2; clear hS9; go_simp; try with_reducible rfl
  simp only [Act.put, List.getElem_toArray, List.getElem_cons_zero, List.getElem_cons_succ, List.setIfInBounds_toArray, List.set_cons_zero, List.set_cons_succ]
  refine Pre.step (v := ?_) rfl ?_ ?_ ?_
  rotate_left
  · rfl
  · intro w9 hS9; have c2 : w9.cell? ⟨w.heap.size + 1, 2, none⟩ = some (.int .i64 nx') := hS9.1.cell 2; clear hS9; go_simp; try with_reducible rfl
  simp only [Act.put, List.getElem_toArray, List.getElem_cons_zero, List.getElem_cons_succ, List.setIfInBounds_toArray, List.set_cons_zero, List.set_cons_succ]
  refine Pre.step (v := ?_) rfl ?_ ?_ ?_
  rotate_left
  · rfl
  · intro w9 hS9; have c2 : w9.cell? ⟨w.heap.size + 1, 2, none⟩ = some (.int .i64 nx') := hS9.1.cell 2; clear hS9; go_simp; try with_reducible rfl
  simp only [Act.put, List.getElem_toArray, List.getElem_cons_zero, List.getElem_cons_succ, List.setIfInBounds_toArray, List.set_cons_zero, List.set_cons_succ]
  refine Pre.step (v := ?_) rfl ?_ ?_ ?_
  rotate_left
  · rfl
  · intro w9 hS9; have c2 : w9.cell? ⟨w.heap.size + 1, 2, none⟩ = some (.int .i64 nx') := hS9.1.cell 2; clear hS9; go_simp; try with_reducible rfl
  simp only [Act.put, List.getElem_toArray, List.getElem_cons_zero, List.getElem_cons_succ, List.setIfInBounds_toArray, List.set_cons_zero, List.set_cons_succ]
  refine Pre.step (v := ?_) rfl ?_ ?_ ?_
  rotate_left
  · rfl
  · intro w9 hS9; have c2 : w9.cell? ⟨w.heap.size + 1, 2, none⟩ = some (.int .i64 nx') := hS9.1.cell 2; clear hS9; go_simp; try with_reducible rfl
  simp only [Act.put, List.getElem_toArray, List.getElem_cons_zero, List.getElem_cons_succ, List.setIfInBounds_toArray, List.set_cons_zero, List.set_cons_succ]
  refine Pre.nil ?_
  refine wpAnyH_ready (rs := [6]) (by kernel_rfl) (by simp) (AllReadyH.cons rfl (fun K hK => ?_) AllReadyH.nil)
  rw [if_pos (by rfl)]
  refine wp_store_mid 26 (.tmp 6) (.tmp 22) rfl w.heap.size 0 Ls.toArray ?_ ?_ (there_blk hB (by rw [(unhide HBX).ls]; rfl)) (unhide HBX).i2 (unhide HBX).oc ?_
  · rfl
  · rfl
  simp only [Act.put]
  have hB5 : Blk (W4.setCells w.heap.size 0 Ls.toArray.toList) w.heap.size 26 (soC x) := by
    have h5 := hB.cells_all Ls.toArray (by rw [(unhide HBX).ls]; rfl)
    rw [(unhide HBX).ls] at h5 ⊢
    exact h5
  have hW5 := below_cells hW (Nat.le_refl _) 0 Ls.toArray.toList
  have hS5 : Blk (W4.setCells w.heap.size 0 Ls.toArray.toList) (w.heap.size + 1) 60 (rCells t b nx' first) ∧ (W4.setCells w.heap.size 0 Ls.toArray.toList).rangeAt W2.heap.size 0 Ls := by
    refine ⟨hS.1.cells_far (by omega) 0 _, fun j v hv => ?_⟩
    rw [cells_ne' (by show W2.heap.size ≠ w.heap.size; omega)]
    exact hS.2 j v hv
  generalize W4.setCells w.heap.size 0 Ls.toArray.toList = W5 at hB5 hW5 hS5 ⊢
  refine hK.out _ _ hS5 (fun _ => ?_)
  clear hK K
  refine wpAnyH_ready (rs := [7]) (by kernel_rfl) (by simp) (AllReadyH.cons rfl (fun K hK => ?_) AllReadyH.nil)
  go_simp
  refine hK.out _ _ hS5 (fun _ => ?_)
  clear hK K
  refine wpAnyH_ready (rs := [8]) (by kernel_rfl) (by simp) (AllReadyH.cons rfl (fun K hK => ?_) AllReadyH.nil)
  go_simp
  refine hK.out _ _ hS5 (fun _ => ?_)
  clear hK K
  refine wpAnyH_done (by kernel_rfl) ?_ _
  have HB5 := hide hB5
  have HW5 := hide hW5
  clear hB5 hW5 hS5 hS hB hW
  go_wp2_with fail
  exact bodyPost_ret (v := .tuple #[.agg (soC x), .int .i64 nx', .int .i64 k]) (results_blk3 Tryd.results10 _ _ _ w.heap.size _ _ _ _ rfl rfl rfl (unhide HB5) Tryd.underlying26 rfl info26) rfl ⟨x, nx', unhide HP, rfl, unhide HW5⟩
end Go.Proofs.YtjbmphfgckhaeaaDoor
namespace Go.Proofs.YtjbmphfgckhaeaaDoor
open Go.RowKit

set_option maxRecDepth 100000 in
set_option maxHeartbeats 6400000 in
theorem zz_bad (t : ByteArray) (first an : Int) (w : World) (hG : G w) (hs : t.size ≤ 4096) (h0 : 0 < t.size) (hc : t[0] = 37) (hf0 : 0 ≤ first) (hf1 : first ≤ 1000000) (ha0 : 0 ≤ an) (ha1 : an ≤ 1000000) (ho : opM t.data.toList first an = none) :
    Calls Tryd.prog 21 #[.string t, .int .i64 first, .int .i64 an] w fun e w' => e = .returned (.tuple #[.agg #[.string ⟨#[]⟩, .int .i32 0, .int .i64 0, .int .i64 0, .int .i64 0, .int .i64 0, .int .i64 0, .int .i64 0, .string ⟨#[]⟩, .int .i64 0, .int .i64 0, .int .i64 0, .int .i64 0, .int .i64 0, .int .i64 0, .int .i64 0, .int .i64 0, .int .i64 0, .int .i64 0], .int .i64 0, .int .i64 0, .bool false]) ∧ Below w.heap.size w w' := by
  have e1 : t.toList.isEmpty = false := by rw [Lib.toList_data]; cases h : t.data.toList with
    | nil => rw [size_data, h] at h0; simp at h0
    | cons _ _ => rfl
  have e2 : ¬ t.toList = [] := by intro h; rw [h] at e1; cases e1
  have hne : ((t[0].toNat : Int) != 37) = false := by rw [hc]; rfl
  have hB0 : Below w.heap.size w (w.alloc (.cells #[.string ⟨#[]⟩, .int .i32 0, .int .i64 0, .int .i64 0, .int .i64 0, .int .i64 0, .int .i64 0, .int .i64 0, .string ⟨#[]⟩, .int .i64 0, .int .i64 0, .int .i64 0, .int .i64 0, .int .i64 0, .int .i64 0, .int .i64 0, .int .i64 0, .int .i64 0, .int .i64 0] 70)) := (Below.refl _ _).alloc (Nat.le_refl _) _
  have hG0 := hG.step hB0
  have hZ0 : Blk (w.alloc (.cells #[.string ⟨#[]⟩, .int .i32 0, .int .i64 0, .int .i64 0, .int .i64 0, .int .i64 0, .int .i64 0, .int .i64 0, .string ⟨#[]⟩, .int .i64 0, .int .i64 0, .int .i64 0, .int .i64 0, .int .i64 0, .int .i64 0, .int .i64 0, .int .i64 0, .int .i64 0, .int .i64 0] 70)) w.heap.size 70 #[.string ⟨#[]⟩, .int .i32 0, .int .i64 0, .int .i64 0, .int .i64 0, .int .i64 0, .int .i64 0, .int .i64 0, .string ⟨#[]⟩, .int .i64 0, .int .i64 0, .int .i64 0, .int .i64 0, .int .i64 0, .int .i64 0, .int .i64 0, .int .i64 0, .int .i64 0, .int .i64 0] := Blk.new w 70 _
  have C1 := hide (op_fail (w := w.alloc (.cells #[.string ⟨#[]⟩, .int .i32 0, .int .i64 0, .int .i64 0, .int .i64 0, .int .i64 0, .int .i64 0, .int .i64 0, .string ⟨#[]⟩, .int .i64 0, .int .i64 0, .int .i64 0, .int .i64 0, .int .i64 0, .int .i64 0, .int .i64 0, .int .i64 0, .int .i64 0, .int .i64 0] 70)) hG0 (by omega) (by omega) hf0 (by omega) ha0 (by omega) ho)
  have hne0 : (0 : Int) < (t.size : Int) := by omega
  clear hc ho
  go_enter Tryd.func21, Tryd.ntmps21
  go_wp2_with fail
  refine (unhide C1).mono ?_
  rintro e w2 ⟨⟨T, q, rfl⟩, hb2⟩
  have hZ2 := hZ0.below hb2 hZ0.lt
  have hB2 := hB0.trans (hb2.mono hB0.size)
  have HW := hide (hZ2.cells_all #[.string ⟨#[]⟩, .int .i32 0, .int .i64 0, .int .i64 0, .int .i64 0, .int .i64 0, .int .i64 0, .int .i64 0, .string ⟨#[]⟩, .int .i64 0, .int .i64 0, .int .i64 0, .int .i64 0, .int .i64 0, .int .i64 0, .int .i64 0, .int .i64 0, .int .i64 0, .int .i64 0] rfl)
  have HB := hide (below_cells hB2 (Nat.le_refl w.heap.size) 0 (#[.string ⟨#[]⟩, .int .i32 0, .int .i64 0, .int .i64 0, .int .i64 0, .int .i64 0, .int .i64 0, .int .i64 0, .string ⟨#[]⟩, .int .i64 0, .int .i64 0, .int .i64 0, .int .i64 0, .int .i64 0, .int .i64 0, .int .i64 0, .int .i64 0, .int .i64 0, .int .i64 0] : Array Value).toList)
  have HTH := hide (there_blk hZ2 (n := 19) rfl)
  clear hZ0 hB0 hG0 hb2 hZ2 hB2
  go_wp2_with (refine wpList_store_mid rfl 70 (.tmp 6) _ rfl w.heap.size 0 #[.string ⟨#[]⟩, .int .i32 0, .int .i64 0, .int .i64 0, .int .i64 0, .int .i64 0, .int .i64 0, .int .i64 0, .string ⟨#[]⟩, .int .i64 0, .int .i64 0, .int .i64 0, .int .i64 0, .int .i64 0, .int .i64 0, .int .i64 0, .int .i64 0, .int .i64 0, .int .i64 0] rfl rfl (unhide HTH) (by kernel_rfl) (by simp [Value.oneCell']) ?_)
  exact bodyPost_ret (v := .tuple #[.agg #[.string ⟨#[]⟩, .int .i32 0, .int .i64 0, .int .i64 0, .int .i64 0, .int .i64 0, .int .i64 0, .int .i64 0, .string ⟨#[]⟩, .int .i64 0, .int .i64 0, .int .i64 0, .int .i64 0, .int .i64 0, .int .i64 0, .int .i64 0, .int .i64 0, .int .i64 0, .int .i64 0], .int .i64 0, .int .i64 0, .bool false]) (results_blk4 Tryd.results21 _ _ _ w.heap.size _ _ _ _ _ rfl rfl rfl rfl (unhide HW) Tryd.underlying70 rfl (by kernel_rfl)) rfl ⟨rfl, unhide HB⟩

set_option maxRecDepth 100000 in
set_option maxHeartbeats 12800000 in
theorem zz_good (t : ByteArray) (first an : Int) (w : World) (hG : G w) (hs : t.size ≤ 4096) (h0 : 0 < t.size) (hc : t[0] = 37) (hf0 : 0 ≤ first) (hf1 : first ≤ 1000000) (ha0 : 0 ≤ an) (ha1 : an ≤ 1000000) (x : OpR) (ho : opM t.data.toList first an = some x) :
    Calls Tryd.prog 21 #[.string t, .int .i64 first, .int .i64 an] w fun e w' => e = .returned (.tuple #[.agg (pCells (iop t.data.toList 0 x)), .int .i64 x.n, .int .i64 (nextA x an), .bool true]) ∧ Below w.heap.size w w' := by
  have hl := size_data t
  have e1 : t.toList.isEmpty = false := by rw [Lib.toList_data]; cases h : t.data.toList with
    | nil => rw [size_data, h] at h0; simp at h0
    | cons _ _ => rfl
  have e2 : ¬ t.toList = [] := by intro h; rw [h] at e1; cases e1
  have hne : ((t[0].toNat : Int) != 37) = false := by rw [hc]; rfl
  have hB0 : Below w.heap.size w (w.alloc (.cells #[.string ⟨#[]⟩, .int .i32 0, .int .i64 0, .int .i64 0, .int .i64 0, .int .i64 0, .int .i64 0, .int .i64 0, .string ⟨#[]⟩, .int .i64 0, .int .i64 0, .int .i64 0, .int .i64 0, .int .i64 0, .int .i64 0, .int .i64 0, .int .i64 0, .int .i64 0, .int .i64 0] 70)) := (Below.refl _ _).alloc (Nat.le_refl _) _
  have hG0 := hG.step hB0
  have hZ0 : Blk (w.alloc (.cells #[.string ⟨#[]⟩, .int .i32 0, .int .i64 0, .int .i64 0, .int .i64 0, .int .i64 0, .int .i64 0, .int .i64 0, .string ⟨#[]⟩, .int .i64 0, .int .i64 0, .int .i64 0, .int .i64 0, .int .i64 0, .int .i64 0, .int .i64 0, .int .i64 0, .int .i64 0, .int .i64 0] 70)) w.heap.size 70 #[.string ⟨#[]⟩, .int .i32 0, .int .i64 0, .int .i64 0, .int .i64 0, .int .i64 0, .int .i64 0, .int .i64 0, .string ⟨#[]⟩, .int .i64 0, .int .i64 0, .int .i64 0, .int .i64 0, .int .i64 0, .int .i64 0, .int .i64 0, .int .i64 0, .int .i64 0, .int .i64 0] := Blk.new w 70 _
  have C1 := hide (op_some (w := w.alloc (.cells #[.string ⟨#[]⟩, .int .i32 0, .int .i64 0, .int .i64 0, .int .i64 0, .int .i64 0, .int .i64 0, .int .i64 0, .string ⟨#[]⟩, .int .i64 0, .int .i64 0, .int .i64 0, .int .i64 0, .int .i64 0, .int .i64 0, .int .i64 0, .int .i64 0, .int .i64 0, .int .i64 0] 70)) hG0 (by omega) (by omega) hf0 (by omega) ha0 (by omega) ho)
  have hne0 : (0 : Int) < (t.size : Int) := by omega
  obtain ⟨hok, hw1, hw2, hn1⟩ := op_bounds (l := t.data.toList) (by omega) hf0 (by omega) ha0 4000000000 (by omega) (by omega) ho
  obtain ⟨hz1, hz2⟩ := op_sizes (l := t.data.toList) (by omega) hf0 (by omega) ha0 4000000000 (by omega) (by omega) ho
  have hxn : x.n = x.st.nb + x.w := rfl
  have hxn2 : x.n ≤ t.size := by omega
  have hvs1 : -1 ≤ x.vs := by unfold OpR.vs; split <;> (have := hok.p0; omega)
  have hvs2 : x.vs ≤ 1000000000000 := by unfold OpR.vs; split <;> (have := hok.p1; have := hok.nb; omega)
  have q1 := hz1.a
  have q2 : x.st.wd.st ≤ (t.size : Int) := by have := hz1.b; omega
  have q3 := hz1.c
  have q4 : x.st.wd.en ≤ (t.size : Int) + 1 := by have := hz1.d; omega
  have q5 := hz2.a
  have q6 : x.st.pr.st ≤ (t.size : Int) := by have := hz2.b; omega
  have q7 := hz2.c
  have q8 : x.st.pr.en ≤ (t.size : Int) + 1 := by have := hz2.d; omega
  have hA0 := hok.a0
  have hA1 := hok.a1
  have HL := hide hl
  clear hl hc ho hok hz1 hz2
  go_enter Tryd.func21, Tryd.ntmps21
  go_wp2_with fail
  refine (unhide C1).mono ?_
  rintro e w2 ⟨s, o, rfl, hs0, ho0, hS, hO, hb2⟩
  have hZ2 := hZ0.below hb2 hZ0.lt
  have hB2 := hB0.trans (hb2.mono hB0.size)
  have hso : s ≠ o := hS.ne_ hO (by decide)
  have hpo : w.heap.size ≠ o := by have : w.heap.size < (w.alloc (.cells #[.string ⟨#[]⟩, .int .i32 0, .int .i64 0, .int .i64 0, .int .i64 0, .int .i64 0, .int .i64 0, .int .i64 0, .string ⟨#[]⟩, .int .i64 0, .int .i64 0, .int .i64 0, .int .i64 0, .int .i64 0, .int .i64 0, .int .i64 0, .int .i64 0, .int .i64 0, .int .i64 0] 70)).heap.size := by simp
                                   omega
  have hps : w.heap.size ≠ s := by have : w.heap.size < (w.alloc (.cells #[.string ⟨#[]⟩, .int .i32 0, .int .i64 0, .int .i64 0, .int .i64 0, .int .i64 0, .int .i64 0, .int .i64 0, .string ⟨#[]⟩, .int .i64 0, .int .i64 0, .int .i64 0, .int .i64 0, .int .i64 0, .int .i64 0, .int .i64 0, .int .i64 0, .int .i64 0, .int .i64 0] 70)).heap.size := by simp
                                   omega
  have c0 : w2.cell? ⟨s, 0, none⟩ = some (.pointer (some ⟨o, 0, none⟩)) := hS.cell 0
  obtain ⟨U, hU⟩ : ∃ U, mk (t.data.toList.take x.n) = U := ⟨_, rfl⟩
  rw [hU] at hO
  have hUs : U.size = x.n := by
    rw [← hU, mk_size', List.length_take]
    omega
  have HUs := hide hUs
  have HU := hide hU
  clear hU hUs hZ0 hG0 hb2 hB0
  go_wp2_with fail
  refine (add_any o U x 0 w2 hO 1000000000000 (by decide) hvs1 hvs2 (by omega) (by omega) (by omega) q1 (by omega) q3 (by omega) q5 (by omega) q7 (by omega)).mono ?_
  rintro e w3 ⟨rfl, hO3, hg3⟩
  have hS3 := hS.grown hg3 (fun e => hso (Option.some.inj e))
  have hZ3 := hZ2.grown hg3 (fun e => hpo (Option.some.inj e))
  have hple : w.heap.size ≤ o := by
    have : w.heap.size < (w.alloc (.cells #[.string ⟨#[]⟩, .int .i32 0, .int .i64 0, .int .i64 0, .int .i64 0, .int .i64 0, .int .i64 0, .int .i64 0, .string ⟨#[]⟩, .int .i64 0, .int .i64 0, .int .i64 0, .int .i64 0, .int .i64 0, .int .i64 0, .int .i64 0, .int .i64 0, .int .i64 0, .int .i64 0] 70)).heap.size := by simp
    omega
  have hB3 : Below w.heap.size w w3 := hB2.grown hg3 hB2.size (fun k hk => by
    have hk' : o = k := Option.some.inj hk
    omega)
  obtain ⟨X, hX⟩ : ∃ X : IOp, X = iop t.data.toList 0 x := ⟨_, rfl⟩
  have hO3' : Blk w3 o 70 (pCells X) := by
    rw [hX]
    have h5 := hO3
    rw [← unhide HU] at h5
    exact h5
  have HX0 : Hid ((pCells X)[0]? = some (.string U)) := by
    show _ = _
    rw [hX, ← unhide HU]
    rfl
  have c0' : w3.cell? ⟨s, 0, none⟩ = some (.pointer (some ⟨o, 0, none⟩)) := hS3.cell 0
  have c2' : w3.cell? ⟨s, 2, none⟩ = some (.int .i64 x.st.an) := hS3.cell 2
  have d1' : w3.cell? ⟨o, 1, none⟩ = some (.int .i32 x.r) := hO3.cell 1
  have HX := hide (And.intro hO3' (And.intro hZ3 hB3))
  have HXE := hide hX
  clear c0 hS hO hZ2 hB2 hO3 hg3 hS3 hZ3 hB3 hO3' hX q1 q2 q3 q4 q5 q6 q7 q8 hvs1 hvs2 hs0 ho0
  go_upto_region 8 with fail
  go_upto_if 44 with fail
  go_cut [8] (fun s8 wx => s8 = .int .i64 (nextA x an) ∧ wx = w3)
  case first =>
    by_cases hr : x.r = 37
    · have b : ((x.r : Int) != 37) = false := by rw [hr]; rfl
      have hn : nextA x an = an := by unfold nextA; rw [if_pos hr]
      have HN := hide hn
      clear hn hr
      go_wp2_with fail
      go_meet
      exact ⟨congrArg (Value.int .i64) (unhide HN).symm, rfl⟩
    · have b : ((x.r : Int) != 37) = true := by rw [bne_iff_ne]; omega
      have hn : nextA x an = x.st.an + 1 := by unfold nextA; rw [if_neg hr]
      have HN := hide hn
      clear hn hr
      go_wp2_with fail
      go_meet
      exact ⟨congrArg (Value.int .i64) (unhide HN).symm, rfl⟩
  case rest =>
    obtain ⟨rfl, rfl⟩ := hcut
    obtain ⟨hX1, hX2, hX3⟩ := unhide HX
    go_upto_region 10 with fail
    refine wp_region_held_drew (S := fun W => W.cell? ⟨s, 0, none⟩ = some (.pointer (some ⟨o, 0, none⟩)) ∧ Blk W o 70 (pCells X)) (by kernel_rfl) ⟨c0', hX1.drew⟩ ?_
    intro hS
    replace hX2 := hX2.drew
    replace hX3 := hX3.drew
    clear c0' c2' d1' HX hX1
    generalize World.drew _ = W4 at hS hX2 hX3 ⊢
    refine wpAnyH_pre (fuel := 4) (by kernel_rfl) (fun _ _ d _ _ h => by cases d <;> exact h) [0, 1, 2, 3, 4, 5, 6, 7, 8, 9, 10, 11, 12, 13, 14] _ _ _ (by kernel_rfl) hS ?_
    refine Pre.step (v := ?_) rfl ?_ ?_ ?_
    rotate_left
    · rfl
    · intro w9 hS9; have c0 : w9.cell? ⟨s, 0, none⟩ = some (.pointer (some ⟨o, 0, none⟩)) := hS9.1; have d0 : w9.cell? ⟨o, 0, none⟩ = some (.string U) := (hS9.2.cell 0).trans (unhide HX0); clear hS9; go_simp; try with_reducible rfl
    simp only [Act.put, List.getElem_toArray, List.getElem_cons_zero, List.getElem_cons_succ, List.setIfInBounds_toArray, List.set_cons_zero, List.set_cons_succ]
    refine Pre.step (v := ?_) rfl ?_ ?_ ?_
    rotate_left
    · rfl
    · intro w9 hS9; have c0 : w9.cell? ⟨s, 0, none⟩ = some (.pointer (some ⟨o, 0, none⟩)) := hS9.1; have d0 : w9.cell? ⟨o, 0, none⟩ = some (.string U) := (hS9.2.cell 0).trans (unhide HX0); clear hS9; go_simp; try with_reducible rfl
    simp only [Act.put, List.getElem_toArray, List.getElem_cons_zero, List.getElem_cons_succ, List.setIfInBounds_toArray, List.set_cons_zero, List.set_cons_succ]
    refine Pre.step (v := ?_) rfl ?_ ?_ ?_
    rotate_left
    · rfl
    · intro w9 hS9; have c0 : w9.cell? ⟨s, 0, none⟩ = some (.pointer (some ⟨o, 0, none⟩)) := hS9.1; have d0 : w9.cell? ⟨o, 0, none⟩ = some (.string U) := (hS9.2.cell 0).trans (unhide HX0); clear hS9; go_simp; try with_reducible rfl
    simp only [Act.put, List.getElem_toArray, List.getElem_cons_zero, List.getElem_cons_succ, List.setIfInBounds_toArray, List.set_cons_zero, List.set_cons_succ]
    refine Pre.step (v := ?_) rfl ?_ ?_ ?_
    rotate_left
    · rfl
    · intro w9 hS9; have c0 : w9.cell? ⟨s, 0, none⟩ = some (.pointer (some ⟨o, 0, none⟩)) := hS9.1; have d0 : w9.cell? ⟨o, 0, none⟩ = some (.string U) := (hS9.2.cell 0).trans (unhide HX0); clear hS9; go_simp; try with_reducible rfl
    simp only [Act.put, List.getElem_toArray, List.getElem_cons_zero, List.getElem_cons_succ, List.setIfInBounds_toArray, List.set_cons_zero, List.set_cons_succ]
    refine Pre.step (v := ?_) rfl ?_ ?_ ?_
    rotate_left
    · rfl
    · intro w9 hS9; have c0 : w9.cell? ⟨s, 0, none⟩ = some (.pointer (some ⟨o, 0, none⟩)) := hS9.1; have d0 : w9.cell? ⟨o, 0, none⟩ = some (.string U) := (hS9.2.cell 0).trans (unhide HX0); clear hS9; go_simp; try with_reducible rfl
    simp only [Act.put, List.getElem_toArray, List.getElem_cons_zero, List.getElem_cons_succ, List.setIfInBounds_toArray, List.set_cons_zero, List.set_cons_succ]
    refine ⟨_, .agg (pCells X).toList.toArray, rfl, yieldsIf_load_mid (by rfl) 70 _ rfl o 0 (by rfl) (pCells X).toList _ (fun W hW => hW.2.range) Tryd.underlying70 rfl (by kernel_rfl), ?_⟩
    simp only [Act.put, List.getElem_toArray, List.getElem_cons_zero, List.getElem_cons_succ, List.setIfInBounds_toArray, List.set_cons_zero, List.set_cons_succ]
    refine Pre.step (v := ?_) rfl ?_ ?_ ?_
    rotate_left
    · rfl
    · intro w9 hS9; have c0 : w9.cell? ⟨s, 0, none⟩ = some (.pointer (some ⟨o, 0, none⟩)) := hS9.1; have d0 : w9.cell? ⟨o, 0, none⟩ = some (.string U) := (hS9.2.cell 0).trans (unhide HX0); clear hS9; go_simp; try with_reducible rfl
    simp only [Act.put, List.getElem_toArray, List.getElem_cons_zero, List.getElem_cons_succ, List.setIfInBounds_toArray, List.set_cons_zero, List.set_cons_succ]
    refine Pre.step (v := ?_) rfl ?_ ?_ ?_
    rotate_left
    · rfl
    · intro w9 hS9; have c0 : w9.cell? ⟨s, 0, none⟩ = some (.pointer (some ⟨o, 0, none⟩)) := hS9.1; have d0 : w9.cell? ⟨o, 0, none⟩ = some (.string U) := (hS9.2.cell 0).trans (unhide HX0); clear hS9; go_simp; try with_reducible rfl
    simp only [Act.put, List.getElem_toArray, List.getElem_cons_zero, List.getElem_cons_succ, List.setIfInBounds_toArray, List.set_cons_zero, List.set_cons_succ]
    refine Pre.step (v := ?_) rfl ?_ ?_ ?_
    rotate_left
    · rfl
    · intro w9 hS9; have c0 : w9.cell? ⟨s, 0, none⟩ = some (.pointer (some ⟨o, 0, none⟩)) := hS9.1; have d0 : w9.cell? ⟨o, 0, none⟩ = some (.string U) := (hS9.2.cell 0).trans (unhide HX0); clear hS9; go_simp; try with_reducible rfl
    simp only [Act.put, List.getElem_toArray, List.getElem_cons_zero, List.getElem_cons_succ, List.setIfInBounds_toArray, List.set_cons_zero, List.set_cons_succ]
    refine Pre.step (v := ?_) rfl ?_ ?_ ?_
    rotate_left
    · rfl
    · intro w9 hS9; have c0 : w9.cell? ⟨s, 0, none⟩ = some (.pointer (some ⟨o, 0, none⟩)) := hS9.1; have d0 : w9.cell? ⟨o, 0, none⟩ = some (.string U) := (hS9.2.cell 0).trans (unhide HX0); clear hS9; go_simp; try with_reducible rfl
    simp only [Act.put, List.getElem_toArray, List.getElem_cons_zero, List.getElem_cons_succ, List.setIfInBounds_toArray, List.set_cons_zero, List.set_cons_succ]
    refine Pre.step (v := ?_) rfl ?_ ?_ ?_
    rotate_left
    · rfl
    · intro w9 hS9; have c0 : w9.cell? ⟨s, 0, none⟩ = some (.pointer (some ⟨o, 0, none⟩)) := hS9.1; have d0 : w9.cell? ⟨o, 0, none⟩ = some (.string U) := (hS9.2.cell 0).trans (unhide HX0); clear hS9; go_simp; try with_reducible rfl
    simp only [Act.put, List.getElem_toArray, List.getElem_cons_zero, List.getElem_cons_succ, List.setIfInBounds_toArray, List.set_cons_zero, List.set_cons_succ]
    refine Pre.step (v := ?_) rfl ?_ ?_ ?_
    rotate_left
    · rfl
    · intro w9 hS9; have c0 : w9.cell? ⟨s, 0, none⟩ = some (.pointer (some ⟨o, 0, none⟩)) := hS9.1; have d0 : w9.cell? ⟨o, 0, none⟩ = some (.string U) := (hS9.2.cell 0).trans (unhide HX0); clear hS9; go_simp; try with_reducible rfl
    simp only [Act.put, List.getElem_toArray, List.getElem_cons_zero, List.getElem_cons_succ, List.setIfInBounds_toArray, List.set_cons_zero, List.set_cons_succ]
    refine Pre.step (v := ?_) rfl ?_ ?_ ?_
    rotate_left
    · rfl
    · intro w9 hS9; have c0 : w9.cell? ⟨s, 0, none⟩ = some (.pointer (some ⟨o, 0, none⟩)) := hS9.1; have d0 : w9.cell? ⟨o, 0, none⟩ = some (.string U) := (hS9.2.cell 0).trans (unhide HX0); clear hS9; go_simp; try with_reducible rfl
    simp only [Act.put, List.getElem_toArray, List.getElem_cons_zero, List.getElem_cons_succ, List.setIfInBounds_toArray, List.set_cons_zero, List.set_cons_succ]
    refine Pre.step (v := ?_) rfl ?_ ?_ ?_
    rotate_left
    · rfl
    · intro w9 hS9; have c0 : w9.cell? ⟨s, 0, none⟩ = some (.pointer (some ⟨o, 0, none⟩)) := hS9.1; have d0 : w9.cell? ⟨o, 0, none⟩ = some (.string U) := (hS9.2.cell 0).trans (unhide HX0); clear hS9; go_simp; try with_reducible rfl
    simp only [Act.put, List.getElem_toArray, List.getElem_cons_zero, List.getElem_cons_succ, List.setIfInBounds_toArray, List.set_cons_zero, List.set_cons_succ]
    refine Pre.step (v := ?_) rfl ?_ ?_ ?_
    rotate_left
    · rfl
    · intro w9 hS9; have c0 : w9.cell? ⟨s, 0, none⟩ = some (.pointer (some ⟨o, 0, none⟩)) := hS9.1; have d0 : w9.cell? ⟨o, 0, none⟩ = some (.string U) := (hS9.2.cell 0).trans (unhide HX0); clear hS9; go_simp; try with_reducible rfl
    simp only [Act.put, List.getElem_toArray, List.getElem_cons_zero, List.getElem_cons_succ, List.setIfInBounds_toArray, List.set_cons_zero, List.set_cons_succ]
    refine Pre.nil ?_
    refine wpAnyH_ready (rs := [15]) (by kernel_rfl) (by simp) (AllReadyH.cons rfl (fun K hK => ?_) AllReadyH.nil)
    rw [if_pos (by rfl)]
    refine wp_store_mid 70 (.tmp 6) (.tmp 55) rfl w.heap.size 0 (pCells X).toList.toArray ?_ ?_ (there_blk hX2 rfl) (by kernel_rfl) (by simp [pCells, Value.oneCell']) ?_
    · rfl
    · rfl
    simp only [Act.put]
    have hB5 : Blk (W4.setCells w.heap.size 0 (pCells X).toList.toArray.toList) w.heap.size 70 (pCells X) := hX2.cells_all (pCells X) rfl
    have hW5 := below_cells hX3 (Nat.le_refl _) 0 (pCells X).toList.toArray.toList
    have hS5 : (W4.setCells w.heap.size 0 (pCells X).toList.toArray.toList).cell? ⟨s, 0, none⟩ = some (.pointer (some ⟨o, 0, none⟩)) ∧ Blk (W4.setCells w.heap.size 0 (pCells X).toList.toArray.toList) o 70 (pCells X) := by
      refine ⟨?_, hS.2.cells_far hpo.symm 0 _⟩
      rw [cells_ne' (by show s ≠ w.heap.size; exact hps.symm)]
      exact hS.1
    generalize W4.setCells w.heap.size 0 (pCells X).toList.toArray.toList = W5 at hB5 hW5 hS5 ⊢
    refine hK.out _ _ hS5 (fun _ => ?_)
    clear hK K
    refine wpAnyH_ready (rs := [16]) (by kernel_rfl) (by simp) (AllReadyH.cons rfl (fun K hK => ?_) AllReadyH.nil)
    go_simp
    refine hK.out _ _ hS5 (fun _ => ?_)
    clear hK K
    refine wpAnyH_ready (rs := [17]) (by kernel_rfl) (by simp) (AllReadyH.cons rfl (fun K hK => ?_) AllReadyH.nil)
    go_simp
    refine hK.out _ _ hS5 (fun _ => ?_)
    clear hK K
    refine wpAnyH_ready (rs := [18]) (by kernel_rfl) (by simp) (AllReadyH.cons rfl (fun K hK => ?_) AllReadyH.nil)
    go_simp
    refine hK.out _ _ hS5 (fun _ => ?_)
    clear hK K
    refine wpAnyH_done (by kernel_rfl) ?_ _
    have HB5 := hide hB5
    have HW5 := hide hW5
    clear hB5 hW5 hS5 hS hX2 hX3
    go_wp2_with fail
    refine bodyPost_ret (v := .tuple #[.agg (pCells X), .int .i64 x.n, .int .i64 (nextA x an), .bool true]) (results_blk4 Tryd.results21 _ _ _ w.heap.size _ _ _ _ _ rfl (congrArg (fun n : Nat => Value.int .i64 n) (unhide HUs)) rfl rfl (unhide HB5) Tryd.underlying70 rfl (by kernel_rfl)) rfl ⟨?_, unhide HW5⟩
    rw [unhide HXE]
end Go.Proofs.YtjbmphfgckhaeaaDoor
