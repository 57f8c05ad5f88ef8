/-
  impl.size and impl.op: an operation turned into plain data. Conditions: the operation's block.
-/
import Derived.Test.YtjbmphfgckhaeaaDoorWl
import Derived.Test.YtjbmphfgckhaeaaDoorReg
import Derived.Deep.MidRow
namespace Go.Proofs.YtjbmphfgckhaeaaDoor
open Go.RowKit

def zCells (z : Sz) : Array Value := #[.int .i64 z.fix, .int .i64 z.dyn, .int .i64 z.idx, .int .i64 z.st, .int .i64 z.en]
/-- The cells of impl.Op. -/
def iCells (x : IOp) : Array Value :=
  #[.string x.text, .int .i64 x.st, .int .i64 x.en, .string x.fl, .int .i32 x.vb, .int .i64 x.vs, .int .i64 x.ve, .int .i64 x.ix, .int .i64 x.arg,
    .int .i64 x.wd.fix, .int .i64 x.wd.dyn, .int .i64 x.wd.idx, .int .i64 x.wd.st, .int .i64 x.wd.en,
    .int .i64 x.pr.fix, .int .i64 x.pr.dyn, .int .i64 x.pr.idx, .int .i64 x.pr.st, .int .i64 x.pr.en]
set_option maxRecDepth 100000 in
set_option maxHeartbeats 800000 in
theorem size_any (a b c d e : Int) (w : World) :
    Calls Tryd.prog 35 #[.agg #[.int .i64 a, .int .i64 b, .int .i64 c, .int .i64 d, .int .i64 e]] w fun x w' => x = .returned (.agg #[.int .i64 a, .int .i64 b, .int .i64 c, .int .i64 d, .int .i64 e]) ∧ Below w.heap.size w w' := by
  go_enter Tryd.func35, Tryd.ntmps35
  go_wp2
  refine bodyPost_ret (v := .agg #[.int .i64 a, .int .i64 b, .int .i64 c, .int .i64 d, .int .i64 e]) (by simp [results, Tryd.results35, go_sem]) rfl ⟨rfl, ?_⟩
  exact ((Below.refl _ _).alloc (Nat.le_refl _) _).alloc (by simp) _
theorem Blk.cells_far {w : World} {g o : Nat} {t : TypeId} {cs : Array Value} (h : Blk w o t cs) (hne : o ≠ g) (k : Nat) (vs : List Value) : Blk (w.setCells g k vs) o t cs := by
  induction vs generalizing w k with
  | nil => exact h
  | cons v r ih => exact ih (h.far (p := ⟨g, k, none⟩) hne v) (k + 1)
theorem below_cells {B : Nat} {w0 w : World} {g : Nat} (h : Below B w0 w) (hB : B ≤ g) (k : Nat) (vs : List Value) : Below B w0 (w.setCells g k vs) := by
  induction vs generalizing w k with
  | nil => exact h
  | cons v r ih => exact ih (h.setCell (p := ⟨g, k, none⟩) hB v) (k + 1)
theorem Blk.cells_from {w : World} {g : Nat} {t : TypeId} {cs : Array Value} (h : Blk w g t cs) (k : Nat) (vs : List Value) (hk : k + vs.length = cs.size) :
    Blk (w.setCells g k vs) g t (cs.toList.take k ++ vs).toArray := by
  induction vs generalizing w k cs with
  | nil =>
    have : cs.toList.take k ++ [] = cs.toList := by
      rw [List.append_nil, List.take_of_length_le]
      simp at hk ⊢
      omega
    rw [this]
    exact h
  | cons v r ih =>
    have hs : (cs.setIfInBounds k v).size = cs.size := by simp
    have := ih (h.set_ k v) (k + 1) (by rw [hs]; simp at hk; omega)
    have e : (cs.setIfInBounds k v).toList.take (k + 1) ++ r = cs.toList.take k ++ v :: r := by
      have hlt : k < cs.toList.length := by simp at hk ⊢; omega
      rw [Array.toList_setIfInBounds, List.take_set, List.take_succ_eq_append_getElem hlt, List.set_append_right (h := by simp; omega)]
      have hk2 : min k cs.size = k := by simp at hlt; omega
      simp [hk2]
    rw [e] at this
    exact this
theorem Blk.cells_all {w : World} {g : Nat} {t : TypeId} {cs : Array Value} (h : Blk w g t cs) (ds : Array Value) (hk : ds.size = cs.size) : Blk (w.setCells g 0 ds.toList) g t ds := by
  have := h.cells_from 0 ds.toList (by simpa using hk)
  simpa using this
theorem Blk.range {w : World} {g : Nat} {t : TypeId} {cs : Array Value} (h : Blk w g t cs) : w.rangeAt g 0 cs.toList := fun j v hv => by
  rw [Nat.zero_add, h.cell]
  simpa using hv
/-- A result that lies in a block: the block's cells. -/
theorem results_blk {fn : Func} {p : Tmp} {ty : TypeId} (h : fn.results = #[.cell p ty]) (tmps : Array Value) (P : Program) (w : World) (g : Nat) (cs : Array Value) (d : TypeDesc)
    (hp : tmps.getD p undef = .pointer (some ⟨g, 0, none⟩)) (hb : Blk w g ty cs) (hu : P.underlying ty = some d) (hd : d.isRow = true) (hi : (P.info? ty).map (·.size) = some cs.size) :
    (results fn tmps).run P w = .ok (.agg cs) w := by
  have hl := run_loadVar_mid (P := P) w g 0 ty cs.toList d hb.range hu hd (by simpa using hi)
  simp only [results, h]
  have hp' : tmps[p]?.getD undef = .pointer (some ⟨g, 0, none⟩) := by simpa using hp
  simp only [Array.toArray_toList] at hl
  simp [Sem.run_bind, Result.andThen, hp', asAddr, hl]
theorem there_blk {w : World} {g : Nat} {t : TypeId} {cs : Array Value} {n : Nat} (h : Blk w g t cs) (hn : cs.size = n) : w.there g 0 n := fun j hj => by
  rw [Nat.zero_add, h.cell, h.frozen]
  exact ⟨by simp [show j < cs.size from by omega], rfl⟩
set_option maxRecDepth 100000 in
set_option maxHeartbeats 3200000 in
theorem iop_any (o : Nat) (x : IOp) (w : World) (h : Blk w o 70 (pCells x)) :
    Calls Tryd.prog 22 #[.pointer (some ⟨o, 0, none⟩)] w fun e w' => e = .returned (.agg (iCells x)) ∧ Below w.heap.size w w' := by
  obtain ⟨text, st, en, fl, vb, vs, ve, ix, arg, ⟨w1, w2, w3, w4, w5⟩, ⟨p1, p2, p3, p4, p5⟩⟩ := x
  have h' : Blk w o 70 #[.string text, .int .i32 vb, .int .i64 vs, .int .i64 ve, .int .i64 ix, .int .i64 arg, .int .i64 st, .int .i64 en, .string fl, .int .i64 w1, .int .i64 w2, .int .i64 w3, .int .i64 w4, .int .i64 w5, .int .i64 p1, .int .i64 p2, .int .i64 p3, .int .i64 p4, .int .i64 p5] := h
  have hlt := h.lt
  go_enter Tryd.func22, Tryd.ntmps22
  go_wp2
  refine wgen (fun W => Blk W o 70 #[.string text, .int .i32 vb, .int .i64 vs, .int .i64 ve, .int .i64 ix, .int .i64 arg, .int .i64 st, .int .i64 en, .string fl, .int .i64 w1, .int .i64 w2, .int .i64 w3, .int .i64 w4, .int .i64 w5, .int .i64 p1, .int .i64 p2, .int .i64 p3, .int .i64 p4, .int .i64 p5] ∧ Blk W w.heap.size 32 #[.string ⟨#[]⟩, .int .i64 0, .int .i64 0, .string ⟨#[]⟩, .int .i32 0, .int .i64 0, .int .i64 0, .int .i64 0, .int .i64 0, .int .i64 0, .int .i64 0, .int .i64 0, .int .i64 0, .int .i64 0, .int .i64 0, .int .i64 0, .int .i64 0, .int .i64 0, .int .i64 0] ∧ Below w.heap.size w W) ?_ ?_
  · exact ⟨h'.alloc _, Blk.new _ _ _, (Below.refl _ _).alloc (Nat.le_refl _) _⟩
  clear h h'
  generalize hg0 : w.heap.size = g
  have hne : g ≠ o := by omega
  have hne' : o ≠ g := by omega
  have HG0 := hide hg0
  clear hg0 hlt
  rintro W ⟨hO, hZ, hB⟩
  refine wp_region_held_drew (S := fun w' => (∀ i, w'.cell? ⟨o, i, none⟩ = (#[.string text, .int .i32 vb, .int .i64 vs, .int .i64 ve, .int .i64 ix, .int .i64 arg, .int .i64 st, .int .i64 en, .string fl, .int .i64 w1, .int .i64 w2, .int .i64 w3, .int .i64 w4, .int .i64 w5, .int .i64 p1, .int .i64 p2, .int .i64 p3, .int .i64 p4, .int .i64 p5] : Array Value)[i]?) ∧ Hid (Blk w' o 70 #[.string text, .int .i32 vb, .int .i64 vs, .int .i64 ve, .int .i64 ix, .int .i64 arg, .int .i64 st, .int .i64 en, .string fl, .int .i64 w1, .int .i64 w2, .int .i64 w3, .int .i64 w4, .int .i64 w5, .int .i64 p1, .int .i64 p2, .int .i64 p3, .int .i64 p4, .int .i64 p5])) (by kernel_rfl) ⟨hO.drew.cell, hO.drew⟩ ?_
  intro hS
  refine wpAnyH_pre (fuel := 4) (by kernel_rfl) (fun _ _ d _ _ h => by cases d <;> exact h) [0, 1, 2, 3, 4, 5, 6, 7, 8, 9, 10, 11, 12, 13, 14, 15, 16, 17, 18, 19, 20, 21, 22, 23, 24, 25, 26, 27, 28, 29, 30, 31, 32, 33, 34, 35, 36, 37, 38, 39, 40, 41, 42, 43, 44, 45, 46, 47, 48, 50, 51, 52, 53] _ _ _ (by kernel_rfl) hS ?_
  have HZ : Hid (Blk W.drew g 32 #[.string ⟨#[]⟩, .int .i64 0, .int .i64 0, .string ⟨#[]⟩, .int .i32 0, .int .i64 0, .int .i64 0, .int .i64 0, .int .i64 0, .int .i64 0, .int .i64 0, .int .i64 0, .int .i64 0, .int .i64 0, .int .i64 0, .int .i64 0, .int .i64 0, .int .i64 0, .int .i64 0] ∧ Below g w W.drew) := ⟨hZ.drew, hB.drew⟩
  clear hO hZ hB
  iterate 53
    (refine Pre.step (v := ?_) rfl ?_ ?_ ?_
     rotate_left
     rfl
     (intro w9 hS9; obtain ⟨hS9, _⟩ := hS9; go_simp; try with_reducible rfl)
     simp only [Act.put, List.setIfInBounds_toArray, List.set_cons_zero, List.set_cons_succ])
  refine Pre.nil ?_
  refine wpAnyH_ready (rs := [49]) (by kernel_rfl) (by simp) (AllReadyH.cons rfl (fun K hK => ?_) AllReadyH.nil)
  go_simp
  go_at_call 35
  refine (size_any w1 w2 w3 w4 w5 _).mono ?_
  rintro x W2 ⟨rfl, hb2⟩
  have hq := unhide hS.2
  have hz := unhide HZ
  have hS2 : (∀ i, W2.cell? ⟨o, i, none⟩ = (#[.string text, .int .i32 vb, .int .i64 vs, .int .i64 ve, .int .i64 ix, .int .i64 arg, .int .i64 st, .int .i64 en, .string fl, .int .i64 w1, .int .i64 w2, .int .i64 w3, .int .i64 w4, .int .i64 w5, .int .i64 p1, .int .i64 p2, .int .i64 p3, .int .i64 p4, .int .i64 p5] : Array Value)[i]?) ∧ Hid (Blk W2 o 70 #[.string text, .int .i32 vb, .int .i64 vs, .int .i64 ve, .int .i64 ix, .int .i64 arg, .int .i64 st, .int .i64 en, .string fl, .int .i64 w1, .int .i64 w2, .int .i64 w3, .int .i64 w4, .int .i64 w5, .int .i64 p1, .int .i64 p2, .int .i64 p3, .int .i64 p4, .int .i64 p5]) := ⟨(hq.below hb2 hq.lt).cell, hq.below hb2 hq.lt⟩
  have HZ2 : Hid (Blk W2 g 32 #[.string ⟨#[]⟩, .int .i64 0, .int .i64 0, .string ⟨#[]⟩, .int .i32 0, .int .i64 0, .int .i64 0, .int .i64 0, .int .i64 0, .int .i64 0, .int .i64 0, .int .i64 0, .int .i64 0, .int .i64 0, .int .i64 0, .int .i64 0, .int .i64 0, .int .i64 0, .int .i64 0] ∧ Below g w W2) := ⟨hz.1.below hb2 hz.1.lt, hz.2.trans (hb2.mono (Nat.le_of_lt hz.1.lt))⟩
  refine hK.out _ _ hS2 (fun _ => ?_)
  clear hK K hq hz hS HZ hb2
  refine wpAnyH_ready (rs := [54]) (by kernel_rfl) (by simp) (AllReadyH.cons rfl (fun K hK => ?_) AllReadyH.nil)
  go_simp
  go_at_call 35
  refine (size_any p1 p2 p3 p4 p5 _).mono ?_
  rintro x W3 ⟨rfl, hb3⟩
  have hq := unhide hS2.2
  have hz := unhide HZ2
  have hS3 : (∀ i, W3.cell? ⟨o, i, none⟩ = (#[.string text, .int .i32 vb, .int .i64 vs, .int .i64 ve, .int .i64 ix, .int .i64 arg, .int .i64 st, .int .i64 en, .string fl, .int .i64 w1, .int .i64 w2, .int .i64 w3, .int .i64 w4, .int .i64 w5, .int .i64 p1, .int .i64 p2, .int .i64 p3, .int .i64 p4, .int .i64 p5] : Array Value)[i]?) ∧ Hid (Blk W3 o 70 #[.string text, .int .i32 vb, .int .i64 vs, .int .i64 ve, .int .i64 ix, .int .i64 arg, .int .i64 st, .int .i64 en, .string fl, .int .i64 w1, .int .i64 w2, .int .i64 w3, .int .i64 w4, .int .i64 w5, .int .i64 p1, .int .i64 p2, .int .i64 p3, .int .i64 p4, .int .i64 p5]) := ⟨(hq.below hb3 hq.lt).cell, hq.below hb3 hq.lt⟩
  have HZ3 : Hid (Blk W3 g 32 #[.string ⟨#[]⟩, .int .i64 0, .int .i64 0, .string ⟨#[]⟩, .int .i32 0, .int .i64 0, .int .i64 0, .int .i64 0, .int .i64 0, .int .i64 0, .int .i64 0, .int .i64 0, .int .i64 0, .int .i64 0, .int .i64 0, .int .i64 0, .int .i64 0, .int .i64 0, .int .i64 0] ∧ Below g w W3) := ⟨hz.1.below hb3 hz.1.lt, hz.2.trans (hb3.mono (Nat.le_of_lt hz.1.lt))⟩
  refine hK.out _ _ hS3 (fun _ => ?_)
  clear hK K hq hz hS2 HZ2 hb3
  refine wpAnyH_ready (rs := [55]) (by kernel_rfl) (by simp) (AllReadyH.cons rfl (fun K hK => ?_) AllReadyH.nil)
  go_simp
  refine hK.out _ _ hS3 (fun _ => ?_)
  clear hK K
  refine wpAnyH_ready (rs := [56]) (by kernel_rfl) (by simp) (AllReadyH.cons rfl (fun K hK => ?_) AllReadyH.nil)
  have hq := unhide hS3.2
  have hz := unhide HZ3
  clear hS3 HZ3
  rw [if_pos (by rfl)]
  refine wp_store_mid 32 (.tmp 2) (.tmp 58) rfl g 0 #[.string text, .int .i64 st, .int .i64 en, .string fl, .int .i32 vb, .int .i64 vs, .int .i64 ve, .int .i64 ix, .int .i64 arg, .int .i64 w1, .int .i64 w2, .int .i64 w3, .int .i64 w4, .int .i64 w5, .int .i64 p1, .int .i64 p2, .int .i64 p3, .int .i64 p4, .int .i64 p5] ?_ ?_ (there_blk hz.1 rfl) (by kernel_rfl) ?_ ?_
  · rfl
  · rfl
  · simp [Value.oneCell']
  simp only [Act.put]
  have hO4 := hq.cells_far hne' 0 (#[.string text, .int .i64 st, .int .i64 en, .string fl, .int .i32 vb, .int .i64 vs, .int .i64 ve, .int .i64 ix, .int .i64 arg, .int .i64 w1, .int .i64 w2, .int .i64 w3, .int .i64 w4, .int .i64 w5, .int .i64 p1, .int .i64 p2, .int .i64 p3, .int .i64 p4, .int .i64 p5] : Array Value).toList
  refine hK.out _ _ ⟨hO4.cell, hO4⟩ (fun _ => ?_)
  clear hK K
  refine wpAnyH_done (by kernel_rfl) ?_ _
  have hZ4 : Blk (W3.setCells g 0 (#[.string text, .int .i64 st, .int .i64 en, .string fl, .int .i32 vb, .int .i64 vs, .int .i64 ve, .int .i64 ix, .int .i64 arg, .int .i64 w1, .int .i64 w2, .int .i64 w3, .int .i64 w4, .int .i64 w5, .int .i64 p1, .int .i64 p2, .int .i64 p3, .int .i64 p4, .int .i64 p5] : Array Value).toList) g 32 #[.string text, .int .i64 st, .int .i64 en, .string fl, .int .i32 vb, .int .i64 vs, .int .i64 ve, .int .i64 ix, .int .i64 arg, .int .i64 w1, .int .i64 w2, .int .i64 w3, .int .i64 w4, .int .i64 w5, .int .i64 p1, .int .i64 p2, .int .i64 p3, .int .i64 p4, .int .i64 p5] := hz.1.cells_all _ rfl
  have hB4 : Below g w (W3.setCells g 0 (#[.string text, .int .i64 st, .int .i64 en, .string fl, .int .i32 vb, .int .i64 vs, .int .i64 ve, .int .i64 ix, .int .i64 arg, .int .i64 w1, .int .i64 w2, .int .i64 w3, .int .i64 w4, .int .i64 w5, .int .i64 p1, .int .i64 p2, .int .i64 p3, .int .i64 p4, .int .i64 p5] : Array Value).toList) := below_cells hz.2 (Nat.le_refl _) 0 _
  go_wp2_with fail
  refine bodyPost_ret (v := .agg #[.string text, .int .i64 st, .int .i64 en, .string fl, .int .i32 vb, .int .i64 vs, .int .i64 ve, .int .i64 ix, .int .i64 arg, .int .i64 w1, .int .i64 w2, .int .i64 w3, .int .i64 w4, .int .i64 w5, .int .i64 p1, .int .i64 p2, .int .i64 p3, .int .i64 p4, .int .i64 p5]) (results_blk Tryd.results22 _ _ _ g _ _ rfl hZ4 Tryd.underlying32 rfl (by kernel_rfl)) rfl ⟨rfl, ?_⟩
  rw [unhide HG0]
  exact hB4
end Go.Proofs.YtjbmphfgckhaeaaDoor
