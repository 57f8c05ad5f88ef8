/-
  addOffset: an operation moved by the place at which it stands. Conditions: the operation's block, numbers far from int's ends.
-/
import Derived.Test.YtjbmphfgckhaeaaDoorWk
namespace Go.Proofs.YtjbmphfgckhaeaaDoor
open Go.RowKit

def Sz.has (z : Sz) : Bool := decide (z.fix ≠ -1 ∨ z.dyn ≠ -1)
def Sz.add (z : Sz) (i : Int) : Sz := if z.has then { z with st := z.st + i, en := z.en + i } else z
/-- An operation as plain data. -/
structure IOp where
  text : ByteArray
  st : Int
  en : Int
  fl : ByteArray
  vb : Int
  vs : Int
  ve : Int
  ix : Int
  arg : Int
  wd : Sz
  pr : Sz
def iop (l : L) (i : Int) (x : OpR) : IOp := ⟨mk (l.take x.n), i, x.n + i, x.st.fl, x.r, x.vs + i, x.n + i, x.ix, x.st.an, x.st.wd.add i, x.st.pr.add i⟩
/-- The cells of fmtstr.Operation. -/
def pCells (x : IOp) : Array Value :=
  #[.string x.text, .int .i32 x.vb, .int .i64 x.vs, .int .i64 x.ve, .int .i64 x.ix, .int .i64 x.arg, .int .i64 x.st, .int .i64 x.en, .string x.fl,
    .int .i64 x.wd.fix, .int .i64 x.wd.dyn, .int .i64 x.wd.idx, .int .i64 x.wd.st, .int .i64 x.wd.en,
    .int .i64 x.pr.fix, .int .i64 x.pr.dyn, .int .i64 x.pr.idx, .int .i64 x.pr.st, .int .i64 x.pr.en]

theorem Sz.add_eq (z : Sz) (i : Int) : z.add i = if (z.fix != -1) = true then { z with st := z.st + i, en := z.en + i } else if (z.dyn != -1) = true then { z with st := z.st + i, en := z.en + i } else z := by
  unfold Sz.add Sz.has
  by_cases h1 : z.fix = -1 <;> by_cases h2 : z.dyn = -1 <;> simp [h1, h2]
theorem only_setCell {a w : World} {g : Nat} (h : a.grownBy w (some g)) {p : Addr} (hp : p.block = g ∨ a.heap.size ≤ p.block) (u : Value) : a.grownBy (w.setCell p u) (some g) :=
  ⟨h.os, h.tape, h.output, by simpa [World.setCell] using h.size, fun i hi hne => (Below.heap_setCell w p u i (by
    rintro rfl
    rcases hp with hp | hp
    · exact hne (by rw [hp])
    · omega)).trans (h.block i hi hne)⟩
theorem Blk.congr {w : World} {g : Nat} {t : TypeId} {cs cs' : Array Value} (h : Blk w g t cs) (e : cs = cs') : Blk w g t cs' := e ▸ h
set_option maxRecDepth 100000 in
set_option maxHeartbeats 3200000 in
theorem add_any (o : Nat) (u : ByteArray) (x : OpR) (i : Int) (w : World) (h : Blk w o 70 (vCells u x)) (M : Int) (hM : M ≤ 1000000000000000000)
    (h1 : -1 ≤ x.vs) (h2 : x.vs ≤ M) (h3 : (x.n : Int) ≤ M) (hi0 : 0 ≤ i) (hi1 : i ≤ M)
    (h4 : -2 ≤ x.st.wd.st) (h5 : x.st.wd.st ≤ M) (h6 : -2 ≤ x.st.wd.en) (h7 : x.st.wd.en ≤ M) (h8 : -2 ≤ x.st.pr.st) (h9 : x.st.pr.st ≤ M) (h10 : -2 ≤ x.st.pr.en) (h11 : x.st.pr.en ≤ M) :
    Calls Tryd.prog 34 #[.pointer (some ⟨o, 0, none⟩), .int .i64 i] w fun e w' => e = .returned (.tuple #[]) ∧ Blk w' o 70 (pCells ⟨u, i, x.n + i, x.st.fl, x.r, x.vs + i, x.n + i, x.ix, x.st.an, x.st.wd.add i, x.st.pr.add i⟩) ∧ w.grownBy w' (some o) := by
  have c2 : w.cell? ⟨o, 2, none⟩ = some (.int .i64 x.vs) := h.cell 2
  have c3 : w.cell? ⟨o, 3, none⟩ = some (.int .i64 x.n) := h.cell 3
  have c6 : w.cell? ⟨o, 6, none⟩ = some (.int .i64 0) := h.cell 6
  have c7 : w.cell? ⟨o, 7, none⟩ = some (.int .i64 0) := h.cell 7
  have c9 : w.cell? ⟨o, 9, none⟩ = some (.int .i64 x.st.wd.fix) := h.cell 9
  have c10 : w.cell? ⟨o, 10, none⟩ = some (.int .i64 x.st.wd.dyn) := h.cell 10
  have c12 : w.cell? ⟨o, 12, none⟩ = some (.int .i64 x.st.wd.st) := h.cell 12
  have c13 : w.cell? ⟨o, 13, none⟩ = some (.int .i64 x.st.wd.en) := h.cell 13
  have c14 : w.cell? ⟨o, 14, none⟩ = some (.int .i64 x.st.pr.fix) := h.cell 14
  have c15 : w.cell? ⟨o, 15, none⟩ = some (.int .i64 x.st.pr.dyn) := h.cell 15
  have c17 : w.cell? ⟨o, 17, none⟩ = some (.int .i64 x.st.pr.st) := h.cell 17
  have c18 : w.cell? ⟨o, 18, none⟩ = some (.int .i64 x.st.pr.en) := h.cell 18
  have f2 := h.frozen 2
  have f3 := h.frozen 3
  have f6 := h.frozen 6
  have f7 := h.frozen 7
  have f12 := h.frozen 12
  have f13 := h.frozen 13
  have f17 := h.frozen 17
  have f18 := h.frozen 18
  go_enter Tryd.func34, Tryd.ntmps34
  go_wp2
  all_goals
    go_end0
    refine ⟨rfl, ?_, ?_⟩
    · apply Blk.congr
      · repeat (with_reducible apply Blk.set_)
        exact h
      · simp [vCells, pCells, Sz.add_eq, *]
    · repeat (with_reducible refine only_setCell ?_ (.inl rfl) _)
      exact World.grownBy.refl w _
end Go.Proofs.YtjbmphfgckhaeaaDoor
