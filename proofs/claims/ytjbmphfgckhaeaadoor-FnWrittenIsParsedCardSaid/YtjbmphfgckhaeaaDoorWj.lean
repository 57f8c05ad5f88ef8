/-
  What parseOperation leaves, and the decoder's contract at a place of a text. Conditions: the tables of unicode/utf8.
-/
import Derived.Test.YtjbmphfgckhaeaaDoorWi
namespace Go.Proofs.YtjbmphfgckhaeaaDoor
open Go.RowKit

theorem OkSt.nb' {t : ByteArray} {A : Int} {st : St} (h : OkSt t.data.toList A st) : st.nb ≤ t.size := by
  have := h.nb
  have := size_data t
  omega
theorem dec_at (t : ByteArray) (n r wd : Nat) (w : World) (hG : G w) (h : Lib.decodeGo (t.extract n t.size) = (r, wd)) :
    Calls Tryd.prog 32 #[.string (t.extract n t.size)] w fun e w' => e = .returned (.tuple #[.int .i32 r, .int .i64 wd]) ∧ Below w.heap.size w w' := by
  have := Tryd.utf8_DecodeRuneInString (t.extract n t.size) w hG.tabs
  rw [h] at this
  exact this
/-- The operation's cells behind the verb: the text, the verb. -/
def vCells (u : ByteArray) (x : OpR) : Array Value :=
  #[.string u, .int .i32 x.r, .int .i64 x.vs, .int .i64 x.n, .int .i64 x.ix, .int .i64 x.st.an, .int .i64 0, .int .i64 0, .string x.st.fl,
    .int .i64 x.st.wd.fix, .int .i64 x.st.wd.dyn, .int .i64 x.st.wd.idx, .int .i64 x.st.wd.st, .int .i64 x.st.wd.en,
    .int .i64 x.st.pr.fix, .int .i64 x.st.pr.dyn, .int .i64 x.st.pr.idx, .int .i64 x.st.pr.st, .int .i64 x.st.pr.en]
/-- parseOperation's answer where there is no error. -/
def OpGood (t : ByteArray) (first : Int) (x : OpR) (w : World) (e : Ending) (w' : World) : Prop :=
  ∃ s o : Nat, e = .returned (.tuple #[.pointer (some ⟨s, 0, none⟩), .nilIface]) ∧ w.heap.size ≤ s ∧ w.heap.size ≤ o ∧
    Blk w' s 94 (sCells o first { x.st with nb := x.n }) ∧ Blk w' o 70 (vCells (mk (t.data.toList.take x.n)) x) ∧ Below w.heap.size w w'
theorem set_verb {w : World} {s o : Nat} {t : ByteArray} {first : Int} (st : St) (r wd : Nat) (h : PS w s o t first st) (a b c d n : Int) (ha : a = (OpR.mk st r wd).vs) (hb : b = (OpR.mk st r wd).n) (hc : c = (OpR.mk st r wd).ix) (hd : d = st.an) (hn : n = ((st.nb + wd : Nat) : Int)) :
    Blk ((((((w.setCell ⟨o, 1, none⟩ (.int .i32 r)).setCell ⟨o, 2, none⟩ (.int .i64 a)).setCell ⟨o, 3, none⟩ (.int .i64 b)).setCell ⟨o, 4, none⟩ (.int .i64 c)).setCell ⟨o, 5, none⟩ (.int .i64 d)).setCell ⟨s, 7, none⟩ (.int .i64 n)) s 94 (sCells o first { st with nb := st.nb + wd }) ∧
    Blk ((((((w.setCell ⟨o, 1, none⟩ (.int .i32 r)).setCell ⟨o, 2, none⟩ (.int .i64 a)).setCell ⟨o, 3, none⟩ (.int .i64 b)).setCell ⟨o, 4, none⟩ (.int .i64 c)).setCell ⟨o, 5, none⟩ (.int .i64 d)).setCell ⟨s, 7, none⟩ (.int .i64 n)) o 70 (vCells t ⟨st, r, wd⟩) := by
  subst ha hb hc hd hn
  exact ⟨(((((h.sb.far (p := ⟨o, 1, none⟩) h.ne _).far (p := ⟨o, 2, none⟩) h.ne _).far (p := ⟨o, 3, none⟩) h.ne _).far (p := ⟨o, 4, none⟩) h.ne _).far (p := ⟨o, 5, none⟩) h.ne _).set_ 7 _,
    (((((h.ob.set_ 1 _).set_ 2 _).set_ 3 _).set_ 4 _).set_ 5 _).far (p := ⟨s, 7, none⟩) h.ne.symm _⟩
theorem below_verb {B : Nat} {w0 w : World} {s o : Nat} (h : Below B w0 w) (hs : B ≤ s) (ho : B ≤ o) (r a b c d n : Value) :
    Below B w0 ((((((w.setCell ⟨o, 1, none⟩ r).setCell ⟨o, 2, none⟩ a).setCell ⟨o, 3, none⟩ b).setCell ⟨o, 4, none⟩ c).setCell ⟨o, 5, none⟩ d).setCell ⟨s, 7, none⟩ n) :=
  (((((h.setCell ho _).setCell ho _).setCell ho _).setCell ho _).setCell ho _).setCell hs _
end Go.Proofs.YtjbmphfgckhaeaaDoor
