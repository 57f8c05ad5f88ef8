/-
  Words for memory: a block that is known whole, and what the calls of the library ask of the world (the sentinels' cells, the tables of unicode/utf8). No condition.
-/
import Derived.Below
import Derived.Laws.OwnMore
import Derived.Deep.Draws
import Derived.Laws.Rows
import Derived.Lib.Hide
import Derived.Lib.SmallJoins
import Derived.Test.YtjbmphfgckhaeaaDoorShelf
import Derived.Test.YtjbmphfgckhaeaaDoorModel
namespace Go.Proofs.YtjbmphfgckhaeaaDoor
open Go.RowKit

def Blk (w : World) (g : Nat) (t : TypeId) (cs : Array Value) : Prop := w.heap[g]? = some (.cells cs t (0, 0))

section
variable {w w' : World} {g : Nat} {t : TypeId} {cs : Array Value}
theorem Blk.lt (h : Blk w g t cs) : g < w.heap.size := by
  rcases Nat.lt_or_ge g w.heap.size with hlt | hge
  · exact hlt
  · unfold Blk at h; rw [Array.getElem?_eq_none hge] at h; cases h
theorem Blk.cell (h : Blk w g t cs) (i : Nat) : w.cell? ⟨g, i, none⟩ = cs[i]? := cell_of_row w g i cs t (0, 0) h
theorem Blk.frozen (h : Blk w g t cs) (i : Nat) : w.frozen? ⟨g, i, none⟩ = false := by
  unfold Blk at h
  simp [World.frozen?, h]
theorem Blk.new (w : World) (t : TypeId) (cs : Array Value) : Blk (w.alloc (.cells cs t)) w.heap.size t cs := heap_alloc_new w _
theorem Blk.drew (h : Blk w g t cs) : Blk w.drew g t cs := h
theorem Blk.drewN (h : Blk w g t cs) (n : Nat) : Blk (w.drewN n) g t cs := h
theorem Blk.alloc (h : Blk w g t cs) (o : Obj) : Blk (w.alloc o) g t cs := (Below.heap_alloc w o g h.lt).trans h
theorem Blk.set_ (h : Blk w g t cs) (i : Nat) (u : Value) : Blk (w.setCell ⟨g, i, none⟩ u) g t (cs.setIfInBounds i u) := by
  unfold Blk at h ⊢
  simp [World.setCell, Array.getElem?_modify, h]
theorem Blk.far (h : Blk w g t cs) {p : Addr} (hp : g ≠ p.block) (u : Value) : Blk (w.setCell p u) g t cs := (Below.heap_setCell w p u g hp).trans h
theorem Blk.below {B : Nat} (h : Blk w g t cs) (hb : Below B w w') (hg : g < B) : Blk w' g t cs := (hb.block g hg).trans h
theorem Blk.grown {row : Option Nat} (h : Blk w g t cs) (hb : w.grownBy w' row) (hg : some g ≠ row) : Blk w' g t cs := (hb.block g h.lt hg).trans h
theorem Blk.ne_ {g' : Nat} {t' : TypeId} {cs' : Array Value} (h : Blk w g t cs) (h' : Blk w g' t' cs') (hne : t ≠ t') : g ≠ g' := by
  rintro rfl
  unfold Blk at h h'
  rw [h] at h'
  injection h' with h'
  injection h' with _ ht
  exact hne ht
theorem own_blk_ne {base : Nat} {e : TypeId} {size n : Nat} {v : Value} {xs : List Value} (h : w.ownsRow base e size v n xs) (hg : Blk w g t cs) (hne : e ≠ t) : v.ownBlock ≠ some g := by
  rcases h.2 with ⟨rfl, _⟩ | ⟨g', cap, cur, rfl, _, hh, _⟩
  · simp [Value.ownBlock]
  · intro he
    have : g' = g := by simpa [Value.ownBlock] using he
    subst this
    exact Blk.ne_ (t := e) hh hg hne rfl
end

theorem hide {p : Prop} (h : p) : Hid p := h
theorem unhide {p : Prop} (h : Hid p) : p := h
theorem below_drewN {B : Nat} {a w : World} (h : Below B a w) (n : Nat) : Below B a (w.drewN n) := ⟨h.os, h.tape, h.output, h.size, h.block⟩

/-- What the library's calls ask: the two tables of unicode/utf8 (blocks 0 and 1), the two sentinels of strconv (blocks 2 and 3). -/
structure G (w : World) : Prop where
  tabs : Lib.Utf8Tabs 0 1 w
  syn : ∃ t p, w.cell? ⟨2, 0, none⟩ = some (.iface t p)
  ran : ∃ t p, w.cell? ⟨3, 0, none⟩ = some (.iface t p)
  big : 4 ≤ w.heap.size
theorem G.below {B : Nat} {w w' : World} (h : G w) (hb : Below B w w') (hB : 4 ≤ B) : G w' := by
  obtain ⟨⟨h1, h2⟩, ⟨t, p, h3⟩, ⟨t', p', h4⟩, h5⟩ := h
  refine ⟨⟨fun c hc => ?_, fun i hi => ⟨?_, ?_⟩⟩, ⟨t, p, ?_⟩, ⟨t', p', ?_⟩, Nat.le_trans h5 hb.size⟩
  · rw [hb.cell (p := ⟨0, c, none⟩) (by show 0 < B; omega)]; exact h1 c hc
  · rw [hb.cell (p := ⟨1, 2 * i, none⟩) (by show 1 < B; omega)]; exact (h2 i hi).1
  · rw [hb.cell (p := ⟨1, 2 * i + 1, none⟩) (by show 1 < B; omega)]; exact (h2 i hi).2
  · rw [hb.cell (p := ⟨2, 0, none⟩) (by show 2 < B; omega)]; exact h3
  · rw [hb.cell (p := ⟨3, 0, none⟩) (by show 3 < B; omega)]; exact h4
theorem G.step {w w' : World} (h : G w) (hb : Below w.heap.size w w') : G w' := h.below hb h.big
theorem G.drew {w : World} (h : G w) : G w.drew := h.step (Below.refl _ _).drew
theorem G.drewN {w : World} (h : G w) (n : Nat) : G (w.drewN n) := h.step (below_drewN (Below.refl _ _) n)

/-- strconv.ParseInt(s, 10, 32), whatever s is. -/
def PIr (s : ByteArray) (w : World) (e : Ending) (w' : World) : Prop :=
  ∃ (v : Int) (err : Value), e = .returned (.tuple #[.int .i64 v, err]) ∧ Below w.heap.size w w' ∧
    ((Lib.parseIntB 32 s.data.toList = .ok v ∧ err = .nilIface) ∨ (Lib.parseIntB 32 s.data.toList = .range ∧ v = Lib.intSat 32 s.data.toList ∧ ∃ p, err = .iface 120 p) ∨
      (∃ p, err = .iface 120 p))
theorem pint_any (s : ByteArray) (w : World) (hs : s.size ≤ 140737488351232) (hG : G w) : Calls Tryd.prog 45 #[.string s, .int .i64 10, .int .i64 32] w (PIr s w) := by
  cases h : Lib.parseIntB 32 s.data.toList
  · refine (Tryd.strconv_ParseInt_10_at32_ok s (by omega) _ h w).mono fun e w' ⟨he, hw⟩ => ⟨_, _, he, ?_, .inl ⟨h, rfl⟩⟩
    rcases hw with rfl | ⟨t, rfl⟩
    · exact Below.refl _ _
    · exact Joins.below_bytesWorld _ _ _ _ (Nat.le_refl _)
  · obtain ⟨t, p, hc⟩ := hG.syn
    exact (Tryd.strconv_ParseInt_10_at32_bad s (by omega) (fun v e => by rw [h] at e; cases e) (fun e => by rw [h] at e; cases e) _ w hc (.inr ⟨t, p, rfl⟩)).mono fun e w' ⟨N, he, _, _, hb⟩ => ⟨_, _, he, hb, .inr (.inr ⟨_, rfl⟩)⟩
  · obtain ⟨t, p, hc⟩ := hG.ran
    exact (Tryd.strconv_ParseInt_10_at32_range s (by omega) h _ w hc (.inr ⟨t, p, rfl⟩)).mono fun e w' ⟨N, he, _, _, hb⟩ => ⟨_, _, he, hb, .inr (.inl ⟨h, rfl, _, rfl⟩)⟩
/-- strconv.ParseInt of a run of digits: the number, or the greatest int32 and an error. -/
theorem pint_digits (s : ByteArray) (w : World) (hs : s.size ≤ 140737488351232) (hG : G w) (hne : s.data.toList ≠ []) (hd : s.data.toList.all isD = true) :
    Calls Tryd.prog 45 #[.string s, .int .i64 10, .int .i64 32] w fun e w' => ∃ err, e = .returned (.tuple #[.int .i64 (min (dv s.data.toList) mx32 : Nat), err]) ∧ Below w.heap.size w w' ∧
      ((dv s.data.toList ≤ mx32 ∧ err = .nilIface) ∨ (mx32 < dv s.data.toList ∧ ∃ p, err = .iface 120 p)) := by
  have hp := pI_digits _ hne hd
  by_cases hle : dv s.data.toList ≤ mx32
  · rw [if_pos hle] at hp
    refine (Tryd.strconv_ParseInt_10_at32_ok s (by omega) _ hp w).mono fun e w' ⟨he, hw⟩ => ⟨.nilIface, by rw [he, Nat.min_eq_left hle], ?_, .inl ⟨hle, rfl⟩⟩
    rcases hw with rfl | ⟨t, rfl⟩
    · exact Below.refl _ _
    · exact Joins.below_bytesWorld _ _ _ _ (Nat.le_refl _)
  · rw [if_neg hle] at hp
    obtain ⟨t, p, hc⟩ := hG.ran
    refine (Tryd.strconv_ParseInt_10_at32_range s (by omega) hp _ w hc (.inr ⟨t, p, rfl⟩)).mono fun e w' ⟨N, he, _, _, hb⟩ => ⟨.iface 120 (.pointer (some ⟨N, 0, none⟩)), by rw [he, sat_digits _ hd, Nat.min_eq_right (by omega)], hb, .inr ⟨by omega, _, rfl⟩⟩
end Go.Proofs.YtjbmphfgckhaeaaDoor
namespace Go.Proofs.YtjbmphfgckhaeaaDoor
open Go.RowKit
/-- The parser's state (block s) and its operation (block o). -/
def sCells (o : Nat) (first : Int) (st : St) : Array Value :=
  #[.pointer (some ⟨o, 0, none⟩), .int .i64 first, .int .i64 st.an, .bool st.hi, .int .i64 st.ix, .int .i64 st.ip, .bool st.pd, .int .i64 st.nb]
def oCells (t : ByteArray) (st : St) : Array Value :=
  #[.string t, .int .i32 0, .int .i64 0, .int .i64 0, .int .i64 0, .int .i64 0, .int .i64 0, .int .i64 0, .string st.fl,
    .int .i64 st.wd.fix, .int .i64 st.wd.dyn, .int .i64 st.wd.idx, .int .i64 st.wd.st, .int .i64 st.wd.en,
    .int .i64 st.pr.fix, .int .i64 st.pr.dyn, .int .i64 st.pr.idx, .int .i64 st.pr.st, .int .i64 st.pr.en]
structure PS (w : World) (s o : Nat) (t : ByteArray) (first : Int) (st : St) : Prop where
  sb : Blk w s 94 (sCells o first st)
  ob : Blk w o 70 (oCells t st)
theorem PS.ne {w : World} {s o : Nat} {t : ByteArray} {first : Int} {st : St} (h : PS w s o t first st) : s ≠ o := h.sb.ne_ h.ob (by decide)
end Go.Proofs.YtjbmphfgckhaeaaDoor
namespace Go.Proofs.YtjbmphfgckhaeaaDoor
open Go.RowKit
section
variable {w : World} {s o : Nat} {t : ByteArray} {first : Int} {st : St}
theorem PS.drewN (h : PS w s o t first st) (n : Nat) : PS (w.drewN n) s o t first st := ⟨h.sb, h.ob⟩
theorem PS.drew (h : PS w s o t first st) : PS w.drew s o t first st := ⟨h.sb, h.ob⟩
theorem PS.below {B : Nat} {w' : World} (h : PS w s o t first st) (hb : Below B w w') (hs : s < B) (ho : o < B) : PS w' s o t first st := ⟨h.sb.below hb hs, h.ob.below hb ho⟩
theorem PS.step {w' : World} (h : PS w s o t first st) (hb : Below w.heap.size w w') : PS w' s o t first st := h.below hb h.sb.lt h.ob.lt
theorem PS.setNb (h : PS w s o t first st) (v : Int) (n : Nat) (hv : v = (n : Int)) : PS (w.setCell ⟨s, 7, none⟩ (.int .i64 v)) s o t first { st with nb := n } := by
  subst hv
  exact ⟨h.sb.set_ 7 _, h.ob.far (p := ⟨s, 7, none⟩) h.ne.symm _⟩
theorem PS.setAn (h : PS w s o t first st) (v n : Int) (hv : v = n) : PS (w.setCell ⟨s, 2, none⟩ (.int .i64 v)) s o t first { st with an := n } := by
  subst hv
  exact ⟨h.sb.set_ 2 _, h.ob.far (p := ⟨s, 2, none⟩) h.ne.symm _⟩
theorem PS.setHi (h : PS w s o t first st) (b : Bool) : PS (w.setCell ⟨s, 3, none⟩ (.bool b)) s o t first { st with hi := b } :=
  ⟨h.sb.set_ 3 _, h.ob.far (p := ⟨s, 3, none⟩) h.ne.symm _⟩
theorem PS.setIx (h : PS w s o t first st) (v n : Int) (hv : v = n) : PS (w.setCell ⟨s, 4, none⟩ (.int .i64 v)) s o t first { st with ix := n } := by
  subst hv
  exact ⟨h.sb.set_ 4 _, h.ob.far (p := ⟨s, 4, none⟩) h.ne.symm _⟩
theorem PS.setIp (h : PS w s o t first st) (v n : Int) (hv : v = n) : PS (w.setCell ⟨s, 5, none⟩ (.int .i64 v)) s o t first { st with ip := n } := by
  subst hv
  exact ⟨h.sb.set_ 5 _, h.ob.far (p := ⟨s, 5, none⟩) h.ne.symm _⟩
theorem PS.setPd (h : PS w s o t first st) (b : Bool) : PS (w.setCell ⟨s, 6, none⟩ (.bool b)) s o t first { st with pd := b } :=
  ⟨h.sb.set_ 6 _, h.ob.far (p := ⟨s, 6, none⟩) h.ne.symm _⟩
end
end Go.Proofs.YtjbmphfgckhaeaaDoor
namespace Go.Proofs.YtjbmphfgckhaeaaDoor
open Go.RowKit
section
variable {w : World} {s o : Nat} {t : ByteArray} {first : Int} {st : St}
theorem PS.setWd (h : PS w s o t first st) (z : Sz) :
    PS (((((w.setCell ⟨o, 9, none⟩ (.int .i64 z.fix)).setCell ⟨o, 10, none⟩ (.int .i64 z.dyn)).setCell ⟨o, 11, none⟩ (.int .i64 z.idx)).setCell ⟨o, 12, none⟩ (.int .i64 z.st)).setCell ⟨o, 13, none⟩ (.int .i64 z.en)) s o t first { st with wd := z } :=
  ⟨((((h.sb.far (p := ⟨o, 9, none⟩) h.ne _).far (p := ⟨o, 10, none⟩) h.ne _).far (p := ⟨o, 11, none⟩) h.ne _).far (p := ⟨o, 12, none⟩) h.ne _).far (p := ⟨o, 13, none⟩) h.ne _,
    ((((h.ob.set_ 9 _).set_ 10 _).set_ 11 _).set_ 12 _).set_ 13 _⟩
theorem PS.setPr (h : PS w s o t first st) (z : Sz) :
    PS (((((w.setCell ⟨o, 14, none⟩ (.int .i64 z.fix)).setCell ⟨o, 15, none⟩ (.int .i64 z.dyn)).setCell ⟨o, 16, none⟩ (.int .i64 z.idx)).setCell ⟨o, 17, none⟩ (.int .i64 z.st)).setCell ⟨o, 18, none⟩ (.int .i64 z.en)) s o t first { st with pr := z } :=
  ⟨((((h.sb.far (p := ⟨o, 14, none⟩) h.ne _).far (p := ⟨o, 15, none⟩) h.ne _).far (p := ⟨o, 16, none⟩) h.ne _).far (p := ⟨o, 17, none⟩) h.ne _).far (p := ⟨o, 18, none⟩) h.ne _,
    ((((h.ob.set_ 14 _).set_ 15 _).set_ 16 _).set_ 17 _).set_ 18 _⟩
end
end Go.Proofs.YtjbmphfgckhaeaaDoor
