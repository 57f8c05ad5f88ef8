/-
  Words for the walk of laws.FnWrittenIsParsed: the size test whatever the list, the text that the first loop builds, the world of the second loop. No condition.
-/
import Derived.Test.YtjbmphfgckhaeaaDoorNl
import Derived.Test.YtjbmphfgckhaeaaDoorTwo
namespace Go.Proofs.YtjbmphfgckhaeaaDoor
open Go.RowKit

theorem fits_all (a : Addr) (n cap : Nat) (vs : List TV) (w : World) (hn : vs.length = n) (hl : Lies w a vs) (ha : 0 < n → a.block < w.heap.size) : Calls Tryd.prog 17 #[.slice (some a) n cap] w (Fit1 vs w) := by
  by_cases h : n ≤ 2147483647
  · exact fits1_any a n cap vs w hn hl ha h
  · exact fits1_big a n cap vs w (by omega)

/-- A told operation's cells and lists tell t. -/
def Tells (w : World) (t : TO) (v : TV) : Prop := t.ok ∧ ∃ fs ws ps, Says t v fs ws ps ∧ Ints w v.p1 v.n1 fs ∧ Ints w v.p2 v.n2 ws ∧ Ints w v.p3 v.n3 ps
/-- The text that is built out of the first k operations. -/
def Built (w : World) (vs : List TV) (k : Nat) (s : ByteArray) : Prop := ∃ ts : List TO, ts.length = k ∧ s = mk (told ts) ∧ ∀ (j : Nat) (t : TO), ts[j]? = some t → ∃ v, vs[j]? = some v ∧ Tells w t v
theorem told_snoc : ∀ (ts : List TO) (t : TO), told (ts ++ [t]) = told ts ++ (t.op ++ t.tx)
  | [], t => by simp [told]
  | u :: r, t => by
    show (u.op ++ u.tx) ++ told (r ++ [t]) = (u.op ++ u.tx) ++ told r ++ _
    rw [told_snoc r t]
    simp only [List.append_assoc]
theorem Built.start (w : World) (vs : List TV) : Built w vs 0 ⟨#[]⟩ := ⟨[], rfl, rfl, fun j t h => by cases h⟩
theorem Built.step {w : World} {vs : List TV} {k : Nat} {s : ByteArray} (h : Built w vs k s) {v : TV} (hv : vs[k]? = some v) {t : TO} (ht : Tells w t v) : Built w vs (k + 1) (s ++ mk (t.op ++ t.tx)) := by
  obtain ⟨ts, hl, hs, hT⟩ := h
  refine ⟨ts ++ [t], by simp [hl], ?_, fun j u hu => ?_⟩
  · rw [hs, mk_app, told_snoc]
  · by_cases hj : j < ts.length
    · rw [List.getElem?_append_left hj] at hu
      exact hT j u hu
    · rw [List.getElem?_append_right (by omega)] at hu
      have hj0 : j - ts.length = 0 := by
        rcases Nat.eq_zero_or_pos (j - ts.length) with h0 | h0
        · exact h0
        · rw [List.getElem?_eq_none (by simp; omega)] at hu
          cases hu
      rw [hj0] at hu
      have hu' : t = u := by simpa using hu
      subst hu'
      exact ⟨v, by rw [show j = k from by omega]; exact hv, ht⟩
/-- How long a told operation's text is. -/
theorem tells_len {w : World} {t : TO} {v : TV} (h : Tells w t v) (hf : v.fits) : (mk (t.op ++ t.tx)).size ≤ 4294967400 := by
  obtain ⟨_, fs, ws, ps, hs, h1, _, _⟩ := h
  obtain ⟨f1, _, _, f4⟩ := hf
  rw [mk_size', List.length_append]
  have e1 := op_len_le t
  have e2 : t.fl.length = v.n1 := by rw [hs.fl, List.length_map]; exact h1.len
  have e3 : v.tx.size = t.tx.length := by rw [hs.tx, mk_size']
  omega
/-- impl.Parse on the text that was built. -/
theorem told_row (ts : List TO) (hok : ∀ t ∈ ts, t.ok) (n : Nat) (hl : ts.length = n) (h0 : 0 < n) (hn : n ≤ 1000) (idx : Int) (W : World) (hG : G W) (hs : (told ts).length ≤ 500000000000) (hi0 : 0 ≤ idx) (hi1 : idx ≤ 999999999) :
    ∃ xs, Tolds (idx + 1) ts xs (idx + 1) ∧ xs.length = n ∧ Calls Tryd.prog 14 #[.string (mk (told ts)), .int .i64 idx] W fun e w' => ∃ g cap : Nat,
      e = .returned (.tuple #[.slice (some ⟨g, 0, none⟩) n cap, .bool true]) ∧ OpsRow w' g xs ∧ g < w'.heap.size ∧ W.heap.size ≤ g ∧ Below W.heap.size W w' := by
  obtain ⟨xs, hT, hxl, hC⟩ := iparse_told ts hok (by rintro rfl; simp at hl; omega) (by omega) idx W hG hs hi0 hi1
  have hxn : xs.length = n := by omega
  refine ⟨xs, hT, hxn, hC.mono ?_⟩
  rintro e w' ⟨v, rfl, hown, hb⟩
  rw [hxn] at hown
  obtain ⟨g, cap, rfl⟩ : ∃ g cap, v = .slice (some ⟨g, 0, none⟩) n cap := by
    rcases hown.2 with ⟨_, h0⟩ | ⟨g, cap, cur, hv, _⟩
    · omega
    · exact ⟨g, cap, hv⟩
  have hr := OpsRow.of hxn hown
  refine ⟨g, cap, rfl, hr, hr.lt (by omega), ?_, hb⟩
  rcases hown.2 with ⟨h0, _⟩ | ⟨g', cap', cur, hv, hB, _⟩
  · cases h0
  · injection hv with hv
    injection hv with hv
    injection hv with hv
    subst hv
    exact hB

/-! ### The world of the second loop: below q all is as it was; block q holds the next argument's number; some blocks of the round's own are known whole. -/
structure Fr (w3 : World) (q : Nat) (nx : Int) (bs : List (Nat × TypeId × Array Value)) (W : World) : Prop where
  bw : Below q w3 W
  nb : Blk W q 3 #[.int .i64 nx]
  bl : ∀ b ∈ bs, q < b.1 ∧ Blk W b.1 b.2.1 b.2.2
  ne : bs.Pairwise (fun a b => b.1 < a.1)
section
variable {w3 W : World} {q : Nat} {nx : Int} {bs : List (Nat × TypeId × Array Value)}
theorem Fr.size (h : Fr w3 q nx bs W) : q < W.heap.size := h.nb.lt
theorem Fr.blk (h : Fr w3 q nx bs W) {b : Nat} {t : TypeId} {cs : Array Value} (hb : (b, t, cs) ∈ bs) : Blk W b t cs := (h.bl _ hb).2
theorem Fr.alloc (h : Fr w3 q nx bs W) (o : Obj) : Fr w3 q nx bs (W.alloc o) :=
  ⟨h.bw.alloc (Nat.le_of_lt h.size) o, h.nb.alloc o, fun b hb => ⟨(h.bl b hb).1, (h.bl b hb).2.alloc o⟩, h.ne⟩
theorem Fr.drewN (h : Fr w3 q nx bs W) (n : Nat) : Fr w3 q nx bs (W.drewN n) := ⟨below_drewN h.bw n, h.nb, h.bl, h.ne⟩
theorem Fr.drew (h : Fr w3 q nx bs W) : Fr w3 q nx bs W.drew := ⟨h.bw.drew, h.nb, h.bl, h.ne⟩
theorem Fr.tail {b : Nat × TypeId × Array Value} (h : Fr w3 q nx (b :: bs) W) : Fr w3 q nx bs W := ⟨h.bw, h.nb, fun c hc => h.bl c (by simp [hc]), (List.pairwise_cons.1 h.ne).2⟩
theorem Fr.head {b : Nat} {t : TypeId} {cs : Array Value} (h : Fr w3 q nx ((b, t, cs) :: bs) W) : Blk W b t cs := (h.bl (b, t, cs) (by simp)).2
/-- A new block. -/
theorem Fr.new (h : Fr w3 q nx bs W) (t : TypeId) (cs : Array Value) : Fr w3 q nx ((W.heap.size, t, cs) :: bs) (W.alloc (.cells cs t)) := by
  have h' := h.alloc (.cells cs t)
  refine ⟨h'.bw, h'.nb, fun b hb => ?_, List.pairwise_cons.2 ⟨fun b hb => (h.bl b hb).2.lt, h.ne⟩⟩
  rcases List.mem_cons.1 hb with rfl | hb
  · exact ⟨h.size, Blk.new W t cs⟩
  · exact h'.bl b hb
/-- A new block whose cells are then stored, all of them. -/
theorem Fr.box (h : Fr w3 q nx bs W) (t : TypeId) (zs ds : Array Value) (hs : ds.size = zs.size) : Fr w3 q nx ((W.heap.size, t, ds) :: bs) ((W.alloc (.cells zs t)).setCells W.heap.size 0 ds.toList) := by
  have h' := h.alloc (.cells zs t)
  have hq := h.size
  refine ⟨below_cells h'.bw (Nat.le_of_lt hq) 0 _, h'.nb.cells_far (Nat.ne_of_lt hq) 0 _, fun b hb => ?_, List.pairwise_cons.2 ⟨fun b hb => (h.bl b hb).2.lt, h.ne⟩⟩
  rcases List.mem_cons.1 hb with rfl | hb
  · exact ⟨hq, (Blk.new W t zs).cells_all ds hs⟩
  · exact ⟨(h.bl b hb).1, (h'.bl b hb).2.cells_far (Nat.ne_of_lt (h.bl b hb).2.lt) 0 _⟩
/-- A cell of the youngest block is stored. -/
theorem Fr.set_ {b : Nat} {t : TypeId} {cs : Array Value} (h : Fr w3 q nx ((b, t, cs) :: bs) W) (i : Nat) (u : Value) : Fr w3 q nx ((b, t, cs.setIfInBounds i u) :: bs) (W.setCell ⟨b, i, none⟩ u) := by
  have hq : q < b := (h.bl (b, t, cs) (by simp)).1
  have hn := List.pairwise_cons.1 h.ne
  refine ⟨h.bw.setCell (p := ⟨b, i, none⟩) (Nat.le_of_lt hq) u, h.nb.far (p := ⟨b, i, none⟩) (Nat.ne_of_lt hq) u, fun c hc => ?_, List.pairwise_cons.2 ⟨hn.1, hn.2⟩⟩
  rcases List.mem_cons.1 hc with rfl | hc
  · exact ⟨hq, (h.blk (b := b) (t := t) (cs := cs) (by simp)).set_ i u⟩
  · exact ⟨(h.bl c (by simp [hc])).1, (h.bl c (by simp [hc])).2.far (p := ⟨b, i, none⟩) (Nat.ne_of_lt (hn.1 c hc)) u⟩
/-- The next argument's number is stored. -/
theorem Fr.next (h : Fr w3 q nx bs W) (m : Int) : Fr w3 q m bs (W.setCell ⟨q, 0, none⟩ (.int .i64 m)) :=
  ⟨h.bw.setCell (p := ⟨q, 0, none⟩) (Nat.le_refl _) _, h.nb.set_ 0 _, fun b hb => ⟨(h.bl b hb).1, (h.bl b hb).2.far (p := ⟨q, 0, none⟩) (Nat.ne_of_gt (h.bl b hb).1) _⟩, h.ne⟩
end
theorem Fr.arg_no {w3 W : World} {q p : Nat} {nx n idx : Int} {bs : List (Nat × TypeId × Array Value)} (h : Fr w3 q nx bs W) (h1 : w3.cell? ⟨p, 0, none⟩ = some (.int .i64 idx)) (hp : p < q) (hn : n ≤ 0) (b0 : 0 ≤ nx) (b1 : nx ≤ 4000000000) :
    Calls Tryd.prog 19 #[.int .i64 n, .pointer (some ⟨p, 0, none⟩), .pointer (some ⟨q, 0, none⟩)] W fun e w' => e = .returned (.int .i64 nx) ∧ Fr w3 q (nx + 1) bs w' :=
  (Go.Proofs.YtjbmphfgckhaeaaDoor.arg_no n idx nx p q W (by rw [h.bw.cell hp]; exact h1) (h.nb.cell 0) (h.nb.frozen 0) hn b0 b1).mono fun e w' ⟨h2, h3⟩ => ⟨h2, by rw [h3]; exact h.next _⟩
theorem Fr.arg_yes {w3 W : World} {q p : Nat} {nx n idx : Int} {bs : List (Nat × TypeId × Array Value)} (h : Fr w3 q nx bs W) (h1 : w3.cell? ⟨p, 0, none⟩ = some (.int .i64 idx)) (hp : p < q) (hn : 0 < n) (hm : n ≤ 1000000) (b0 : 0 ≤ idx) (b1 : idx ≤ 1000000000) :
    Calls Tryd.prog 19 #[.int .i64 n, .pointer (some ⟨p, 0, none⟩), .pointer (some ⟨q, 0, none⟩)] W fun e w' => e = .returned (.int .i64 (idx + n)) ∧ Fr w3 q (idx + n + 1) bs w' :=
  (Go.Proofs.YtjbmphfgckhaeaaDoor.arg_yes n idx nx p q W (by rw [h.bw.cell hp]; exact h1) (h.nb.cell 0) (h.nb.frozen 0) hn hm b0 b1).mono fun e w' ⟨h2, h3⟩ => ⟨h2, by rw [h3]; exact (h.next _).next _⟩
theorem flag_eq (fs : List Int) (jj m : Nat) (hz : fs[jj]? = some (m : Int)) (fl : ByteArray) (e : fl = mk (fs.map flagC)) (h : jj < fl.size) (hm : m < (⟨#[35, 48, 43, 45, 32]⟩ : ByteArray).size) :
    ((fl[jj].toNat : Int) != ((⟨#[35, 48, 43, 45, 32]⟩ : ByteArray)[m].toNat : Int)) = false := by
  have h1 := get_data fl jj h
  have h2 : fl.data.toList = fs.map flagC := by rw [e, mk_data]
  rw [h2, List.getElem?_map, hz] at h1
  have h3 : flagC (m : Int) = fl[jj] := Option.some.inj h1
  have h4 : flagC (m : Int) = (⟨#[35, 48, 43, 45, 32]⟩ : ByteArray)[m] := by
    have h5 : m < 5 := hm
    have : m = 0 ∨ m = 1 ∨ m = 2 ∨ m = 3 ∨ m = 4 := by omega
    rcases this with rfl | rfl | rfl | rfl | rfl <;> rfl
  rw [← h3, h4]
  exact bne_self_eq_false _
/-- Cells out of the middle of a block. -/
theorem Blk.mid {w : World} {g : Nat} {t : TypeId} {cs : Array Value} (h : Blk w g t cs) (k : Nat) (vs : List Value) (hv : ∀ j v, vs[j]? = some v → cs[k + j]? = some v) : w.rangeAt g k vs := fun j v hj => by
  rw [h.cell]
  exact hv j v hj
theorem Blk.part {w : World} {g : Nat} {t : TypeId} {cs : Array Value} (h : Blk w g t cs) (k : Nat) (vs : List Value) (e : (cs.toList.drop k).take vs.length = vs) : w.rangeAt g k vs :=
  h.mid k vs fun j v hj => by
    have hlt : j < vs.length := (List.getElem?_eq_some_iff.1 hj).1
    rw [← e, List.getElem?_take, if_pos hlt, List.getElem?_drop] at hj
    rw [← Array.getElem?_toList]
    exact hj
/-- The next argument's number ahead of the j-th size (of both: behind them). -/
def nxs (t : TO) (first an : Int) : Nat → Int
  | 0 => an
  | 1 => t.a1 first an
  | _ => t.a2 first an
theorem nx_bound {w : Wr} (hw : w.ok) {first an M : Int} (f1 : 1 ≤ first) (f2 : first ≤ 1000) (h0 : 0 ≤ an) (hM : an ≤ M) (h3 : 3000 ≤ M) : 0 ≤ w.nx first an ∧ w.nx first an ≤ M + 1 := by
  cases w with
  | no => exact ⟨h0, by show an ≤ M + 1; omega⟩
  | num n => exact ⟨h0, by show an ≤ M + 1; omega⟩
  | star => exact ⟨by show 0 ≤ an + 1; omega, by show an + 1 ≤ M + 1; omega⟩
  | «at» n =>
    have := hw.1
    have := hw.2
    exact ⟨by show 0 ≤ (n : Int) + (first - 1) + 1; omega, by show (n : Int) + (first - 1) + 1 ≤ M + 1; omega⟩
structure AB (t : TO) (first an M : Int) : Prop where
  l1 : 0 ≤ t.a1 first an
  u1 : t.a1 first an ≤ M + 1
  l2 : 0 ≤ t.a2 first an
  u2 : t.a2 first an ≤ M + 2
  l3 : 0 ≤ t.a3 first an
  u3 : t.a3 first an ≤ M + 2
theorem a_bounds {t : TO} (ht : t.ok) {first an M : Int} (f1 : 1 ≤ first) (f2 : first ≤ 1000) (h0 : 0 ≤ an) (hM : an ≤ M) (h3 : 3000 ≤ M) : AB t first an M := by
  obtain ⟨h1, h2⟩ := nx_bound ht.wd f1 f2 h0 hM h3
  obtain ⟨h4, h5⟩ := nx_bound ht.pr f1 f2 h1 h2 (by omega)
  have h6 : 0 ≤ t.a2 first an := h4
  have h7 : t.a2 first an ≤ M + 2 := by
    have : t.a2 first an ≤ M + 1 + 1 := h5
    omega
  have hx := ht.ix
  refine ⟨h1, h2, h6, h7, ?_, ?_⟩ <;> unfold TO.a3 <;> split <;> omega
theorem anAt_bound {first : Int} (f1 : 1 ≤ first) (f2 : first ≤ 1000) : ∀ {ts : List TO} {an M : Int} (k : Nat), (∀ t ∈ ts, t.ok) → 0 ≤ an → an ≤ M → 3000 ≤ M → 0 ≤ anAt first ts an k ∧ anAt first ts an k ≤ M + 3 * k
  | [], an, M, k, _, h0, hM, _ => by
    cases k <;> exact ⟨h0, by show an ≤ _; omega⟩
  | t :: ts, an, M, 0, _, h0, hM, _ => ⟨h0, by show an ≤ _; omega⟩
  | t :: ts, an, M, k + 1, hok, h0, hM, h3 => by
    have b := a_bounds (hok t (by simp)) f1 f2 h0 hM h3
    have := anAt_bound (ts := ts) (an := t.a3 first an + 1) (M := M + 3) f1 f2 k (fun u hu => hok u (by simp [hu])) (by have := b.l3; omega) (by have := b.u3; omega) (by omega)
    show 0 ≤ anAt first ts (t.a3 first an + 1) k ∧ anAt first ts (t.a3 first an + 1) k ≤ _
    omega
end Go.Proofs.YtjbmphfgckhaeaaDoor
