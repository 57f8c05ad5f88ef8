/-
  zzFits1: whether a list of told operations holds nothing too long. No condition but the list's cells.
  zzFits1: whether a list of told operations holds nothing too long. Conditions: the list's cells (Lies).
  What laws.written reads off a told operation's cells, and the operation that it tells of. No program in sight. No condition.
  The closure of laws.FnWrittenIsParsed that numbers the arguments. Conditions: the two cells that it captures.
-/
import Derived.Test.YtjbmphfgckhaeaaDoorGn
import Derived.Deep.DeepCutAuto
import Derived.Deep.QuietTactic
import Derived.BigQuiet
namespace Go.Proofs.YtjbmphfgckhaeaaDoor
open Go.RowKit

/-- The cells from address a on. -/
def At (w : World) (a : Addr) (cs : List Value) : Prop := ∀ j v, cs[j]? = some v → w.cell? (a.add j) = some v
theorem wp_load_at {P : Program} {op : Oper} {a : Act} {w : World} {K : Act → World → Prop} {Q : Exit → Act → World → Prop} (ty : TypeId) (x : Operand) (ho : op.op = .load ty x)
    (p : Addr) (hx : a.eval x = .pointer (some p)) (cs : List Value) (d : TypeDesc) (hc : At w p cs)
    (hu : P.underlying ty = some d) (hd : d.isRow = true) (hi : (P.info? ty).map (·.size) = some cs.length)
    (h : K (a.put op.dst (.agg cs.toArray)) w) : op.wp P a w K Q := by
  have hl : (loadCells p cs.length).run P w = .ok cs.toArray w := run_loadCells_list (P := P) w p cs hc
  have hv : (loadVar ty p).run P w = .ok (.agg cs.toArray) w := by
    cases hq : P.info? ty with
    | none => simp [hq] at hi
    | some i =>
      have hs : i.size = cs.length := by simpa [hq] using hi
      have hagg : (isAgg ty).run P w = .ok true w := by
        unfold isAgg
        rw [Sem.run_bind, run_underlying hu w]
        cases d <;> simp_all
      simp [loadVar, Sem.run_bind, hagg, sizeOf, typeInfo, hq, hs, hl]
  unfold Oper.wp execOp
  simp only [ho, hx, Instr.loadAt, Instr.sureAddr, Sem.run_bind, Sem.run_pure, Result.andThen_ok, hv]
  exact h
theorem wpList_load_at {P : Program} {ops : Array Oper} {rest : List Oper} {op : Oper} {a : Act} {w : World} {Q : Exit → Act → World → Prop} (hgd : op.guard = none) (ty : TypeId) (x : Operand) (ho : op.op = .load ty x)
    (p : Addr) (hx : a.eval x = .pointer (some p)) (cs : List Value) (d : TypeDesc) (hc : At w p cs)
    (hu : P.underlying ty = some d) (hd : d.isRow = true) (hi : (P.info? ty).map (·.size) = some cs.length)
    (h : wpList P ops Q rest (a.put op.dst (.agg cs.toArray)) w) : wpList P ops Q (op :: rest) a w :=
  wpList_plain hgd fun _ hK => wp_load_at ty x ho p hx cs d hc hu hd hi (hK _ _ h)
/-- The list of told operations, as it lies. -/
def Lies (w : World) (a : Addr) (vs : List TV) : Prop := ∀ i v, vs[i]? = some v → At w (a.add (i * 6)) (tvCells v).toList
theorem At.below {w w' : World} {a : Addr} {cs : List Value} {B : Nat} (h : At w a cs) (hb : Below B w w') (ha : a.block < B) : At w' a cs := fun j v hv => by
  rw [← h j v hv]
  exact hb.cell (by rw [Addr.add]; split <;> exact ha)
end Go.Proofs.YtjbmphfgckhaeaaDoor
namespace Go.Proofs.YtjbmphfgckhaeaaDoor
open Go.RowKit

def Fit1 (vs : List TV) (w : World) (e : Ending) (w' : World) : Prop := ∃ b : Bool, e = .returned (.bool b) ∧ (b = true → vs.length ≤ 2147483647 ∧ ∀ v ∈ vs, v.fits) ∧ Below w.heap.size w w'
set_option maxRecDepth 100000 in
set_option maxHeartbeats 1600000 in
theorem fits1_nil (w : World) : Calls Tryd.prog 17 #[.slice none 0 0] w (Fit1 [] w) := by
  go_enter Tryd.func17, Tryd.ntmps17
  go_wp2
  go_loopg [10] 1 (fun f s10 wr => s10 = .int .i64 0 ∧ wr = w ∧ 0 < f)
  case atStart => exact ⟨rfl, rfl, by omega⟩
  case round =>
    obtain ⟨rfl, rfl, hG⟩ := hrel
    go_wp2
    go_ret
    exact ⟨true, rfl, fun _ => ⟨Nat.zero_le _, fun v h => by cases h⟩, Below.refl _ _⟩
set_option maxRecDepth 100000 in
set_option maxHeartbeats 1600000 in
theorem fits1_big (a : Addr) (n cap : Nat) (vs : List TV) (w : World) (hb : 2147483647 < n) : Calls Tryd.prog 17 #[.slice (some a) n cap] w (Fit1 vs w) := by
  have d1 : decide ((n : Int) > 2147483647) = true := decide_eq_true (by omega)
  go_enter Tryd.func17, Tryd.ntmps17
  go_wp2
  go_ret
  exact ⟨false, rfl, (fun h => by cases h), Below.refl _ _⟩
set_option maxRecDepth 100000 in
set_option maxHeartbeats 3200000 in
theorem fits1_any (a : Addr) (n cap : Nat) (vs : List TV) (w : World) (hn : vs.length = n) (hl : Lies w a vs) (ha : 0 < n → a.block < w.heap.size) (hm : n ≤ 2147483647) : Calls Tryd.prog 17 #[.slice (some a) n cap] w (Fit1 vs w) := by
  have d1 : decide ((n : Int) > 2147483647) = false := decide_eq_false (by omega)
  have HN := hide hn
  have HL := hide hl
  clear hn hl
  go_enter Tryd.func17, Tryd.ntmps17
  go_wp2_with fail
  go_loopg [10] (n + 1) (fun f s10 wr => ∃ k : Nat, k ≤ n ∧ n - k < f ∧ s10 = .int .i64 k ∧ Hid (Below w.heap.size w wr ∧ ∀ i v, i < k → vs[i]? = some v → v.fits))
  case atStart => exact ⟨0, Nat.zero_le _, by omega, rfl, Below.refl _ _, fun i v h => by omega⟩
  case round =>
    obtain ⟨k2, hk, hG, rfl, hR⟩ := hrel
    by_cases hlt : k2 < n
    · have hj0 : (0 : Int) ≤ (k2 : Int) := by omega
      have hj1 : (k2 : Int) < (n : Int) := by omega
      have hd : decide (k2 < n) = true := decide_eq_true hlt
      obtain ⟨v, hv⟩ : ∃ v, vs[k2]? = some v := ⟨vs[k2]'(by have := unhide HN; omega), List.getElem?_eq_getElem _⟩
      have HV := hide hv
      have hAt : Hid (At wr (a.add (k2 * 6)) (tvCells v).toList) := (unhide HL k2 v hv).below (unhide hR).1 (by rw [Addr.add]; split <;> exact ha (by omega))
      have HC : Hid (∀ w1 : World, Calls Tryd.prog 25 #[.agg (tvCells v)] w1 (Fit2 v w1)) := fun w1 => fits2_any v w1
      clear hv
      obtain ⟨p1, n1, c1, p2, n2, c2, p3, n3, c3, ix, vb, tx⟩ := v
      have hA2 : Hid (At wr (a.add (k2 * 6)) [.slice p1 n1 c1, .slice p2 n2 c2, .slice p3 n3 c3, .int .i64 ix, .int .i32 vb, .string tx]) := hAt
      have HC2 : Hid (∀ w1 : World, Calls Tryd.prog 25 #[.agg #[.slice p1 n1 c1, .slice p2 n2 c2, .slice p3 n3 c3, .int .i64 ix, .int .i32 vb, .string tx]] w1 (Fit2 ⟨p1, n1, c1, p2, n2, c2, p3, n3, c3, ix, vb, tx⟩ w1)) := HC
      clear hAt HC
      go_wp2_with (refine wpList_load_at rfl 51 (.tmp 12) rfl (a.add (k2 * 6)) rfl _ _ (unhide hA2) Tryd.underlying51 rfl (by kernel_rfl) ?_)
      refine (unhide HC2 _).mono ?_
      rintro x w2 ⟨b, rfl, hf, hb2⟩
      have hsz : wr.heap.size ≤ (wr.alloc (Obj.cells #[.slice p1 n1 c1, .slice p2 n2 c2, .slice p3 n3 c3, .int .i64 ix, .int .i32 vb, .string tx] 51)).heap.size := by simp
      have hW : Hid (Below w.heap.size w w2) := by
        have h1 := (unhide hR).1
        have h2 := h1.alloc h1.size (Obj.cells #[.slice p1 n1 c1, .slice p2 n2 c2, .slice p3 n3 c3, .int .i64 ix, .int .i32 vb, .string tx] 51)
        exact h2.trans (hb2.mono h2.size)
      have HF := hide hf
      clear hf hb2 hsz hA2 HC2
      cases b with
      | false =>
        go_wp2
        go_ret
        exact ⟨false, rfl, (fun h => by cases h), unhide hW⟩
      | true =>
        go_wp2
        go_roundg (gk - 1)
        case measure => omega
        case rel =>
          refine ⟨k2 + 1, by omega, by omega, by go_num, unhide hW, fun i v hi hv => ?_⟩
          by_cases he : i = k2
          · subst he
            have := (unhide HV).symm.trans hv
            injection this with this
            subst this
            exact unhide HF (by trivial)
          · exact (unhide hR).2 i v (by omega) hv
    · have hd : decide (k2 < n) = false := decide_eq_false hlt
      go_wp2
      go_ret
      refine ⟨true, rfl, fun _ => ⟨by have := unhide HN; omega, fun v hv => ?_⟩, (unhide hR).1⟩
      obtain ⟨i, hi⟩ := List.getElem?_of_mem hv
      have hil := (List.getElem?_eq_some_iff.1 hi).1
      exact (unhide hR).2 i v (by have := unhide HN; omega) hi
end Go.Proofs.YtjbmphfgckhaeaaDoor
namespace Go.Proofs.YtjbmphfgckhaeaaDoor
open Go.RowKit

/-- A slice of numbers, as it lies. -/
structure Ints (w : World) (p : Option Addr) (n : Nat) (zs : List Int) : Prop where
  len : zs.length = n
  none : p = none → n = 0
  cell : ∀ a i z, p = some a → zs[i]? = some z → w.cell? (a.add i) = some (.int .i64 z)
  far : ∀ a, p = some a → 0 < n → a.block < w.heap.size
theorem Ints.below {w w' : World} {p : Option Addr} {n : Nat} {zs : List Int} (h : Ints w p n zs) (hb : Below w.heap.size w w') : Ints w' p n zs :=
  ⟨h.len, h.none, fun a i z hp hz => by
    rw [← h.cell a i z hp hz]
    have h0 : 0 < n := by
      have h1 := (List.getElem?_eq_some_iff.1 hz).1
      have h2 := h.len
      omega
    exact hb.cell (by rw [Addr.add]; split <;> exact h.far a hp h0), fun a hp h0 => Nat.lt_of_lt_of_le (h.far a hp h0) hb.size⟩
/-- The flag of a number. -/
def flagC (z : Int) : UInt8 := (([35, 48, 43, 45, 32] : L)[z.toNat]?).getD 0
theorem flagC_isF {z : Int} (h0 : 0 ≤ z) (h4 : z ≤ 4) : isF (flagC z) = true := by
  have : z = 0 ∨ z = 1 ∨ z = 2 ∨ z = 3 ∨ z = 4 := by omega
  rcases this with rfl | rfl | rfl | rfl | rfl <;> decide
theorem flags_isF {zs : List Int} (h : ∀ z ∈ zs, 0 ≤ z ∧ z ≤ 4) : (zs.map flagC).all isF = true := by
  rw [List.all_eq_true]
  intro c hc
  obtain ⟨z, hz, rfl⟩ := List.mem_map.1 hc
  exact flagC_isF (h z hz).1 (h z hz).2
/-- What a width's (or a precision's) numbers tell. -/
def Wr.says (w : Wr) (zs : List Int) : Prop := match w with
  | .no => zs = []
  | .num n => zs = [(n : Int)]
  | .star => ∃ x, zs = [x, 0]
  | .at n => ∃ x, zs = [x, (n : Int)]
/-- A told operation's cells and lists: t is what they tell. -/
structure Says (t : TO) (v : TV) (fs ws ps : List Int) : Prop where
  fl : t.fl = fs.map flagC
  fr : ∀ z ∈ fs, 0 ≤ z ∧ z ≤ 4
  wd : t.wd.says ws
  pr : t.pr.says ps
  ix : v.ix = t.ix
  vb : v.vb = t.vb.toNat
  tx : v.tx = mk t.tx
end Go.Proofs.YtjbmphfgckhaeaaDoor
namespace Go.Proofs.YtjbmphfgckhaeaaDoor
open Go.RowKit

set_option maxRecDepth 100000 in
set_option maxHeartbeats 1600000 in
theorem arg_no (n idx nx : Int) (p q : Nat) (w : World) (_h1 : w.cell? ⟨p, 0, none⟩ = some (.int .i64 idx)) (h2 : w.cell? ⟨q, 0, none⟩ = some (.int .i64 nx)) (h3 : w.frozen? ⟨q, 0, none⟩ = false) (hn : n ≤ 0) (b0 : 0 ≤ nx) (b1 : nx ≤ 4000000000) :
    Calls Tryd.prog 19 #[.int .i64 n, .pointer (some ⟨p, 0, none⟩), .pointer (some ⟨q, 0, none⟩)] w fun e w' => e = .returned (.int .i64 nx) ∧ w' = w.setCell ⟨q, 0, none⟩ (.int .i64 (nx + 1)) := by
  have d1 : decide (n > 0) = false := decide_eq_false (by omega)
  go_enter Tryd.func19, Tryd.ntmps19
  go_wp2
  go_ret
  exact ⟨rfl, rfl⟩
set_option maxRecDepth 100000 in
set_option maxHeartbeats 1600000 in
theorem arg_yes (n idx nx : Int) (p q : Nat) (w : World) (h1 : w.cell? ⟨p, 0, none⟩ = some (.int .i64 idx)) (h2 : w.cell? ⟨q, 0, none⟩ = some (.int .i64 nx)) (h3 : w.frozen? ⟨q, 0, none⟩ = false) (hn : 0 < n) (hm : n ≤ 1000000) (b0 : 0 ≤ idx) (b1 : idx ≤ 1000000000) :
    Calls Tryd.prog 19 #[.int .i64 n, .pointer (some ⟨p, 0, none⟩), .pointer (some ⟨q, 0, none⟩)] w fun e w' => e = .returned (.int .i64 (idx + n)) ∧ w' = (w.setCell ⟨q, 0, none⟩ (.int .i64 (idx + n))).setCell ⟨q, 0, none⟩ (.int .i64 (idx + n + 1)) := by
  have d1 : decide (n > 0) = true := decide_eq_true (by omega)
  go_enter Tryd.func19, Tryd.ntmps19
  go_wp2
  go_ret
  exact ⟨rfl, rfl⟩
end Go.Proofs.YtjbmphfgckhaeaaDoor
