/-
  Words for a law's round over two rows of operations: both rows stand, two new boxes. No condition.
-/
import Derived.Test.YtjbmphfgckhaeaaDoorRw
namespace Go.Proofs.YtjbmphfgckhaeaaDoor
open Go.RowKit

/-- Two rows of operations in blocks below n0; below block number b all is as it was in w. -/
structure Two (w : World) (b n0 g h : Nat) (xs ys : List IOp) (W : World) : Prop where
  rx : OpsRow W g xs
  ry : OpsRow W h ys
  gl : g < n0
  hl : h < n0
  bl : b ≤ n0
  sz : n0 ≤ W.heap.size
  bw : Below b w W
section
variable {w W : World} {b n0 g h : Nat} {xs ys : List IOp}
theorem OpsRow.alloc {g : Nat} {xs : List IOp} (h : OpsRow W g xs) (hg : g < W.heap.size) (o : Obj) : OpsRow (W.alloc o) g xs := h.below (Below.refl W.heap.size W |>.alloc (Nat.le_refl _) o) hg
theorem cells_ne {W : World} {p : Nat} : ∀ (vs : List Value) (k : Nat) {q : Addr} (W : World), q.block ≠ p → (W.setCells p k vs).cell? q = W.cell? q
  | [], _, _, _, _ => rfl
  | v :: r, k, q, W, hne => by
    show ((W.setCell ⟨p, k, none⟩ v).setCells p (k + 1) r).cell? q = _
    rw [cells_ne (W := W) r (k + 1) _ hne]
    exact (Below.refl (q.block + 1) W |>.cell (p := q) (Nat.lt_succ_self _)) ▸ by
      have hb : (W.setCell ⟨p, k, none⟩ v).heap[q.block]? = W.heap[q.block]? := Below.heap_setCell W ⟨p, k, none⟩ v q.block hne
      simp [World.cell?, hb]
theorem OpsRow.cells {g p : Nat} {xs : List IOp} (h : OpsRow W g xs) (hne : g ≠ p) (k : Nat) (vs : List Value) : OpsRow (W.setCells p k vs) g xs := fun i x hx j v hv => by
  rw [cells_ne (W := W) vs k W (by exact hne)]
  exact h i x hx j v hv
theorem setCells_size (p : Nat) : ∀ (vs : List Value) (k : Nat) (W : World), (W.setCells p k vs).heap.size = W.heap.size
  | [], _, _ => rfl
  | v :: r, k, W => by
    show ((W.setCell ⟨p, k, none⟩ v).setCells p (k + 1) r).heap.size = _
    rw [setCells_size p r (k + 1)]
    simp [World.setCell]
theorem Two.alloc (t : Two w b n0 g h xs ys W) (o : Obj) : Two w b n0 g h xs ys (W.alloc o) :=
  ⟨t.rx.alloc (Nat.lt_of_lt_of_le t.gl t.sz) o, t.ry.alloc (Nat.lt_of_lt_of_le t.hl t.sz) o, t.gl, t.hl, t.bl, by simp; exact Nat.le_succ_of_le t.sz, t.bw.alloc (Nat.le_trans t.bl t.sz) o⟩
theorem Two.store (t : Two w b n0 g h xs ys W) {p : Nat} (hp : n0 ≤ p) (vs : List Value) : Two w b n0 g h xs ys (W.setCells p 0 vs) :=
  ⟨t.rx.cells (Nat.ne_of_lt (Nat.lt_of_lt_of_le t.gl hp)) 0 vs, t.ry.cells (Nat.ne_of_lt (Nat.lt_of_lt_of_le t.hl hp)) 0 vs, t.gl, t.hl, t.bl, by rw [setCells_size]; exact t.sz, below_cells t.bw (Nat.le_trans t.bl hp) 0 vs⟩
theorem Two.drew (t : Two w b n0 g h xs ys W) : Two w b n0 g h xs ys W.drew := ⟨t.rx, t.ry, t.gl, t.hl, t.bl, t.sz, t.bw.drew⟩
theorem Two.raise (t : Two w b n0 g h xs ys W) : Two w b W.heap.size g h xs ys W := ⟨t.rx, t.ry, Nat.lt_of_lt_of_le t.gl t.sz, Nat.lt_of_lt_of_le t.hl t.sz, Nat.le_trans t.bl t.sz, Nat.le_refl _, t.bw⟩
end
end Go.Proofs.YtjbmphfgckhaeaaDoor
