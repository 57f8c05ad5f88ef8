/-
  A law for a region that draws its order: operations that only read (under an invariant S of the world) are taken first, a whole list of them, under one closed check. No condition.
-/
import Derived.OrdersHeld
import Derived.Deep.RegionHeld
namespace Go.Proofs.YtjbmphfgckhaeaaDoor

def chkL (md : Region.Mode) (ops : Array Oper) : List Nat → Array Bool → Bool
  | [], _ => true
  | i :: r, listed => Region.free md ops listed i && ((Region.ready md ops listed).contains i && chkL md ops r (listed.setIfInBounds i true))
def Pre (P : Program) (ops : Array Oper) (S : World → Prop) : List Nat → Act → (Act → Prop) → Prop
  | [], a, K => K a
  | i :: r, a, K => ∃ o v, ops[i]? = some o ∧ YieldsIf P ops S o v a ∧ Pre P ops S r (a.put o.dst v) K
def marks (listed : Array Bool) : List Nat → Array Bool
  | [] => listed
  | i :: r => marks (listed.setIfInBounds i true) r
theorem wpAnyH_pre {P : Program} {ops : Array Oper} {Q : Exit → Act → World → Prop} {S : World → Prop} {md : Region.Mode} {fuel : Nat} (hs : Region.noSelect ops = true)
    (hQ : ∀ c (a : Act) d v w, Q (.panic c) (a.put d v) w → Q (.panic c) a w) : ∀ (ord : List Nat) (listed : Array Bool) (a : Act) (w : World),
    chkL md ops ord listed = true → S w → Pre P ops S ord a (fun a' => wpAnyH P md ops Q S fuel (marks listed ord) a' w) → wpAnyH P md ops Q S (ord.length + fuel) listed a w
  | [], listed, a, w, _, _, h => by
    rw [List.length_nil, Nat.zero_add]
    exact h
  | i :: r, listed, a, w, hc, hS, h => by
    obtain ⟨o, v, hi, hy, h⟩ := h
    simp only [chkL, Bool.and_eq_true] at hc
    rw [List.length_cons, Nat.add_right_comm]
    exact wpAnyH_take hi hs hc.1 hc.2.1 (fun c a w => hQ c a o.dst v w) hy hS (wpAnyH_pre hs hQ r _ _ w hc.2.2 hS h)
theorem Pre.nil {P : Program} {ops : Array Oper} {S : World → Prop} {a : Act} {K : Act → Prop} (h : K a) : Pre P ops S [] a K := h
theorem Pre.step {P : Program} {ops : Array Oper} {S : World → Prop} {a : Act} {K : Act → Prop} {i : Nat} {r : List Nat} {o : Oper} {v : Value} (hi : ops[i]? = some o)
    (hw : Region.wanted o (yielded ops a.tmps) = true) (hy : ∀ w, S w → (execOp a.eval o).run P w = .ok (.value v) w) (h : Pre P ops S r (a.put o.dst v) K) : Pre P ops S (i :: r) a K :=
  ⟨o, v, hi, .inl ⟨hw, hy⟩, h⟩
end Go.Proofs.YtjbmphfgckhaeaaDoor
