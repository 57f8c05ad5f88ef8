/-
  fmtstr.Parse as the function parseM. Conditions: the library's tables and sentinels, a text of at most 500,000,000,000 bytes, an index of at most 999,999,999.
-/
import Derived.Test.YtjbmphfgckhaeaaDoorPar
namespace Go.Proofs.YtjbmphfgckhaeaaDoor
open Go.RowKit

def ptrs (gs : List Nat) : List Value := gs.map fun g => .pointer (some ⟨g, 0, none⟩)
/-- Operations behind pointers: each in a block of its own making. -/
def OpsAt (B : Nat) (w : World) (gs : List Nat) (xs : List IOp) : Prop :=
  gs.length = xs.length ∧ ∀ (j g : Nat) (x : IOp), gs[j]? = some g → xs[j]? = some x → B ≤ g ∧ Blk w g 70 (pCells x)
theorem OpsAt.nil (B : Nat) (w : World) : OpsAt B w [] [] := ⟨rfl, fun j g x h => by cases h⟩
theorem OpsAt.keep {B : Nat} {w w' : World} {gs : List Nat} {xs : List IOp} (h : OpsAt B w gs xs) (hk : ∀ g x, Blk w g 70 (pCells x) → Blk w' g 70 (pCells x)) : OpsAt B w' gs xs :=
  ⟨h.1, fun j g x h1 h2 => ⟨(h.2 j g x h1 h2).1, hk _ _ (h.2 j g x h1 h2).2⟩⟩
theorem OpsAt.snoc {B : Nat} {w : World} {gs : List Nat} {xs : List IOp} {g : Nat} {x : IOp} (h : OpsAt B w gs xs) (hB : B ≤ g) (hb : Blk w g 70 (pCells x)) : OpsAt B w (gs ++ [g]) (xs ++ [x]) := by
  refine ⟨by simp [h.1], fun j g' x' h1 h2 => ?_⟩
  rw [List.getElem?_append] at h1 h2
  rw [h.1] at h1
  by_cases hj : j < xs.length
  · rw [if_pos hj] at h1 h2
    exact h.2 j g' x' h1 h2
  · rw [if_neg hj] at h1 h2
    obtain rfl : j = xs.length := by
      have h3 := (List.getElem?_eq_some_iff.1 h1).1
      simp at h3
      omega
    simp at h1 h2
    subst h1 h2
    exact ⟨hB, hb⟩

def ParseBad (w : World) (e : Ending) (w' : World) : Prop := (∃ T p, e = .returned (.tuple #[.slice none 0 0, .iface T p])) ∧ Below w.heap.size w w'
def ParseGood (xs : List IOp) (w : World) (e : Ending) (w' : World) : Prop :=
  ∃ (v : Value) (gs : List Nat), e = .returned (.tuple #[v, .nilIface]) ∧ w'.ownsRow w.heap.size 74 1 v xs.length (ptrs gs) ∧ OpsAt w.heap.size w' gs xs ∧ (xs = [] → v = .slice none 0 0) ∧ Below w.heap.size w w'
def ParsePost (l : L) (idx : Int) (w : World) (e : Ending) (w' : World) : Prop :=
  match parseM l idx with
  | none => ParseBad w e w'
  | some xs => ParseGood xs w e w'

set_option maxRecDepth 100000 in
set_option maxHeartbeats 800000 in
theorem parse_no (t : ByteArray) (idx : Int) (w : World) (hs : t.size ≤ 140737488351232) (hc : ¬ (37 : UInt8) ∈ t.data.toList) :
    Calls Tryd.prog 24 #[.string t, .int .i64 idx] w (ParseBad w) := by
  have HC := hide hc
  clear hc
  go_enter Tryd.func24, Tryd.ntmps24
  go_wp2_with (first | (go_at_call 36; refine (index_out _ _ 37 _ hs (lit1 _) (lit1s _) (unhide HC)).mono ?_; rintro x w' ⟨rfl, rfl⟩) | (go_at_call 37; refine (errNew_any _ _).mono ?_; rintro x w6 ⟨⟨q, rfl⟩, hb6⟩))
  go_ret2
  exact ⟨⟨102, q, rfl⟩, hb6⟩

def ParR (t : ByteArray) (first : Int) (T : Option (List IOp)) (w : World) (g i : Nat) (an : Int) (v : Value) (wr : World) : Prop :=
  ∃ (gs : List Nat) (xs : List IOp), T = (parseFrom first g i (t.data.toList.drop i) an).map (xs ++ ·) ∧ t.size - i < g ∧ xs.length ≤ i ∧
    wr.ownsRow w.heap.size 74 1 v xs.length (ptrs gs) ∧ OpsAt w.heap.size wr gs xs ∧ (xs = [] → v = .slice none 0 0) ∧ Below w.heap.size w wr

set_option maxRecDepth 100000 in
set_option maxHeartbeats 3200000 in
theorem parse_yes (t : ByteArray) (idx : Int) (w : World) (hG : G w) (hs : t.size ≤ 500000000000) (hi0 : 0 ≤ idx) (hi1 : idx ≤ 999999999) (hc : (37 : UInt8) ∈ t.data.toList) :
    Calls Tryd.prog 24 #[.string t, .int .i64 idx] w (ParsePost t.data.toList idx w) := by
  obtain ⟨T, hT⟩ : ∃ T, parseM t.data.toList idx = T := ⟨_, rfl⟩
  have HT := hide hT
  have HC := hide hc
  have hs' : t.size ≤ 140737488351232 := by omega
  clear hc hT
  go_enter Tryd.func24, Tryd.ntmps24
  go_wp2_with (go_at_call 36; refine (index_in _ _ 37 _ hs' (lit1 _) (lit1s _) (unhide HC)).mono ?_; rintro x w' ⟨r, rfl, rfl, hr0, hr1⟩)
  clear hr0 hr1
  have h4 := hG.big
  obtain ⟨i0, hi, hz0, hz1, hz2⟩ := info_parts (show (Tryd.prog.info? 74).map (fun i => (i.zero, i.size, i.bytes)) = some (some (.pointer none), 1, 8) by kernel_rfl)
  go_loopg [7, 8, 9] (t.size + 1) (fun g s7 s8 s9 wr => ∃ (i : Nat) (an : Int), i ≤ t.size ∧ s9 = .int .i64 i ∧ s7 = .int .i64 an ∧ 0 ≤ an ∧ an ≤ 4000000000 + 3 * (i : Int) ∧ Hid (ParR t (idx + 1) T w g i an s8 wr))
  case atStart =>
    refine ⟨0, idx + 1, Nat.zero_le _, rfl, rfl, by omega, by omega, [], [], ?_, by omega, Nat.le_refl _, ⟨rfl, .inl ⟨rfl, rfl⟩⟩, OpsAt.nil _ _, fun _ => rfl, Below.refl _ _⟩
    rw [← unhide HT]
    unfold parseM
    rw [if_pos (unhide HC), ← size_data]
    simp
  case round =>
    obtain ⟨i, an, hit, rfl, rfl, ha0, ha1, hR⟩ := hrel
    by_cases hlt : i < t.size
    · have hj0 : (0 : Int) ≤ (i : Int) := by omega
      have hj1 : (i : Int) < (t.size : Int) := by omega
      by_cases hc : t[i] = 37
      · have hne : ((t[i].toNat : Int) != 37) = false := by rw [hc]; rfl
        have HCI := hide hc
        have hcl : t.data.toList[i]'(by rw [← size_data]; exact hlt) = 37 := hc
        clear hc
        obtain ⟨gs, xs, h1, h2, h3, h5, h6, h7, h8⟩ := unhide hR
        have hGr := hG.below h8 h4
        have hdl : (t.extract i t.size).data.toList = t.data.toList.drop i := Lib.extract_to_end t i
        have hxs : (t.extract i t.size).size = t.size - i := by simp
        have hx1 : 1 ≤ (t.extract i t.size).size := by omega
        have hx2 : (t.extract i t.size).size ≤ 140737488351232 := by omega
        have hlen : i < t.data.toList.length := by rw [← size_data]; exact hlt
        cases hop : opM (t.data.toList.drop i) (idx + 1) an with
        | none =>
          have hN := h1.trans (by rw [parse_none (by omega) hlen hcl hop]; rfl : _ = none)
          have HN := hide hN
          have HO := hide ((congrArg (fun l => opM l (idx + 1) an) hdl).trans hop)
          clear hop h1 hN hdl hxs hcl
          go_wp2_with fail
          refine (op_fail hGr hx2 hx1 (by omega) (by omega) ha0 (by omega) (unhide HO)).mono ?_
          rintro x w2 ⟨⟨T2, q, rfl⟩, hb2⟩
          go_wp2_with fail
          go_ret2
          rw [ParsePost, unhide HT, unhide HN]
          exact ⟨⟨T2, q, rfl⟩, h8.trans (hb2.mono h8.size)⟩
        | some x =>
          have hlx : (t.data.toList.drop i).length = t.size - i := by rw [List.length_drop, ← size_data]
          obtain ⟨hok, hw1, hw2, hn1⟩ := op_bounds (l := t.data.toList.drop i) (by omega) (by omega) (by omega) ha0 (4000000000 + 3 * (i : Int)) (by omega) ha1 hop
          obtain ⟨hz1', hz2'⟩ := op_sizes (l := t.data.toList.drop i) (by omega) (by omega) (by omega) ha0 (4000000000 + 3 * (i : Int)) (by omega) ha1 hop
          have hP := h1.trans (by rw [parse_some (by omega) hlen hcl hop] : _ = ((parseFrom (idx + 1) (gk - 1) (i + x.n) (t.data.toList.drop (i + x.n)) (nextA x an)).map (iop (t.data.toList.drop i) i x :: ·)).map (xs ++ ·))
          have HP := hide hP
          have HO := hide ((congrArg (fun l => opM l (idx + 1) an) hdl).trans hop)
          have hxn : x.n = x.st.nb + x.w := rfl
          have hxn2 : x.n ≤ t.size - i := by omega
          have hxn1 : 2 ≤ x.n := by omega
          have hvs1 : -1 ≤ x.vs := by unfold OpR.vs; split <;> (have := hok.p0; omega)
          have hvs2 : x.vs ≤ 1000000000000 := by unfold OpR.vs; split <;> (have := hok.p1; have := hok.nb; omega)
          have hq1 := hz1'.a
          have hq2 := hz1'.b
          have hq3 := hz1'.c
          have hq4 := hz1'.d
          have hq5 := hz2'.a
          have hq6 := hz2'.b
          have hq7 := hz2'.c
          have hq8 := hz2'.d
          have hA0 := hok.a0
          have hA1 := hok.a1
          have hwlt : wr.heap.size ≤ wr.heap.size := Nat.le_refl _
          clear hop h1 hP hcl hz1' hz2' hok
          go_wp2_with fail
          refine (op_some hGr hx2 hx1 (by omega) (by omega) ha0 (by omega) (unhide HO)).mono ?_
          rintro y w2 ⟨s, o, rfl, hs0, ho0, hS, hO, hb2⟩
          obtain ⟨U, hU⟩ : ∃ U, mk ((t.extract i t.size).data.toList.take x.n) = U := ⟨_, rfl⟩
          rw [hU] at hO
          have hUs : U.size = x.n := by
            rw [← hU, mk_size', hdl, List.length_take, List.length_drop, ← size_data]
            omega
          have HUs := hide hUs
          have hUv : Hid (U = mk ((t.data.toList.drop i).take x.n)) := by rw [← hU, hdl]; exact rfl
          have hU1 : U.size ≤ t.size - i := by omega
          clear hU hUs hdl
          have hso : s ≠ o := hS.ne_ hO (by decide)
          have hown2 := h5.kept (w' := w2) (row := none) ⟨hb2.os, hb2.tape, hb2.output, hb2.size, fun k hk _ => hb2.block k hk⟩ (Classical.em _)
          have hops2 := h6.keep (w' := w2) fun g x h => h.below hb2 h.lt
          have s0 : w2.cell? ⟨s, 0, none⟩ = some (.pointer (some ⟨o, 0, none⟩)) := hS.cell 0
          go_wp2_with fail
          refine (add_any o U x i w2 hO 1000000000000 (by decide) hvs1 hvs2 (by omega) hj0 (by omega) hq1 (by omega) hq3 (by omega) hq5 (by omega) hq7 (by omega)).mono ?_
          rintro y w3 ⟨rfl, hO3, hg3⟩
          clear hq1 hq2 hq3 hq4 hq5 hq6 hq7 hq8 hvs1 hvs2 s0
          have hS3 := hS.grown hg3 (fun e => hso (by injection e))
          have hown3 := hown2.kept hg3 (.inr (own_blk_ne hown2 hO (by decide)))
          have hops3 : OpsAt w.heap.size w3 gs xs := h6.keep fun g x h => (h.below hb2 h.lt).grown hg3 (fun e => by
            injection e with e
            have := h.lt
            omega)
          have hB3 : Below w.heap.size w w3 := (h8.trans (hb2.mono h8.size)).grown hg3 (Nat.le_trans h8.size hb2.size) (fun k hk => by
            injection hk with hk
            have := h8.size
            omega)
          have HX := hide (And.intro hS3 (And.intro hO3 (And.intro hown3 (And.intro hops3 hB3))))
          have s0 : w3.cell? ⟨s, 0, none⟩ = some (.pointer (some ⟨o, 0, none⟩)) := hS3.cell 0
          clear hS hO hown2 hops2 hS3 hO3 hops3 hB3 hg3
          have hcell : (w3.alloc (.cells #[.pointer (some ⟨o, 0, none⟩)] 74)).cell? ⟨w3.heap.size, 0, none⟩ = some (.pointer (some ⟨o, 0, none⟩)) := (Blk.new w3 74 #[.pointer (some ⟨o, 0, none⟩)]).cell 0
          have hnl : xs.length ≤ 500000000000 := by omega
          have hbs : w.heap.size ≤ w3.heap.size := by have := (unhide HX).2.2.2.2.size; exact this
          have HZ2 := hide hz2
          clear hz2
          go_wp2_with (at_builtin; refine wpList_append_own _ rfl _ _ 76 rfl w.heap.size 74 i0 (.pointer none) 1 8 Tryd.underlying76 hi hz0 hz1 (unhide HZ2) rfl (by decide) _ _ _ rfl (hown3.alloc _) ⟨w3.heap.size, 0, none⟩ 1 1 [.pointer (some ⟨o, 0, none⟩)] rfl rfl ?c1 ?c2 ?c3 ?c4 ?c5 ?_)
          case c1 => exact cell_one_new _ _ _
          case c2 => intro u hu; rw [List.mem_singleton] at hu; subst hu; rfl
          case c3 => unfold maxLen; omega
          case c4 => omega
          case c5 => simp; omega
          intro v' w5 hown5 hg5 hnil5
          obtain ⟨hS3, hO3, _, hops3, hB3⟩ := unhide HX
          have hown3a := hown3.alloc (.cells #[.pointer (some ⟨o, 0, none⟩)] 74)
          have hS5 := (hS3.alloc (.cells #[.pointer (some ⟨o, 0, none⟩)] 74)).grown hg5 (own_blk_ne hown3a (hS3.alloc _) (by decide)).symm
          have hO5 := (hO3.alloc (.cells #[.pointer (some ⟨o, 0, none⟩)] 74)).grown hg5 (own_blk_ne hown3a (hO3.alloc _) (by decide)).symm
          have hops5 : OpsAt w.heap.size w5 gs xs := hops3.keep fun g y h => (h.alloc _).grown hg5 (own_blk_ne hown3a (h.alloc _) (by decide)).symm
          have hB5 : Below w.heap.size w w5 := (hB3.alloc hbs _).grown hg5 (by simp; omega) (fun k hk => (hown3a.lt k hk).1)
          have s0' : w5.cell? ⟨s, 0, none⟩ = some (.pointer (some ⟨o, 0, none⟩)) := hS5.cell 0
          have s2' : w5.cell? ⟨s, 2, none⟩ = some (.int .i64 x.st.an) := hS5.cell 2
          have o0' : w5.cell? ⟨o, 0, none⟩ = some (.string U) := hO5.cell 0
          have o1' : w5.cell? ⟨o, 1, none⟩ = some (.int .i32 (x.r : Int)) := hO5.cell 1
          have HX5 := hide (And.intro hO5 (And.intro hown5 (And.intro hops5 hB5)))
          clear hS3 hO3 hops3 hB3 hS5 hO5 hops5 hB5 hown3a hown5 hnil5 hg5 hcell s0 hown3 HX
          have hU2 : (U.size : Int) ≤ (t.size : Int) - (i : Int) := by omega
          by_cases hr37 : x.r = 37
          · have hv : ((x.r : Int) != 37) = false := by rw [hr37]; rfl
            have HR := hide hr37
            clear hr37
            go_wp2_with fail
            go_roundg (gk - 1)
            case measure => omega
            case rel =>
              obtain ⟨hO5, hown5, hops5, hB5⟩ := unhide HX5
              have hUs := unhide HUs
              have hoB : w.heap.size ≤ o := Nat.le_trans h8.size ho0
              have hnx : nextA x an = an := by unfold nextA; rw [if_pos (unhide HR)]
              have hO6 : Blk w5 o 70 (pCells (iop (t.data.toList.drop i) i x)) := by
                have := hO5
                rw [unhide hUv] at this
                exact this
              refine ⟨i + x.n, an, by omega, congrArg (Value.int .i64) (by omega), rfl, by omega, by omega, ?_⟩
              refine ⟨gs ++ [o], xs ++ [iop (t.data.toList.drop i) i x], ?_, by omega, by simp; omega, by simpa [ptrs] using hown5, hops5.snoc hoB hO6, by simp, hB5⟩
              rw [unhide HP, hnx, Option.map_map]
              simp [Function.comp_def]
          · have hv : ((x.r : Int) != 37) = true := by rw [bne_iff_ne]; omega
            have HR := hide hr37
            clear hr37
            go_wp2_with fail
            go_roundg (gk - 1)
            case measure => omega
            case rel =>
              obtain ⟨hO5, hown5, hops5, hB5⟩ := unhide HX5
              have hUs := unhide HUs
              have hoB : w.heap.size ≤ o := Nat.le_trans h8.size ho0
              have hnx : nextA x an = (x.st.an + 1) := by unfold nextA; rw [if_neg (unhide HR)]
              have hO6 : Blk w5 o 70 (pCells (iop (t.data.toList.drop i) i x)) := by
                have := hO5
                rw [unhide hUv] at this
                exact this
              refine ⟨i + x.n, (x.st.an + 1), by omega, congrArg (Value.int .i64) (by omega), rfl, by omega, by omega, ?_⟩
              refine ⟨gs ++ [o], xs ++ [iop (t.data.toList.drop i) i x], ?_, by omega, by simp; omega, by simpa [ptrs] using hown5, hops5.snoc hoB hO6, by simp, hB5⟩
              rw [unhide HP, hnx, Option.map_map]
              simp [Function.comp_def]
      · have hne : ((t[i].toNat : Int) != 37) = true := by rw [bne_iff_ne]; intro e5; exact hc (UInt8.toNat_inj.1 (by simpa using Int.ofNat.inj e5))
        have hlen : i < t.data.toList.length := by rw [← size_data]; exact hlt
        have hcl : t.data.toList[i] ≠ 37 := hc
        have HCI := hide hcl
        clear hc hcl
        go_wp2
        go_roundg (gk - 1)
        case measure =>
          obtain ⟨gs, xs, h1, h2, _⟩ := unhide hR
          omega
        case rel =>
          obtain ⟨gs, xs, h1, h2, h3, h5, h6, h7, h8⟩ := unhide hR
          refine ⟨i + 1, an, by omega, by go_num, rfl, ha0, by omega, ?_⟩
          exact ⟨gs, xs, by rw [h1, parse_skip (by omega) hlen (unhide HCI)], by omega, by omega, h5, h6, h7, h8⟩
    · have hd : decide (i < t.size) = false := decide_eq_false hlt
      obtain ⟨gs, xs, h1, h2, h3, h5, h6, h7, h8⟩ := unhide hR
      have hie : t.data.toList.drop i = [] := List.drop_eq_nil_of_le (by rw [← size_data]; omega)
      rw [hie, parse_end _ _ _ _ (by omega)] at h1
      have HE := hide h1
      clear h1 hlt h2 h3 hie
      go_wp2
      go_ret2
      rw [ParsePost, unhide HT, unhide HE]
      exact ⟨_, gs, rfl, by simpa using h5, by simpa using h6, by simpa using h7, h8⟩
end Go.Proofs.YtjbmphfgckhaeaaDoor
