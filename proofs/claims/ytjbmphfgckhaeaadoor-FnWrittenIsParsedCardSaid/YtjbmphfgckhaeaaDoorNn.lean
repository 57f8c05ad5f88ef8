/-
  The walk of laws.FnWrittenIsParsed, a list that is not nil: under way. Conditions: the library's tables and sentinels, the list's cells.
-/
import Derived.Test.YtjbmphfgckhaeaaDoorNm
import Derived.Deep.DeepCutAuto
import Derived.Deep.QuietTactic
import Derived.BigQuiet
namespace Go.Proofs.YtjbmphfgckhaeaaDoor
open Go.RowKit

set_option maxRecDepth 100000 in
set_option maxHeartbeats 6400000 in
theorem told_any (a : Addr) (n cap : Nat) (i : Int) (vs : List TV) (w : World) (hGw : G w) (hn : vs.length = n) (hL : Lies w a vs)
    (hI : ∀ v ∈ vs, ∃ fs ws ps, Ints w v.p1 v.n1 fs ∧ Ints w v.p2 v.n2 ws ∧ Ints w v.p3 v.n3 ps) (ha : 0 < n → a.block < w.heap.size) :
    Calls Tryd.prog 8 #[.slice (some a) n cap, .int .i64 i] w fun e w' => e = .returned (.bool true) ∧ Below w.heap.size w w' := by
  have HN := hide hn
  have HL := hide hL
  have HI := hide hI
  clear hn hL hI
  have C0 : Hid (∀ W, Below w.heap.size w W → Calls Tryd.prog 17 #[.slice (some a) n cap] W (Fit1 vs W)) := fun W hb =>
    fits_all a n cap vs W (unhide HN) (fun j v hv => (unhide HL j v hv).below hb (by
      have h0 : 0 < n := by
        have h1 := (List.getElem?_eq_some_iff.1 hv).1
        have h2 := unhide HN
        omega
      rw [Addr.add]
      split <;> exact ha h0)) (fun h0 => Nat.lt_of_lt_of_le (ha h0) hb.size)
  have HA := hide ha
  have HG := hide hGw
  clear ha hGw
  go_enter Tryd.func8, Tryd.ntmps8
  go_wp2_with fail
  refine (unhide C0 _ ((Below.refl _ _).alloc (Nat.le_refl _) _)).mono ?_
  rintro x w2 ⟨b, rfl, hf, hb2⟩
  have hB2 : Below w.heap.size w w2 := ((Below.refl _ _).alloc (Nat.le_refl _) _).trans (hb2.mono (by simp))
  have ci : w2.cell? ⟨w.heap.size, 0, none⟩ = some (.int .i64 i) := by
    rw [hb2.cell (by simp)]
    exact (Blk.new w 3 #[.int .i64 i]).cell 0
  have hlt : w.heap.size < w2.heap.size := by
    have := hb2.size
    simp at this
    omega
  have HF := hide hf
  clear hf hb2 C0
  cases b with
  | false =>
    go_wp2
    go_ret
    exact ⟨rfl, hB2⟩
  | true =>
    replace HF := (unhide HF) rfl
    obtain ⟨_, hf2⟩ := HF
    have HF := hide hf2
    clear hf2
    by_cases hi : i < 0 ∨ 1000 ≤ i
    · have HIi := hide hi
      clear hi
      go_wp2_with fail
      refine (call_no i _ (unhide HIi)).mono ?_
      rintro x w3 ⟨rfl, rfl⟩
      go_wp2
      go_ret
      exact ⟨rfl, hB2⟩
    have i0 : 0 ≤ i := by omega
    have i1 : i < 1000 := by omega
    clear hi
    by_cases hn0 : n = 0
    · subst hn0
      go_wp2_with fail
      refine (call_yes i _ i0 i1).mono ?_
      rintro x w3 ⟨rfl, rfl⟩
      go_wp2
      go_ret
      exact ⟨rfl, hB2⟩
    have n0 : ((n : Int) == 0) = false := by rw [beq_eq_false_iff_ne]; omega
    by_cases hn1 : 100 < n
    · have n1 : decide ((n : Int) > 100) = true := decide_eq_true (by omega)
      go_wp2_with fail
      refine (call_yes i _ i0 i1).mono ?_
      rintro x w3 ⟨rfl, rfl⟩
      go_wp2
      go_ret
      exact ⟨rfl, hB2⟩
    have n1 : decide ((n : Int) > 100) = false := decide_eq_false (by omega)
    go_wp2_with fail
    refine (call_yes i _ i0 i1).mono ?_
    rintro x w3 ⟨rfl, rfl⟩
    go_wp2_with fail
    go_loopg [5, 42] (n + 1) (fun f s5 s42 wr => ∃ (k : Nat) (s : ByteArray), k ≤ n ∧ n - k < f ∧ s42 = .int .i64 k ∧ s5 = .string s ∧ s.size ≤ k * 4294967400 ∧ Hid (Below w2.heap.size w2 wr ∧ Built w vs k s))
    case atStart => exact ⟨0, _, Nat.zero_le _, by omega, rfl, rfl, by decide, Below.refl _ _, Built.start w vs⟩
    case round =>
      obtain ⟨k, s, hk, hG, rfl, rfl, hss, hR⟩ := hrel
      by_cases hltk : k < n
      · have hj0 : (0 : Int) ≤ (k : Int) := by omega
        have hj1 : (k : Int) < (n : Int) := by omega
        have hd : decide (k < n) = true := decide_eq_true hltk
        obtain ⟨v, hv⟩ : ∃ v, vs[k]? = some v := ⟨vs[k]'(by have := unhide HN; omega), List.getElem?_eq_getElem _⟩
        have hBr : Below w.heap.size w wr := hB2.trans ((unhide hR).1.mono hB2.size)
        have hAt : Hid (At wr (a.add (k * 6)) (tvCells v).toList) := (unhide HL k v hv).below hBr (by rw [Addr.add]; split <;> exact (unhide HA) (by omega))
        have hI := unhide HI v (List.mem_of_getElem? hv)
        obtain ⟨fs, ws, ps, I1, I2, I3⟩ := hI
        have hfit := unhide HF v (List.mem_of_getElem? hv)
        have CW : Hid (∀ W, Below w.heap.size w W → Calls Tryd.prog 18 #[.agg (tvCells v)] W (Wrote v fs ws ps W)) := fun W hb =>
          written_any v.p1 v.n1 v.c1 v.p2 v.n2 v.c2 v.p3 v.n3 v.c3 v.ix v.vb v.tx fs ws ps W (I1.below hb) (I2.below hb) (I3.below hb) hfit.1 hfit.2.2.2
        have HT : Hid (∀ t : TO, t.ok → Says t v fs ws ps → Tells w t v) := fun t h1 h2 => ⟨h1, fs, ws, ps, h2, I1, I2, I3⟩
        have HFV := hide hfit
        have HV := hide hv
        clear I1 I2 I3 hfit hv
        obtain ⟨p1, n1, c1, p2, n2, c2, p3, n3, c3, ix, vb, tx⟩ := v
        have hA2 : Hid (At wr (a.add (k * 6)) [.slice p1 n1 c1, .slice p2 n2 c2, .slice p3 n3 c3, .int .i64 ix, .int .i32 vb, .string tx]) := hAt
        have hBr2 := hide hBr
        clear hAt hBr
        go_wp2_with (refine wpList_load_at rfl 51 (.tmp 44) rfl (a.add (k * 6)) rfl _ _ (unhide hA2) Tryd.underlying51 rfl (by kernel_rfl) ?_)
        refine (unhide CW _ ((unhide hBr2).alloc (unhide hBr2).size _)).mono ?_
        rintro x w5 ⟨s2, b, rfl, hb5, hT5⟩
        have hBr5 : Hid (Below w2.heap.size w2 w5) := (((unhide hR).1.alloc (unhide hR).1.size _)).trans (hb5.mono (Nat.le_trans (unhide hR).1.size (by simp)))
        have HT5 := hide hT5
        clear hT5 hb5 CW hA2
        cases b with
        | false =>
          go_wp2
          go_ret
          exact ⟨rfl, hB2.trans ((unhide hBr5).mono hB2.size)⟩
        | true =>
          obtain ⟨t, t1, t2, t3⟩ := (unhide HT5) rfl
          have hs2 : s2.size ≤ 4294967400 := by
            rw [t3]
            exact tells_len (unhide HT t t1 t2) (unhide HFV)
          have HTt : Hid (Tells w t ⟨p1, n1, c1, p2, n2, c2, p3, n3, c3, ix, vb, tx⟩ ∧ s2 = mk (t.op ++ t.tx)) := ⟨unhide HT t t1 t2, t3⟩
          have hsk : s.size ≤ 429496740000 := by omega
          clear t1 t2 t3 HT HT5 HFV hBr2
          go_wp2
          go_roundg (gk - 1)
          case measure => omega
          case rel =>
            refine ⟨k + 1, _, by omega, by omega, by go_num, rfl, ?_, unhide hBr5, ?_⟩
            · rw [ByteArray.size_append]
              omega
            · rw [(unhide HTt).2]
              exact (unhide hR).2.step (unhide HV) (unhide HTt).1
      · have hd : decide (k < n) = false := decide_eq_false hltk
        have hkn : k = n := by omega
        subst hkn
        have hBr : Below w2.heap.size w2 wr := (unhide hR).1
        obtain ⟨ts, hts, hse, hTT⟩ := (unhide hR).2
        subst hse
        have hok : ∀ t ∈ ts, t.ok := fun t ht => by
          obtain ⟨j, hj⟩ := List.getElem?_of_mem ht
          obtain ⟨v, _, h⟩ := hTT j t hj
          exact h.1
        have ci2 : wr.cell? ⟨w.heap.size, 0, none⟩ = some (.int .i64 i) := by
          rw [hBr.cell hlt]
          exact ci
        have hsz : (told ts).length ≤ 500000000000 := by
          rw [mk_size'] at hss
          omega
        obtain ⟨xs, hTo, hxl, hC⟩ := told_row ts hok k hts (by omega) (by omega) i wr ((unhide HG).below (hB2.trans (hBr.mono hB2.size)) (unhide HG).big) hsz i0 (by omega)
        have HC := hide hC
        have HTo : Hid (Tolds (i + 1) ts xs (i + 1) ∧ xs.length = k ∧ ts.length = k ∧ ∀ (j : Nat) (t : TO), ts[j]? = some t → ∃ v, vs[j]? = some v ∧ Tells w t v) := ⟨hTo, hxl, hts, hTT⟩
        clear hC hTo hxl hts hTT hok hsz hR
        go_wp2_with fail
        refine (unhide HC).mono ?_
        rintro x w3 ⟨g, cg, rfl, hr3, hg3, hg3', hb3⟩
        clear HC
        have ci3 : w3.cell? ⟨w.heap.size, 0, none⟩ = some (.int .i64 i) := by
          rw [hb3.cell (by have := hBr.size; show w.heap.size < wr.heap.size; omega)]
          exact ci2
        have hp3 : w.heap.size < w3.heap.size := by
          have := hBr.size
          have := hb3.size
          omega
        have hB3 : Below w.heap.size w w3 := hB2.trans ((hBr.trans (hb3.mono hBr.size)).mono hB2.size)
        have HB : Hid (Below w.heap.size w w3 ∧ OpsRow w3 g xs ∧ g < w3.heap.size ∧ w3.cell? ⟨w.heap.size, 0, none⟩ = some (.int .i64 i) ∧ w.heap.size < w3.heap.size) := ⟨hB3, hr3, hg3, ci3, hp3⟩
        clear hr3 hg3 hg3' hb3 hBr hB2 ci ci2 hlt hp3 hB3
        go_upto_region 19 with fail
        refine wgen (fun W => Fr w3 w3.heap.size (i + 1) [] W) ⟨(Below.refl _ _).alloc (Nat.le_refl _) _, Blk.new w3 3 #[.int .i64 (i + 1)], (fun b hb => by cases hb), List.Pairwise.nil⟩ ?_
        intro w4 hFr
        have HFr := hide hFr
        clear hFr ci3
        generalize hp : w.heap.size = p at *
        generalize hq : w3.heap.size = q at *
        have HP := hide hp
        have HQ := hide hq
        clear hp hq
        go_wp2_with fail
        go_loopg [77] (k + 1) (fun f s77 wr => ∃ k2 : Nat, k2 ≤ k ∧ k - k2 < f ∧ s77 = .int .i64 k2 ∧ Hid (Fr w3 q (anAt (i + 1) ts (i + 1) k2) [] wr))
        case atStart => exact ⟨0, Nat.zero_le _, by omega, rfl, by cases ts <;> exact unhide HFr⟩
        case round =>
          obtain ⟨k2, hk2, hG, rfl, hR⟩ := hrel
          obtain ⟨gk2, hgk2⟩ : ∃ z, z = gk := ⟨_, rfl⟩
          clear HFr
          by_cases hltk : k2 < k
          · have hj0 : (0 : Int) ≤ (k2 : Int) := by omega
            have hj1 : (k2 : Int) < (k : Int) := by omega
            have hd : decide (k2 < k) = true := decide_eq_true hltk
            obtain ⟨hTo, hxl, htl, hTT⟩ := unhide HTo
            obtain ⟨x, hx⟩ : ∃ x, xs[k2]? = some x := ⟨xs[k2]'(by omega), List.getElem?_eq_getElem _⟩
            obtain ⟨t, ht⟩ : ∃ t, ts[k2]? = some t := ⟨ts[k2]'(by omega), List.getElem?_eq_getElem _⟩
            obtain ⟨v, hv, htok, fs, ws, ps, hSay, I1, I2, I3⟩ := hTT k2 t ht
            have hIT : ITold t (i + 1) (anAt (i + 1) ts (i + 1) k2) x := by
              have h1 := (List.getElem?_eq_some_iff.1 ht)
              have h2 := (List.getElem?_eq_some_iff.1 hx)
              have := hTo.at k2 h1.1 h2.1
              rw [h1.2, h2.2] at this
              exact this
            have hok : ∀ t ∈ ts, t.ok := fun t ht => by
              obtain ⟨j, hj⟩ := List.getElem?_of_mem ht
              obtain ⟨v, _, h⟩ := hTT j t hj
              exact h.1
            have hnx : anAt (i + 1) ts (i + 1) (k2 + 1) = t.a3 (i + 1) (anAt (i + 1) ts (i + 1) k2) + 1 := by
              have h1 := (List.getElem?_eq_some_iff.1 ht)
              rw [anAt_next k2 h1.1, h1.2]
            obtain ⟨b0, b1⟩ := anAt_bound (first := i + 1) (by omega) (by omega) (ts := ts) (an := i + 1) (M := 3000) k2 hok (by omega) (by omega) (by omega)
            generalize anAt (i + 1) ts (i + 1) k2 = an at hIT hnx b0 b1 hR
            have hab := a_bounds htok (first := i + 1) (an := an) (M := 4000) (by omega) (by omega) b0 (by omega) (by omega)
            have hbw : Below w.heap.size w wr := by
              have e : w.heap.size = p := unhide HP
              rw [e]
              exact (unhide HB).1.trans ((unhide hR).bw.mono (Nat.le_of_lt (unhide HB).2.2.2.2))
            have hAt : At wr (a.add (k2 * 6)) (tvCells v).toList := (unhide HL k2 v hv).below hbw (by
              have e : w.heap.size = p := unhide HP
              have := (unhide HA) (by omega)
              rw [e, Addr.add]
              split <;> exact this)
            have HIT := hide hIT
            have HNX := hide hnx
            have HAB := hide hab
            have HSAY := hide hSay
            have HI3 : Hid (Ints w v.p1 v.n1 fs ∧ Ints w v.p2 v.n2 ws ∧ Ints w v.p3 v.n3 ps ∧ t.ok) := ⟨I1, I2, I3, htok⟩
            have HX := hide hx
            have hfn := (unhide HF v (List.mem_of_getElem? hv)).1
            clear hTo hxl htl hTT hx ht hv htok hSay I1 I2 I3 hIT hok hnx hab hbw
            obtain ⟨p1, n1, c1, p2, n2, c2, p3, n3, c3, ix, vb, tx⟩ := v
            replace hfn : n1 ≤ 2147483647 := hfn
            have HAt : Hid (At wr (a.add (k2 * 6)) [.slice p1 n1 c1, .slice p2 n2 c2, .slice p3 n3 c3, .int .i64 ix, .int .i32 vb, .string tx]) := hAt
            clear hAt
            go_upto_region 22 with (refine wpList_load_at rfl 51 (.tmp 80) rfl (a.add (k2 * 6)) rfl _ _ (unhide HAt) Tryd.underlying51 rfl (by kernel_rfl) ?_)
            refine wgen (fun W => Fr w3 q an [(wr.heap.size, 51, #[.slice p1 n1 c1, .slice p2 n2 c2, .slice p3 n3 c3, .int .i64 ix, .int .i32 vb, .string tx])] W) ((unhide hR).new 51 _) ?_
            intro W1 hF1
            clear HAt hR
            generalize wr.heap.size = tb at hF1 ⊢
            clear wr
            have hrg0 := ((unhide HB).2.1.below hF1.bw (unhide HB).2.2.1).range (unhide HX)
            obtain ⟨text, st, en, fl, vbx, vs1, ve, xi, arg, ⟨v1, v2, v3, v4, v5⟩, ⟨q1, q2, q3, q4, q5⟩⟩ := x
            obtain ⟨y1, y2, y3, y4, y5, y6⟩ := unhide HIT
            replace y1 : vbx = t.vb.toNat := y1
            replace y2 : fl = mk t.fl := y2
            replace y5 : xi = if t.ix = 0 then -1 else (t.ix : Int) := y5
            replace y6 : arg = t.a3 (i + 1) an := y6
            have e1 : vbx = vb := by
              have := (unhide HSAY).vb
              rw [y1]
              exact this.symm
            subst e1
            have e5 : xi = if ix = 0 then -1 else ix := by
              have h : ix = (t.ix : Int) := (unhide HSAY).ix
              rw [y5, h]
              by_cases h0 : t.ix = 0
              · rw [if_pos h0, if_pos (by omega)]
              · rw [if_neg h0, if_neg (by omega)]
            have ix0 : 0 ≤ ix := by
              have h : ix = (t.ix : Int) := (unhide HSAY).ix
              omega
            have ix1 : ix ≤ 1000 := by
              have h : ix = (t.ix : Int) := (unhide HSAY).ix
              have := (unhide HI3).2.2.2.ix
              omega
            have e6 : arg = if ix = 0 then t.a2 (i + 1) an else i + ix := by
              have h : ix = (t.ix : Int) := (unhide HSAY).ix
              rw [y6, h, TO.a3]
              by_cases h0 : t.ix = 0
              · rw [if_pos h0, if_pos (by omega)]
              · rw [if_neg h0, if_neg (by omega)]
                omega
            have e2 : fl = mk (fs.map flagC) := by rw [y2, (unhide HSAY).fl]
            have HY : Hid ((⟨v1, v2, v3, v4, v5⟩ : Sz).like (i + 1) an t.wd ∧ (⟨q1, q2, q3, q4, q5⟩ : Sz).like (i + 1) (t.a1 (i + 1) an) t.pr) := ⟨y3, y4⟩
            have HE2 := hide e2
            have HE5 := hide e5
            have HE6 := hide e6
            have HY6 := hide y6
            clear y1 y2 y3 y4 y5 y6 e2 e5 e6 HIT HX
            obtain ⟨Ls, hLs⟩ : ∃ Ls : List Value, Ls = (#[.string text, .int .i64 st, .int .i64 en, .string fl, .int .i32 vbx, .int .i64 vs1, .int .i64 ve, .int .i64 xi, .int .i64 arg, .int .i64 v1, .int .i64 v2, .int .i64 v3, .int .i64 v4, .int .i64 v5, .int .i64 q1, .int .i64 q2, .int .i64 q3, .int .i64 q4, .int .i64 q5] : Array Value).toList := ⟨_, rfl⟩
            have hrg : W1.rangeAt g (k2 * 19) Ls := by
              rw [hLs]
              exact hrg0
            have hAs : Ls.toArray.size = 19 := by rw [hLs]; rfl
            have hi1 : (Tryd.prog.info? 32).map (·.size) = some Ls.length := by
              rw [hLs]
              kernel_rfl
            have hi2 : (Tryd.prog.info? 32).map (·.size) = some Ls.toArray.size := by
              rw [hLs]
              kernel_rfl
            have hth : (W1.alloc (.cells #[.string ⟨#[]⟩, .int .i64 0, .int .i64 0, .string ⟨#[]⟩, .int .i32 0, .int .i64 0, .int .i64 0, .int .i64 0, .int .i64 0, .int .i64 0, .int .i64 0, .int .i64 0, .int .i64 0, .int .i64 0, .int .i64 0, .int .i64 0, .int .i64 0, .int .i64 0, .int .i64 0] 32)).there W1.heap.size 0 Ls.toArray.size := there_blk (Blk.new _ _ _) (by rw [hAs]; rfl)
            have hoc : Ls.toArray.all (·.oneCell') = true := by
              rw [hLs]
              simp [Value.oneCell']
            have hbox := hF1.box 32 #[.string ⟨#[]⟩, .int .i64 0, .int .i64 0, .string ⟨#[]⟩, .int .i32 0, .int .i64 0, .int .i64 0, .int .i64 0, .int .i64 0, .int .i64 0, .int .i64 0, .int .i64 0, .int .i64 0, .int .i64 0, .int .i64 0, .int .i64 0, .int .i64 0, .int .i64 0, .int .i64 0] Ls.toArray (by rw [hAs]; rfl)
            have HRG := hide hrg
            have HI1 := hide hi1
            have HI2 := hide hi2
            have HTH := hide hth
            have HOC := hide hoc
            have HBOX := hide hbox
            have HLS := hide hLs
            clear hLs hrg hrg0 hAs hi1 hi2 hth hoc hbox hF1
            go_upto_region 23 with (first | (refine wpList_load_mid rfl 32 (.tmp 84) rfl g (k2 * 19) rfl Ls _ (unhide HRG) Tryd.underlying32 rfl (unhide HI1) ?_) | (refine wpList_store_mid rfl 32 (.tmp 16) (.tmp 85) rfl W1.heap.size 0 Ls.toArray rfl rfl (unhide HTH) (unhide HI2) (unhide HOC) ?_))
            refine wgen (fun W => Fr w3 q an [(W1.heap.size, 32, Ls.toArray), (tb, 51, #[.slice p1 n1 c1, .slice p2 n2 c2, .slice p3 n3 c3, .int .i64 ix, .int .i32 vbx, .string tx])] W) (unhide HBOX) ?_
            intro W2 hF2
            rw [show Ls.toArray = (#[.string text, .int .i64 st, .int .i64 en, .string fl, .int .i32 vbx, .int .i64 vs1, .int .i64 ve, .int .i64 xi, .int .i64 arg, .int .i64 v1, .int .i64 v2, .int .i64 v3, .int .i64 v4, .int .i64 v5, .int .i64 q1, .int .i64 q2, .int .i64 q3, .int .i64 q4, .int .i64 q5] : Array Value) from by rw [unhide HLS]] at hF2
            clear HRG HI1 HI2 HTH HOC HBOX HLS
            simp only [Act.put]
            generalize W1.heap.size = ob at hF2 ⊢
            clear W1
            have HR1 : Hid (W2.rangeAt ob 9 [.int .i64 v1, .int .i64 v2, .int .i64 v3, .int .i64 v4, .int .i64 v5]) := hF2.head.part 9 _ rfl
            have HR2 : Hid (W2.rangeAt ob 14 [.int .i64 q1, .int .i64 q2, .int .i64 q3, .int .i64 q4, .int .i64 q5]) := hF2.head.part 14 _ rfl
            have HF2 := hide hF2
            clear hF2
            go_upto_region 24 with (first | (refine wpList_load_mid rfl 30 (.tmp 86) rfl ob 9 rfl [.int .i64 v1, .int .i64 v2, .int .i64 v3, .int .i64 v4, .int .i64 v5] _ (unhide HR1) Tryd.underlying30 rfl (by kernel_rfl) ?_) | (refine wpList_load_mid rfl 30 (.tmp 88) rfl ob 14 rfl [.int .i64 q1, .int .i64 q2, .int .i64 q3, .int .i64 q4, .int .i64 q5] _ (unhide HR2) Tryd.underlying30 rfl (by kernel_rfl) ?_))
            clear HR1 HR2
            refine wgen (fun W => Fr w3 q an [(W2.heap.size, 30, #[.int .i64 v1, .int .i64 v2, .int .i64 v3, .int .i64 v4, .int .i64 v5, .int .i64 q1, .int .i64 q2, .int .i64 q3, .int .i64 q4, .int .i64 q5]), (ob, 32, #[.string text, .int .i64 st, .int .i64 en, .string fl, .int .i32 vbx, .int .i64 vs1, .int .i64 ve, .int .i64 xi, .int .i64 arg, .int .i64 v1, .int .i64 v2, .int .i64 v3, .int .i64 v4, .int .i64 v5, .int .i64 q1, .int .i64 q2, .int .i64 q3, .int .i64 q4, .int .i64 q5]), (tb, 51, #[.slice p1 n1 c1, .slice p2 n2 c2, .slice p3 n3 c3, .int .i64 ix, .int .i32 vbx, .string tx])] W) ((unhide HF2).new 30 _) ?_
            intro W3 hF3
            clear HF2
            generalize W2.heap.size = zb at hF3 ⊢
            clear W2
            have HF3 := hide hF3
            clear hF3
            go_loopg [92] 3 (fun f s92 wr => ∃ j : Nat, j ≤ 2 ∧ 2 - j < f ∧ s92 = .int .i64 j ∧ Hid (Fr w3 q (nxs t (i + 1) an j) [(zb, 30, #[.int .i64 v1, .int .i64 v2, .int .i64 v3, .int .i64 v4, .int .i64 v5, .int .i64 q1, .int .i64 q2, .int .i64 q3, .int .i64 q4, .int .i64 q5]), (ob, 32, #[.string text, .int .i64 st, .int .i64 en, .string fl, .int .i32 vbx, .int .i64 vs1, .int .i64 ve, .int .i64 xi, .int .i64 arg, .int .i64 v1, .int .i64 v2, .int .i64 v3, .int .i64 v4, .int .i64 v5, .int .i64 q1, .int .i64 q2, .int .i64 q3, .int .i64 q4, .int .i64 q5]), (tb, 51, #[.slice p1 n1 c1, .slice p2 n2 c2, .slice p3 n3 c3, .int .i64 ix, .int .i32 vbx, .string tx])] wr))
            case atStart => exact ⟨0, by omega, by omega, rfl, unhide HF3⟩
            case round =>
              obtain ⟨j, hj, hGj, rfl, hS⟩ := hrel
              clear HF3
              have hj3 : j = 0 ∨ j = 1 ∨ j = 2 := by omega
              rcases hj3 with rfl | rfl | rfl
              · replace hS : Hid (Fr w3 q an [(zb, 30, #[.int .i64 v1, .int .i64 v2, .int .i64 v3, .int .i64 v4, .int .i64 v5, .int .i64 q1, .int .i64 q2, .int .i64 q3, .int .i64 q4, .int .i64 q5]), (ob, 32, #[.string text, .int .i64 st, .int .i64 en, .string fl, .int .i32 vbx, .int .i64 vs1, .int .i64 ve, .int .i64 xi, .int .i64 arg, .int .i64 v1, .int .i64 v2, .int .i64 v3, .int .i64 v4, .int .i64 v5, .int .i64 q1, .int .i64 q2, .int .i64 q3, .int .i64 q4, .int .i64 q5]), (tb, 51, #[.slice p1 n1 c1, .slice p2 n2 c2, .slice p3 n3 c3, .int .i64 ix, .int .i32 vbx, .string tx])] wr) := hS
                have ba0 : 0 ≤ an := b0
                have ba1 : an ≤ 4000 := by omega
                have HR1 : Hid (wr.rangeAt zb 0 [.int .i64 v1, .int .i64 v2, .int .i64 v3, .int .i64 v4, .int .i64 v5]) := (unhide hS).head.part 0 _ rfl
                go_upto_region 26 with (refine wpList_load_mid rfl 30 (.tmp 95) rfl zb 0 rfl [.int .i64 v1, .int .i64 v2, .int .i64 v3, .int .i64 v4, .int .i64 v5] _ (unhide HR1) Tryd.underlying30 rfl (by kernel_rfl) ?_)
                refine wgen (fun W => Fr w3 q an [(wr.heap.size, 30, #[.int .i64 v1, .int .i64 v2, .int .i64 v3, .int .i64 v4, .int .i64 v5]), (zb, 30, #[.int .i64 v1, .int .i64 v2, .int .i64 v3, .int .i64 v4, .int .i64 v5, .int .i64 q1, .int .i64 q2, .int .i64 q3, .int .i64 q4, .int .i64 q5]), (ob, 32, #[.string text, .int .i64 st, .int .i64 en, .string fl, .int .i32 vbx, .int .i64 vs1, .int .i64 ve, .int .i64 xi, .int .i64 arg, .int .i64 v1, .int .i64 v2, .int .i64 v3, .int .i64 v4, .int .i64 v5, .int .i64 q1, .int .i64 q2, .int .i64 q3, .int .i64 q4, .int .i64 q5]), (tb, 51, #[.slice p1 n1 c1, .slice p2 n2 c2, .slice p3 n3 c3, .int .i64 ix, .int .i32 vbx, .string tx])] W) ((unhide hS).new 30 _) ?_
                intro W4 hF4
                clear HR1 hS
                generalize wr.heap.size = db at hF4 ⊢
                clear wr
                have t1 : W4.cell? ⟨tb, 1, none⟩ = some (.slice p2 n2 c2) := hF4.tail.tail.tail.head.cell 1
                have t2 : W4.cell? ⟨tb, 2, none⟩ = some (.slice p3 n3 c3) := hF4.tail.tail.tail.head.cell 2
                have HF4 := hide hF4
                clear hF4
                go_upto_region 27 with fail
                refine wgen (fun W => Fr w3 q an [(db, 30, #[.int .i64 v1, .int .i64 v2, .int .i64 v3, .int .i64 v4, .int .i64 v5]), (zb, 30, #[.int .i64 v1, .int .i64 v2, .int .i64 v3, .int .i64 v4, .int .i64 v5, .int .i64 q1, .int .i64 q2, .int .i64 q3, .int .i64 q4, .int .i64 q5]), (ob, 32, #[.string text, .int .i64 st, .int .i64 en, .string fl, .int .i32 vbx, .int .i64 vs1, .int .i64 ve, .int .i64 xi, .int .i64 arg, .int .i64 v1, .int .i64 v2, .int .i64 v3, .int .i64 v4, .int .i64 v5, .int .i64 q1, .int .i64 q2, .int .i64 q3, .int .i64 q4, .int .i64 q5]), (tb, 51, #[.slice p1 n1 c1, .slice p2 n2 c2, .slice p3 n3 c3, .int .i64 ix, .int .i32 vbx, .string tx])] W) ((unhide HF4).alloc _) ?_
                intro W5 hF5
                clear t1 t2 HF4
                try clear W4
                have t3 : W5.cell? ⟨db, 3, none⟩ = some (.int .i64 v4) := hF5.head.cell 3
                have t4 : W5.cell? ⟨db, 4, none⟩ = some (.int .i64 v5) := hF5.head.cell 4
                have HF5 := hide hF5
                clear hF5
                go_upto_region 28 with fail
                refine wgen (fun W => Fr w3 q an [(W5.heap.size, 30, #[.int .i64 (-1), .int .i64 (-1), .int .i64 (-1), .int .i64 v4, .int .i64 v5]), (db, 30, #[.int .i64 v1, .int .i64 v2, .int .i64 v3, .int .i64 v4, .int .i64 v5]), (zb, 30, #[.int .i64 v1, .int .i64 v2, .int .i64 v3, .int .i64 v4, .int .i64 v5, .int .i64 q1, .int .i64 q2, .int .i64 q3, .int .i64 q4, .int .i64 q5]), (ob, 32, #[.string text, .int .i64 st, .int .i64 en, .string fl, .int .i32 vbx, .int .i64 vs1, .int .i64 ve, .int .i64 xi, .int .i64 arg, .int .i64 v1, .int .i64 v2, .int .i64 v3, .int .i64 v4, .int .i64 v5, .int .i64 q1, .int .i64 q2, .int .i64 q3, .int .i64 q4, .int .i64 q5]), (tb, 51, #[.slice p1 n1 c1, .slice p2 n2 c2, .slice p3 n3 c3, .int .i64 ix, .int .i32 vbx, .string tx])] W) ((unhide HF5).new 30 _) ?_
                intro W6 hF6
                clear t3 t4 HF5
                generalize W5.heap.size = eb at hF6 ⊢
                try clear W5
                have HBW : Hid (∀ W, Below q w3 W → Below w.heap.size w W) := fun W hb => by
                  have e : w.heap.size = p := unhide HP
                  rw [e]
                  exact (unhide HB).1.trans (hb.mono (Nat.le_of_lt (unhide HB).2.2.2.2))
                have hII := (unhide HI3).2.1
                have hsy := (unhide HSAY).wd
                have hlk := (unhide HY).1
                have hn2 : t.a1 (i + 1) an = t.wd.nx (i + 1) an := rfl
                have hwk := (unhide HI3).2.2.2.wd
                generalize t.wd = wk at hlk hn2 hsy hwk
                have ci6 : W6.cell? ⟨p, 0, none⟩ = some (.int .i64 i) := by
                  rw [hF6.bw.cell (unhide HB).2.2.2.2]
                  exact (unhide HB).2.2.2.1
                cases wk with
                | no =>
                  have hz : ws = [] := hsy
                  have hz0 : n2 = 0 := by have := hII.len; rw [hz] at this; simpa using this.symm
                  obtain ⟨l1, l2, l3⟩ := hlk
                  replace l1 : v1 = -1 := l1
                  replace l2 : v2 = -1 := l2
                  replace l3 : v3 = -1 := l3
                  replace hn2 : t.a1 (i + 1) an = an := hn2
                  have HN2 := hide hz0
                  clear hz hII hsy hwk hz0 ci6
                  subst l1
                  subst l2
                  subst l3
                  have z1 : ((n2 : Int) == 1) = false := by rw [unhide HN2]; rfl
                  have z2 : ((n2 : Int) == 2) = false := by rw [unhide HN2]; rfl
                  have HF6 := hide hF6
                  clear hF6
                  go_upto_region 34 with fail
                  refine wgen (fun W => Fr w3 q an [(eb, 30, #[.int .i64 (-1), .int .i64 (-1), .int .i64 (-1), .int .i64 v4, .int .i64 v5]), (db, 30, #[.int .i64 (-1), .int .i64 (-1), .int .i64 (-1), .int .i64 v4, .int .i64 v5]), (zb, 30, #[.int .i64 (-1), .int .i64 (-1), .int .i64 (-1), .int .i64 v4, .int .i64 v5, .int .i64 q1, .int .i64 q2, .int .i64 q3, .int .i64 q4, .int .i64 q5]), (ob, 32, #[.string text, .int .i64 st, .int .i64 en, .string fl, .int .i32 vbx, .int .i64 vs1, .int .i64 ve, .int .i64 xi, .int .i64 arg, .int .i64 (-1), .int .i64 (-1), .int .i64 (-1), .int .i64 v4, .int .i64 v5, .int .i64 q1, .int .i64 q2, .int .i64 q3, .int .i64 q4, .int .i64 q5]), (tb, 51, #[.slice p1 n1 c1, .slice p2 n2 c2, .slice p3 n3 c3, .int .i64 ix, .int .i32 vbx, .string tx])] W) (unhide HF6) ?_
                  intro Wz hFz
                  clear HF6
                  have HRd : Hid (Wz.rangeAt db 0 [.int .i64 (-1), .int .i64 (-1), .int .i64 (-1), .int .i64 v4, .int .i64 v5]) := hFz.tail.head.part 0 _ rfl
                  have HRe : Hid (Wz.rangeAt eb 0 [.int .i64 (-1), .int .i64 (-1), .int .i64 (-1), .int .i64 v4, .int .i64 v5]) := hFz.head.part 0 _ rfl
                  have HFz := hide hFz
                  clear hFz
                  go_wp2_with (first | (refine wpList_load_mid rfl 30 (.tmp 18) rfl db 0 rfl [.int .i64 (-1), .int .i64 (-1), .int .i64 (-1), .int .i64 v4, .int .i64 v5] _ (unhide HRd) Tryd.underlying30 rfl (by kernel_rfl) ?_) | (refine wpList_load_mid rfl 30 (.tmp 20) rfl eb 0 rfl [.int .i64 (-1), .int .i64 (-1), .int .i64 (-1), .int .i64 v4, .int .i64 v5] _ (unhide HRe) Tryd.underlying30 rfl (by kernel_rfl) ?_))
                  go_roundg (gk - 1)
                  case measure => omega
                  case rel => exact ⟨1, by omega, by omega, by go_num, by
                    show Fr w3 q (t.a1 (i + 1) an) _ _
                    rw [hn2]
                    exact (unhide HFz).tail.tail⟩
                | num m =>
                  have hz : ws = [(m : Int)] := hsy
                  have hz0 : n2 = 1 := by have := hII.len; rw [hz] at this; simpa using this.symm
                  obtain ⟨l1, l2, l3⟩ := hlk
                  replace l1 : v1 = (m : Int) := l1
                  replace l2 : v2 = -1 := l2
                  replace l3 : v3 = -1 := l3
                  replace hn2 : t.a1 (i + 1) an = an := hn2
                  obtain ⟨bb, hbb⟩ : ∃ bb, p2 = some bb := by
                    cases hpp : p2 with
                    | none => have := hII.none hpp; omega
                    | some bb => exact ⟨bb, rfl⟩
                  have HCC : Hid (∀ W, Below q w3 W → W.cell? bb = some (.int .i64 m)) := fun W hb => (hII.below (unhide HBW W hb)).cell bb 0 m hbb (by rw [hz]; rfl)
                  clear hz hII hsy hwk ci6
                  subst hz0
                  subst hbb
                  subst l1
                  subst l2
                  subst l3
                  have cc0 := unhide HCC W6 hF6.bw
                  have kk0 := hF6.head.cell 0
                  have gg0 := hF6.head.frozen 0
                  have HF6 := hide hF6
                  clear hF6
                  go_upto_region 30 with fail
                  refine wgen (fun W => Fr w3 q an [(eb, 30, #[.int .i64 (m : Int), .int .i64 (-1), .int .i64 (-1), .int .i64 v4, .int .i64 v5]), (db, 30, #[.int .i64 (m : Int), .int .i64 (-1), .int .i64 (-1), .int .i64 v4, .int .i64 v5]), (zb, 30, #[.int .i64 ((m : Int)), .int .i64 (-1), .int .i64 (-1), .int .i64 v4, .int .i64 v5, .int .i64 q1, .int .i64 q2, .int .i64 q3, .int .i64 q4, .int .i64 q5]), (ob, 32, #[.string text, .int .i64 st, .int .i64 en, .string fl, .int .i32 vbx, .int .i64 vs1, .int .i64 ve, .int .i64 xi, .int .i64 arg, .int .i64 ((m : Int)), .int .i64 (-1), .int .i64 (-1), .int .i64 v4, .int .i64 v5, .int .i64 q1, .int .i64 q2, .int .i64 q3, .int .i64 q4, .int .i64 q5]), (tb, 51, #[.slice p1 n1 c1, .slice (some bb) 1 c2, .slice p3 n3 c3, .int .i64 ix, .int .i32 vbx, .string tx])] W) ((unhide HF6).set_ 0 _) ?_
                  intro Wz hFz
                  clear HF6 cc0 kk0 gg0
                  go_upto_region 34 with fail
                  have HRd : Hid (Wz.rangeAt db 0 [.int .i64 (m : Int), .int .i64 (-1), .int .i64 (-1), .int .i64 v4, .int .i64 v5]) := hFz.tail.head.part 0 _ rfl
                  have HRe : Hid (Wz.rangeAt eb 0 [.int .i64 (m : Int), .int .i64 (-1), .int .i64 (-1), .int .i64 v4, .int .i64 v5]) := hFz.head.part 0 _ rfl
                  have HFz := hide hFz
                  clear hFz
                  go_wp2_with (first | (refine wpList_load_mid rfl 30 (.tmp 18) rfl db 0 rfl [.int .i64 (m : Int), .int .i64 (-1), .int .i64 (-1), .int .i64 v4, .int .i64 v5] _ (unhide HRd) Tryd.underlying30 rfl (by kernel_rfl) ?_) | (refine wpList_load_mid rfl 30 (.tmp 20) rfl eb 0 rfl [.int .i64 (m : Int), .int .i64 (-1), .int .i64 (-1), .int .i64 v4, .int .i64 v5] _ (unhide HRe) Tryd.underlying30 rfl (by kernel_rfl) ?_))
                  go_roundg (gk - 1)
                  case measure => omega
                  case rel => exact ⟨1, by omega, by omega, by go_num, by
                    show Fr w3 q (t.a1 (i + 1) an) _ _
                    rw [hn2]
                    exact (unhide HFz).tail.tail⟩
                | star =>
                  obtain ⟨x0, hz⟩ : ∃ x0, ws = [x0, 0] := hsy
                  have hz0 : n2 = 2 := by have := hII.len; rw [hz] at this; simpa using this.symm
                  obtain ⟨l1, l2, l3⟩ := hlk
                  replace l1 : v1 = -1 := l1
                  replace l2 : v2 = an := l2
                  replace l3 : v3 = -1 := l3
                  replace hn2 : t.a1 (i + 1) an = an + 1 := hn2
                  obtain ⟨bb, hbb⟩ : ∃ bb, p2 = some bb := by
                    cases hpp : p2 with
                    | none => have := hII.none hpp; omega
                    | some bb => exact ⟨bb, rfl⟩
                  have HCC : Hid (∀ W, Below q w3 W → W.cell? ⟨bb.block, bb.off + 1, none⟩ = some (.int .i64 0)) := fun W hb => (hII.below (unhide HBW W hb)).cell bb 1 0 hbb (by rw [hz]; rfl)
                  clear hz hII hwk
                  subst hz0
                  subst hbb
                  subst l1
                  replace l2 := l2.symm
                  subst l2
                  subst l3
                  have cc0 := unhide HCC W6 hF6.bw
                  have CA := hide (arg_no 0 i an p q W6 ci6 (hF6.nb.cell 0) (hF6.nb.frozen 0) (by decide) ba0 (by omega))
                  have hF7 := hF6.next (an + 1)
                  clear hF6
                  go_wp2_with fail
                  refine (unhide CA).mono ?_
                  rintro xx Wy ⟨rfl, rfl⟩
                  clear CA cc0 ci6
                  generalize W6.setCell ⟨q, 0, none⟩ (.int .i64 (an + 1)) = W7 at hF7 ⊢
                  have kk1 := hF7.head.cell 1
                  have gg1 := hF7.head.frozen 1
                  have HF7 := hide hF7
                  clear hF7
                  go_upto_region 32 with fail
                  refine wgen (fun W => Fr w3 q (an + 1) [(eb, 30, #[.int .i64 (-1), .int .i64 an, .int .i64 (-1), .int .i64 v4, .int .i64 v5]), (db, 30, #[.int .i64 (-1), .int .i64 an, .int .i64 (-1), .int .i64 v4, .int .i64 v5]), (zb, 30, #[.int .i64 (-1), .int .i64 (an), .int .i64 (-1), .int .i64 v4, .int .i64 v5, .int .i64 q1, .int .i64 q2, .int .i64 q3, .int .i64 q4, .int .i64 q5]), (ob, 32, #[.string text, .int .i64 st, .int .i64 en, .string fl, .int .i32 vbx, .int .i64 vs1, .int .i64 ve, .int .i64 xi, .int .i64 arg, .int .i64 (-1), .int .i64 (an), .int .i64 (-1), .int .i64 v4, .int .i64 v5, .int .i64 q1, .int .i64 q2, .int .i64 q3, .int .i64 q4, .int .i64 q5]), (tb, 51, #[.slice p1 n1 c1, .slice (some bb) 2 c2, .slice p3 n3 c3, .int .i64 ix, .int .i32 vbx, .string tx])] W) ((unhide HF7).set_ 1 _) ?_
                  intro Wz hFz
                  clear HF7 kk1 gg1
                  have cc1 := unhide HCC Wz hFz.bw
                  go_upto_region 34 with fail
                  clear cc1
                  have HRd : Hid (Wz.rangeAt db 0 [.int .i64 (-1), .int .i64 an, .int .i64 (-1), .int .i64 v4, .int .i64 v5]) := hFz.tail.head.part 0 _ rfl
                  have HRe : Hid (Wz.rangeAt eb 0 [.int .i64 (-1), .int .i64 an, .int .i64 (-1), .int .i64 v4, .int .i64 v5]) := hFz.head.part 0 _ rfl
                  have HFz := hide hFz
                  clear hFz
                  go_wp2_with (first | (refine wpList_load_mid rfl 30 (.tmp 18) rfl db 0 rfl [.int .i64 (-1), .int .i64 an, .int .i64 (-1), .int .i64 v4, .int .i64 v5] _ (unhide HRd) Tryd.underlying30 rfl (by kernel_rfl) ?_) | (refine wpList_load_mid rfl 30 (.tmp 20) rfl eb 0 rfl [.int .i64 (-1), .int .i64 an, .int .i64 (-1), .int .i64 v4, .int .i64 v5] _ (unhide HRe) Tryd.underlying30 rfl (by kernel_rfl) ?_))
                  go_roundg (gk - 1)
                  case measure => omega
                  case rel => exact ⟨1, by omega, by omega, by go_num, by
                    show Fr w3 q (t.a1 (i + 1) an) _ _
                    rw [hn2]
                    exact (unhide HFz).tail.tail⟩
                | «at» m =>
                  obtain ⟨x0, hz⟩ : ∃ x0, ws = [x0, (m : Int)] := hsy
                  have hz0 : n2 = 2 := by have := hII.len; rw [hz] at this; simpa using this.symm
                  obtain ⟨l1, l2, l3⟩ := hlk
                  replace l1 : v1 = -1 := l1
                  replace l2 : v2 = i + (m : Int) := l2.trans (by show (m : Int) + (i + 1 - 1) = i + (m : Int); omega)
                  replace l3 : v3 = (m : Int) := l3
                  replace hn2 : t.a1 (i + 1) an = i + (m : Int) + 1 := hn2.trans (by show (m : Int) + (i + 1 - 1) + 1 = i + (m : Int) + 1; omega)
                  obtain ⟨bb, hbb⟩ : ∃ bb, p2 = some bb := by
                    cases hpp : p2 with
                    | none => have := hII.none hpp; omega
                    | some bb => exact ⟨bb, rfl⟩
                  have HCC : Hid (∀ W, Below q w3 W → W.cell? ⟨bb.block, bb.off + 1, none⟩ = some (.int .i64 m)) := fun W hb => (hII.below (unhide HBW W hb)).cell bb 1 m hbb (by rw [hz]; rfl)
                  have hm0 : 0 < m := hwk.1
                  have hm1 : m < 1000 := hwk.2
                  clear hz hII hwk
                  subst hz0
                  subst hbb
                  subst l1
                  subst l2
                  subst l3
                  have cc0 := unhide HCC W6 hF6.bw
                  have CA := hide (arg_yes m i an p q W6 ci6 (hF6.nb.cell 0) (hF6.nb.frozen 0) (by omega) (by omega) i0 (by omega))
                  have hF7 := (hF6.next (i + (m : Int))).next (i + (m : Int) + 1)
                  clear hF6
                  go_wp2_with fail
                  refine (unhide CA).mono ?_
                  rintro xx Wy ⟨rfl, rfl⟩
                  clear CA cc0 ci6
                  generalize (W6.setCell ⟨q, 0, none⟩ (.int .i64 (i + (m : Int)))).setCell ⟨q, 0, none⟩ (.int .i64 (i + (m : Int) + 1)) = W7 at hF7 ⊢
                  have kk1 := hF7.head.cell 1
                  have gg1 := hF7.head.frozen 1
                  have HF7 := hide hF7
                  clear hF7
                  go_upto_region 32 with fail
                  refine wgen (fun W => Fr w3 q (i + (m : Int) + 1) [(eb, 30, #[.int .i64 (-1), .int .i64 (i + (m : Int)), .int .i64 (-1), .int .i64 v4, .int .i64 v5]), (db, 30, #[.int .i64 (-1), .int .i64 (i + (m : Int)), .int .i64 (m : Int), .int .i64 v4, .int .i64 v5]), (zb, 30, #[.int .i64 (-1), .int .i64 (i + (m : Int)), .int .i64 ((m : Int)), .int .i64 v4, .int .i64 v5, .int .i64 q1, .int .i64 q2, .int .i64 q3, .int .i64 q4, .int .i64 q5]), (ob, 32, #[.string text, .int .i64 st, .int .i64 en, .string fl, .int .i32 vbx, .int .i64 vs1, .int .i64 ve, .int .i64 xi, .int .i64 arg, .int .i64 (-1), .int .i64 (i + (m : Int)), .int .i64 ((m : Int)), .int .i64 v4, .int .i64 v5, .int .i64 q1, .int .i64 q2, .int .i64 q3, .int .i64 q4, .int .i64 q5]), (tb, 51, #[.slice p1 n1 c1, .slice (some bb) 2 c2, .slice p3 n3 c3, .int .i64 ix, .int .i32 vbx, .string tx])] W) ((unhide HF7).set_ 1 _) ?_
                  intro W8 hF8
                  clear HF7 kk1 gg1
                  have cc1 := unhide HCC W8 hF8.bw
                  have kk2 := hF8.head.cell 2
                  have gg2 := hF8.head.frozen 2
                  have HF8 := hide hF8
                  clear hF8
                  have dm : decide ((m : Int) > 0) = true := decide_eq_true (by omega)
                  go_upto_region 34 with fail
                  refine wgen (fun W => Fr w3 q (i + (m : Int) + 1) [(eb, 30, #[.int .i64 (-1), .int .i64 (i + (m : Int)), .int .i64 (m : Int), .int .i64 v4, .int .i64 v5]), (db, 30, #[.int .i64 (-1), .int .i64 (i + (m : Int)), .int .i64 (m : Int), .int .i64 v4, .int .i64 v5]), (zb, 30, #[.int .i64 (-1), .int .i64 (i + (m : Int)), .int .i64 ((m : Int)), .int .i64 v4, .int .i64 v5, .int .i64 q1, .int .i64 q2, .int .i64 q3, .int .i64 q4, .int .i64 q5]), (ob, 32, #[.string text, .int .i64 st, .int .i64 en, .string fl, .int .i32 vbx, .int .i64 vs1, .int .i64 ve, .int .i64 xi, .int .i64 arg, .int .i64 (-1), .int .i64 (i + (m : Int)), .int .i64 ((m : Int)), .int .i64 v4, .int .i64 v5, .int .i64 q1, .int .i64 q2, .int .i64 q3, .int .i64 q4, .int .i64 q5]), (tb, 51, #[.slice p1 n1 c1, .slice (some bb) 2 c2, .slice p3 n3 c3, .int .i64 ix, .int .i32 vbx, .string tx])] W) ((unhide HF8).set_ 2 _) ?_
                  intro Wz hFz
                  clear HF8 cc1 kk2 gg2 dm
                  have HRd : Hid (Wz.rangeAt db 0 [.int .i64 (-1), .int .i64 (i + (m : Int)), .int .i64 (m : Int), .int .i64 v4, .int .i64 v5]) := hFz.tail.head.part 0 _ rfl
                  have HRe : Hid (Wz.rangeAt eb 0 [.int .i64 (-1), .int .i64 (i + (m : Int)), .int .i64 (m : Int), .int .i64 v4, .int .i64 v5]) := hFz.head.part 0 _ rfl
                  have HFz := hide hFz
                  clear hFz
                  go_wp2_with (first | (refine wpList_load_mid rfl 30 (.tmp 18) rfl db 0 rfl [.int .i64 (-1), .int .i64 (i + (m : Int)), .int .i64 (m : Int), .int .i64 v4, .int .i64 v5] _ (unhide HRd) Tryd.underlying30 rfl (by kernel_rfl) ?_) | (refine wpList_load_mid rfl 30 (.tmp 20) rfl eb 0 rfl [.int .i64 (-1), .int .i64 (i + (m : Int)), .int .i64 (m : Int), .int .i64 v4, .int .i64 v5] _ (unhide HRe) Tryd.underlying30 rfl (by kernel_rfl) ?_))
                  go_roundg (gk - 1)
                  case measure => omega
                  case rel => exact ⟨1, by omega, by omega, by go_num, by
                    show Fr w3 q (t.a1 (i + 1) an) _ _
                    rw [hn2]
                    exact (unhide HFz).tail.tail⟩
              · replace hS : Hid (Fr w3 q (t.a1 (i + 1) an) [(zb, 30, #[.int .i64 v1, .int .i64 v2, .int .i64 v3, .int .i64 v4, .int .i64 v5, .int .i64 q1, .int .i64 q2, .int .i64 q3, .int .i64 q4, .int .i64 q5]), (ob, 32, #[.string text, .int .i64 st, .int .i64 en, .string fl, .int .i32 vbx, .int .i64 vs1, .int .i64 ve, .int .i64 xi, .int .i64 arg, .int .i64 v1, .int .i64 v2, .int .i64 v3, .int .i64 v4, .int .i64 v5, .int .i64 q1, .int .i64 q2, .int .i64 q3, .int .i64 q4, .int .i64 q5]), (tb, 51, #[.slice p1 n1 c1, .slice p2 n2 c2, .slice p3 n3 c3, .int .i64 ix, .int .i32 vbx, .string tx])] wr) := hS
                have ba0 := (unhide HAB).l1
                have ba1 : t.a1 (i + 1) an ≤ 4001 := (unhide HAB).u1
                have hlk := (unhide HY).2
                have hn2 : t.a2 (i + 1) an = t.pr.nx (i + 1) (t.a1 (i + 1) an) := rfl
                generalize t.a1 (i + 1) an = an1 at hS ba0 ba1 hlk hn2
                have HR1 : Hid (wr.rangeAt zb 5 [.int .i64 q1, .int .i64 q2, .int .i64 q3, .int .i64 q4, .int .i64 q5]) := (unhide hS).head.part 5 _ rfl
                go_upto_region 26 with (refine wpList_load_mid rfl 30 (.tmp 95) rfl zb 5 rfl [.int .i64 q1, .int .i64 q2, .int .i64 q3, .int .i64 q4, .int .i64 q5] _ (unhide HR1) Tryd.underlying30 rfl (by kernel_rfl) ?_)
                refine wgen (fun W => Fr w3 q an1 [(wr.heap.size, 30, #[.int .i64 q1, .int .i64 q2, .int .i64 q3, .int .i64 q4, .int .i64 q5]), (zb, 30, #[.int .i64 v1, .int .i64 v2, .int .i64 v3, .int .i64 v4, .int .i64 v5, .int .i64 q1, .int .i64 q2, .int .i64 q3, .int .i64 q4, .int .i64 q5]), (ob, 32, #[.string text, .int .i64 st, .int .i64 en, .string fl, .int .i32 vbx, .int .i64 vs1, .int .i64 ve, .int .i64 xi, .int .i64 arg, .int .i64 v1, .int .i64 v2, .int .i64 v3, .int .i64 v4, .int .i64 v5, .int .i64 q1, .int .i64 q2, .int .i64 q3, .int .i64 q4, .int .i64 q5]), (tb, 51, #[.slice p1 n1 c1, .slice p2 n2 c2, .slice p3 n3 c3, .int .i64 ix, .int .i32 vbx, .string tx])] W) ((unhide hS).new 30 _) ?_
                intro W4 hF4
                clear HR1 hS
                generalize wr.heap.size = db at hF4 ⊢
                clear wr
                have t1 : W4.cell? ⟨tb, 1, none⟩ = some (.slice p2 n2 c2) := hF4.tail.tail.tail.head.cell 1
                have t2 : W4.cell? ⟨tb, 2, none⟩ = some (.slice p3 n3 c3) := hF4.tail.tail.tail.head.cell 2
                have HF4 := hide hF4
                clear hF4
                go_upto_region 27 with fail
                refine wgen (fun W => Fr w3 q an1 [(db, 30, #[.int .i64 q1, .int .i64 q2, .int .i64 q3, .int .i64 q4, .int .i64 q5]), (zb, 30, #[.int .i64 v1, .int .i64 v2, .int .i64 v3, .int .i64 v4, .int .i64 v5, .int .i64 q1, .int .i64 q2, .int .i64 q3, .int .i64 q4, .int .i64 q5]), (ob, 32, #[.string text, .int .i64 st, .int .i64 en, .string fl, .int .i32 vbx, .int .i64 vs1, .int .i64 ve, .int .i64 xi, .int .i64 arg, .int .i64 v1, .int .i64 v2, .int .i64 v3, .int .i64 v4, .int .i64 v5, .int .i64 q1, .int .i64 q2, .int .i64 q3, .int .i64 q4, .int .i64 q5]), (tb, 51, #[.slice p1 n1 c1, .slice p2 n2 c2, .slice p3 n3 c3, .int .i64 ix, .int .i32 vbx, .string tx])] W) ((unhide HF4).alloc _) ?_
                intro W5 hF5
                clear t1 t2 HF4
                try clear W4
                have t3 : W5.cell? ⟨db, 3, none⟩ = some (.int .i64 q4) := hF5.head.cell 3
                have t4 : W5.cell? ⟨db, 4, none⟩ = some (.int .i64 q5) := hF5.head.cell 4
                have HF5 := hide hF5
                clear hF5
                go_upto_region 28 with fail
                refine wgen (fun W => Fr w3 q an1 [(W5.heap.size, 30, #[.int .i64 (-1), .int .i64 (-1), .int .i64 (-1), .int .i64 q4, .int .i64 q5]), (db, 30, #[.int .i64 q1, .int .i64 q2, .int .i64 q3, .int .i64 q4, .int .i64 q5]), (zb, 30, #[.int .i64 v1, .int .i64 v2, .int .i64 v3, .int .i64 v4, .int .i64 v5, .int .i64 q1, .int .i64 q2, .int .i64 q3, .int .i64 q4, .int .i64 q5]), (ob, 32, #[.string text, .int .i64 st, .int .i64 en, .string fl, .int .i32 vbx, .int .i64 vs1, .int .i64 ve, .int .i64 xi, .int .i64 arg, .int .i64 v1, .int .i64 v2, .int .i64 v3, .int .i64 v4, .int .i64 v5, .int .i64 q1, .int .i64 q2, .int .i64 q3, .int .i64 q4, .int .i64 q5]), (tb, 51, #[.slice p1 n1 c1, .slice p2 n2 c2, .slice p3 n3 c3, .int .i64 ix, .int .i32 vbx, .string tx])] W) ((unhide HF5).new 30 _) ?_
                intro W6 hF6
                clear t3 t4 HF5
                generalize W5.heap.size = eb at hF6 ⊢
                try clear W5
                have HBW : Hid (∀ W, Below q w3 W → Below w.heap.size w W) := fun W hb => by
                  have e : w.heap.size = p := unhide HP
                  rw [e]
                  exact (unhide HB).1.trans (hb.mono (Nat.le_of_lt (unhide HB).2.2.2.2))
                have hII := (unhide HI3).2.2.1
                have hsy := (unhide HSAY).pr
                have hwk := (unhide HI3).2.2.2.pr
                generalize t.pr = wk at hlk hn2 hsy hwk
                have ci6 : W6.cell? ⟨p, 0, none⟩ = some (.int .i64 i) := by
                  rw [hF6.bw.cell (unhide HB).2.2.2.2]
                  exact (unhide HB).2.2.2.1
                cases wk with
                | no =>
                  have hz : ps = [] := hsy
                  have hz0 : n3 = 0 := by have := hII.len; rw [hz] at this; simpa using this.symm
                  obtain ⟨l1, l2, l3⟩ := hlk
                  replace l1 : q1 = -1 := l1
                  replace l2 : q2 = -1 := l2
                  replace l3 : q3 = -1 := l3
                  replace hn2 : t.a2 (i + 1) an = an1 := hn2
                  have HN2 := hide hz0
                  clear hz hII hsy hwk hz0 ci6
                  subst l1
                  subst l2
                  subst l3
                  have z1 : ((n3 : Int) == 1) = false := by rw [unhide HN2]; rfl
                  have z2 : ((n3 : Int) == 2) = false := by rw [unhide HN2]; rfl
                  have HF6 := hide hF6
                  clear hF6
                  go_upto_region 34 with fail
                  refine wgen (fun W => Fr w3 q an1 [(eb, 30, #[.int .i64 (-1), .int .i64 (-1), .int .i64 (-1), .int .i64 q4, .int .i64 q5]), (db, 30, #[.int .i64 (-1), .int .i64 (-1), .int .i64 (-1), .int .i64 q4, .int .i64 q5]), (zb, 30, #[.int .i64 v1, .int .i64 v2, .int .i64 v3, .int .i64 v4, .int .i64 v5, .int .i64 (-1), .int .i64 (-1), .int .i64 (-1), .int .i64 q4, .int .i64 q5]), (ob, 32, #[.string text, .int .i64 st, .int .i64 en, .string fl, .int .i32 vbx, .int .i64 vs1, .int .i64 ve, .int .i64 xi, .int .i64 arg, .int .i64 v1, .int .i64 v2, .int .i64 v3, .int .i64 v4, .int .i64 v5, .int .i64 (-1), .int .i64 (-1), .int .i64 (-1), .int .i64 q4, .int .i64 q5]), (tb, 51, #[.slice p1 n1 c1, .slice p2 n2 c2, .slice p3 n3 c3, .int .i64 ix, .int .i32 vbx, .string tx])] W) (unhide HF6) ?_
                  intro Wz hFz
                  clear HF6
                  have HRd : Hid (Wz.rangeAt db 0 [.int .i64 (-1), .int .i64 (-1), .int .i64 (-1), .int .i64 q4, .int .i64 q5]) := hFz.tail.head.part 0 _ rfl
                  have HRe : Hid (Wz.rangeAt eb 0 [.int .i64 (-1), .int .i64 (-1), .int .i64 (-1), .int .i64 q4, .int .i64 q5]) := hFz.head.part 0 _ rfl
                  have HFz := hide hFz
                  clear hFz
                  go_wp2_with (first | (refine wpList_load_mid rfl 30 (.tmp 18) rfl db 0 rfl [.int .i64 (-1), .int .i64 (-1), .int .i64 (-1), .int .i64 q4, .int .i64 q5] _ (unhide HRd) Tryd.underlying30 rfl (by kernel_rfl) ?_) | (refine wpList_load_mid rfl 30 (.tmp 20) rfl eb 0 rfl [.int .i64 (-1), .int .i64 (-1), .int .i64 (-1), .int .i64 q4, .int .i64 q5] _ (unhide HRe) Tryd.underlying30 rfl (by kernel_rfl) ?_))
                  go_roundg (gk - 1)
                  case measure => omega
                  case rel => exact ⟨2, by omega, by omega, by go_num, by
                    show Fr w3 q (t.a2 (i + 1) an) _ _
                    rw [hn2]
                    exact (unhide HFz).tail.tail⟩
                | num m =>
                  have hz : ps = [(m : Int)] := hsy
                  have hz0 : n3 = 1 := by have := hII.len; rw [hz] at this; simpa using this.symm
                  obtain ⟨l1, l2, l3⟩ := hlk
                  replace l1 : q1 = (m : Int) := l1
                  replace l2 : q2 = -1 := l2
                  replace l3 : q3 = -1 := l3
                  replace hn2 : t.a2 (i + 1) an = an1 := hn2
                  obtain ⟨bb, hbb⟩ : ∃ bb, p3 = some bb := by
                    cases hpp : p3 with
                    | none => have := hII.none hpp; omega
                    | some bb => exact ⟨bb, rfl⟩
                  have HCC : Hid (∀ W, Below q w3 W → W.cell? bb = some (.int .i64 m)) := fun W hb => (hII.below (unhide HBW W hb)).cell bb 0 m hbb (by rw [hz]; rfl)
                  clear hz hII hsy hwk ci6
                  subst hz0
                  subst hbb
                  subst l1
                  subst l2
                  subst l3
                  have cc0 := unhide HCC W6 hF6.bw
                  have kk0 := hF6.head.cell 0
                  have gg0 := hF6.head.frozen 0
                  have HF6 := hide hF6
                  clear hF6
                  go_upto_region 30 with fail
                  refine wgen (fun W => Fr w3 q an1 [(eb, 30, #[.int .i64 (m : Int), .int .i64 (-1), .int .i64 (-1), .int .i64 q4, .int .i64 q5]), (db, 30, #[.int .i64 (m : Int), .int .i64 (-1), .int .i64 (-1), .int .i64 q4, .int .i64 q5]), (zb, 30, #[.int .i64 v1, .int .i64 v2, .int .i64 v3, .int .i64 v4, .int .i64 v5, .int .i64 ((m : Int)), .int .i64 (-1), .int .i64 (-1), .int .i64 q4, .int .i64 q5]), (ob, 32, #[.string text, .int .i64 st, .int .i64 en, .string fl, .int .i32 vbx, .int .i64 vs1, .int .i64 ve, .int .i64 xi, .int .i64 arg, .int .i64 v1, .int .i64 v2, .int .i64 v3, .int .i64 v4, .int .i64 v5, .int .i64 ((m : Int)), .int .i64 (-1), .int .i64 (-1), .int .i64 q4, .int .i64 q5]), (tb, 51, #[.slice p1 n1 c1, .slice p2 n2 c2, .slice (some bb) 1 c3, .int .i64 ix, .int .i32 vbx, .string tx])] W) ((unhide HF6).set_ 0 _) ?_
                  intro Wz hFz
                  clear HF6 cc0 kk0 gg0
                  go_upto_region 34 with fail
                  have HRd : Hid (Wz.rangeAt db 0 [.int .i64 (m : Int), .int .i64 (-1), .int .i64 (-1), .int .i64 q4, .int .i64 q5]) := hFz.tail.head.part 0 _ rfl
                  have HRe : Hid (Wz.rangeAt eb 0 [.int .i64 (m : Int), .int .i64 (-1), .int .i64 (-1), .int .i64 q4, .int .i64 q5]) := hFz.head.part 0 _ rfl
                  have HFz := hide hFz
                  clear hFz
                  go_wp2_with (first | (refine wpList_load_mid rfl 30 (.tmp 18) rfl db 0 rfl [.int .i64 (m : Int), .int .i64 (-1), .int .i64 (-1), .int .i64 q4, .int .i64 q5] _ (unhide HRd) Tryd.underlying30 rfl (by kernel_rfl) ?_) | (refine wpList_load_mid rfl 30 (.tmp 20) rfl eb 0 rfl [.int .i64 (m : Int), .int .i64 (-1), .int .i64 (-1), .int .i64 q4, .int .i64 q5] _ (unhide HRe) Tryd.underlying30 rfl (by kernel_rfl) ?_))
                  go_roundg (gk - 1)
                  case measure => omega
                  case rel => exact ⟨2, by omega, by omega, by go_num, by
                    show Fr w3 q (t.a2 (i + 1) an) _ _
                    rw [hn2]
                    exact (unhide HFz).tail.tail⟩
                | star =>
                  obtain ⟨x0, hz⟩ : ∃ x0, ps = [x0, 0] := hsy
                  have hz0 : n3 = 2 := by have := hII.len; rw [hz] at this; simpa using this.symm
                  obtain ⟨l1, l2, l3⟩ := hlk
                  replace l1 : q1 = -1 := l1
                  replace l2 : q2 = an1 := l2
                  replace l3 : q3 = -1 := l3
                  replace hn2 : t.a2 (i + 1) an = an1 + 1 := hn2
                  obtain ⟨bb, hbb⟩ : ∃ bb, p3 = some bb := by
                    cases hpp : p3 with
                    | none => have := hII.none hpp; omega
                    | some bb => exact ⟨bb, rfl⟩
                  have HCC : Hid (∀ W, Below q w3 W → W.cell? ⟨bb.block, bb.off + 1, none⟩ = some (.int .i64 0)) := fun W hb => (hII.below (unhide HBW W hb)).cell bb 1 0 hbb (by rw [hz]; rfl)
                  clear hz hII hwk
                  subst hz0
                  subst hbb
                  subst l1
                  replace l2 := l2.symm
                  subst l2
                  subst l3
                  have cc0 := unhide HCC W6 hF6.bw
                  have CA := hide (arg_no 0 i an1 p q W6 ci6 (hF6.nb.cell 0) (hF6.nb.frozen 0) (by decide) ba0 (by omega))
                  have hF7 := hF6.next (an1 + 1)
                  clear hF6
                  go_wp2_with fail
                  refine (unhide CA).mono ?_
                  rintro xx Wy ⟨rfl, rfl⟩
                  clear CA cc0 ci6
                  generalize W6.setCell ⟨q, 0, none⟩ (.int .i64 (an1 + 1)) = W7 at hF7 ⊢
                  have kk1 := hF7.head.cell 1
                  have gg1 := hF7.head.frozen 1
                  have HF7 := hide hF7
                  clear hF7
                  go_upto_region 32 with fail
                  refine wgen (fun W => Fr w3 q (an1 + 1) [(eb, 30, #[.int .i64 (-1), .int .i64 an1, .int .i64 (-1), .int .i64 q4, .int .i64 q5]), (db, 30, #[.int .i64 (-1), .int .i64 an1, .int .i64 (-1), .int .i64 q4, .int .i64 q5]), (zb, 30, #[.int .i64 v1, .int .i64 v2, .int .i64 v3, .int .i64 v4, .int .i64 v5, .int .i64 (-1), .int .i64 (an1), .int .i64 (-1), .int .i64 q4, .int .i64 q5]), (ob, 32, #[.string text, .int .i64 st, .int .i64 en, .string fl, .int .i32 vbx, .int .i64 vs1, .int .i64 ve, .int .i64 xi, .int .i64 arg, .int .i64 v1, .int .i64 v2, .int .i64 v3, .int .i64 v4, .int .i64 v5, .int .i64 (-1), .int .i64 (an1), .int .i64 (-1), .int .i64 q4, .int .i64 q5]), (tb, 51, #[.slice p1 n1 c1, .slice p2 n2 c2, .slice (some bb) 2 c3, .int .i64 ix, .int .i32 vbx, .string tx])] W) ((unhide HF7).set_ 1 _) ?_
                  intro Wz hFz
                  clear HF7 kk1 gg1
                  have cc1 := unhide HCC Wz hFz.bw
                  go_upto_region 34 with fail
                  clear cc1
                  have HRd : Hid (Wz.rangeAt db 0 [.int .i64 (-1), .int .i64 an1, .int .i64 (-1), .int .i64 q4, .int .i64 q5]) := hFz.tail.head.part 0 _ rfl
                  have HRe : Hid (Wz.rangeAt eb 0 [.int .i64 (-1), .int .i64 an1, .int .i64 (-1), .int .i64 q4, .int .i64 q5]) := hFz.head.part 0 _ rfl
                  have HFz := hide hFz
                  clear hFz
                  go_wp2_with (first | (refine wpList_load_mid rfl 30 (.tmp 18) rfl db 0 rfl [.int .i64 (-1), .int .i64 an1, .int .i64 (-1), .int .i64 q4, .int .i64 q5] _ (unhide HRd) Tryd.underlying30 rfl (by kernel_rfl) ?_) | (refine wpList_load_mid rfl 30 (.tmp 20) rfl eb 0 rfl [.int .i64 (-1), .int .i64 an1, .int .i64 (-1), .int .i64 q4, .int .i64 q5] _ (unhide HRe) Tryd.underlying30 rfl (by kernel_rfl) ?_))
                  go_roundg (gk - 1)
                  case measure => omega
                  case rel => exact ⟨2, by omega, by omega, by go_num, by
                    show Fr w3 q (t.a2 (i + 1) an) _ _
                    rw [hn2]
                    exact (unhide HFz).tail.tail⟩
                | «at» m =>
                  obtain ⟨x0, hz⟩ : ∃ x0, ps = [x0, (m : Int)] := hsy
                  have hz0 : n3 = 2 := by have := hII.len; rw [hz] at this; simpa using this.symm
                  obtain ⟨l1, l2, l3⟩ := hlk
                  replace l1 : q1 = -1 := l1
                  replace l2 : q2 = i + (m : Int) := l2.trans (by show (m : Int) + (i + 1 - 1) = i + (m : Int); omega)
                  replace l3 : q3 = (m : Int) := l3
                  replace hn2 : t.a2 (i + 1) an = i + (m : Int) + 1 := hn2.trans (by show (m : Int) + (i + 1 - 1) + 1 = i + (m : Int) + 1; omega)
                  obtain ⟨bb, hbb⟩ : ∃ bb, p3 = some bb := by
                    cases hpp : p3 with
                    | none => have := hII.none hpp; omega
                    | some bb => exact ⟨bb, rfl⟩
                  have HCC : Hid (∀ W, Below q w3 W → W.cell? ⟨bb.block, bb.off + 1, none⟩ = some (.int .i64 m)) := fun W hb => (hII.below (unhide HBW W hb)).cell bb 1 m hbb (by rw [hz]; rfl)
                  have hm0 : 0 < m := hwk.1
                  have hm1 : m < 1000 := hwk.2
                  clear hz hII hwk
                  subst hz0
                  subst hbb
                  subst l1
                  subst l2
                  subst l3
                  have cc0 := unhide HCC W6 hF6.bw
                  have CA := hide (arg_yes m i an1 p q W6 ci6 (hF6.nb.cell 0) (hF6.nb.frozen 0) (by omega) (by omega) i0 (by omega))
                  have hF7 := (hF6.next (i + (m : Int))).next (i + (m : Int) + 1)
                  clear hF6
                  go_wp2_with fail
                  refine (unhide CA).mono ?_
                  rintro xx Wy ⟨rfl, rfl⟩
                  clear CA cc0 ci6
                  generalize (W6.setCell ⟨q, 0, none⟩ (.int .i64 (i + (m : Int)))).setCell ⟨q, 0, none⟩ (.int .i64 (i + (m : Int) + 1)) = W7 at hF7 ⊢
                  have kk1 := hF7.head.cell 1
                  have gg1 := hF7.head.frozen 1
                  have HF7 := hide hF7
                  clear hF7
                  go_upto_region 32 with fail
                  refine wgen (fun W => Fr w3 q (i + (m : Int) + 1) [(eb, 30, #[.int .i64 (-1), .int .i64 (i + (m : Int)), .int .i64 (-1), .int .i64 q4, .int .i64 q5]), (db, 30, #[.int .i64 (-1), .int .i64 (i + (m : Int)), .int .i64 (m : Int), .int .i64 q4, .int .i64 q5]), (zb, 30, #[.int .i64 v1, .int .i64 v2, .int .i64 v3, .int .i64 v4, .int .i64 v5, .int .i64 (-1), .int .i64 (i + (m : Int)), .int .i64 ((m : Int)), .int .i64 q4, .int .i64 q5]), (ob, 32, #[.string text, .int .i64 st, .int .i64 en, .string fl, .int .i32 vbx, .int .i64 vs1, .int .i64 ve, .int .i64 xi, .int .i64 arg, .int .i64 v1, .int .i64 v2, .int .i64 v3, .int .i64 v4, .int .i64 v5, .int .i64 (-1), .int .i64 (i + (m : Int)), .int .i64 ((m : Int)), .int .i64 q4, .int .i64 q5]), (tb, 51, #[.slice p1 n1 c1, .slice p2 n2 c2, .slice (some bb) 2 c3, .int .i64 ix, .int .i32 vbx, .string tx])] W) ((unhide HF7).set_ 1 _) ?_
                  intro W8 hF8
                  clear HF7 kk1 gg1
                  have cc1 := unhide HCC W8 hF8.bw
                  have kk2 := hF8.head.cell 2
                  have gg2 := hF8.head.frozen 2
                  have HF8 := hide hF8
                  clear hF8
                  have dm : decide ((m : Int) > 0) = true := decide_eq_true (by omega)
                  go_upto_region 34 with fail
                  refine wgen (fun W => Fr w3 q (i + (m : Int) + 1) [(eb, 30, #[.int .i64 (-1), .int .i64 (i + (m : Int)), .int .i64 (m : Int), .int .i64 q4, .int .i64 q5]), (db, 30, #[.int .i64 (-1), .int .i64 (i + (m : Int)), .int .i64 (m : Int), .int .i64 q4, .int .i64 q5]), (zb, 30, #[.int .i64 v1, .int .i64 v2, .int .i64 v3, .int .i64 v4, .int .i64 v5, .int .i64 (-1), .int .i64 (i + (m : Int)), .int .i64 ((m : Int)), .int .i64 q4, .int .i64 q5]), (ob, 32, #[.string text, .int .i64 st, .int .i64 en, .string fl, .int .i32 vbx, .int .i64 vs1, .int .i64 ve, .int .i64 xi, .int .i64 arg, .int .i64 v1, .int .i64 v2, .int .i64 v3, .int .i64 v4, .int .i64 v5, .int .i64 (-1), .int .i64 (i + (m : Int)), .int .i64 ((m : Int)), .int .i64 q4, .int .i64 q5]), (tb, 51, #[.slice p1 n1 c1, .slice p2 n2 c2, .slice (some bb) 2 c3, .int .i64 ix, .int .i32 vbx, .string tx])] W) ((unhide HF8).set_ 2 _) ?_
                  intro Wz hFz
                  clear HF8 cc1 kk2 gg2 dm
                  have HRd : Hid (Wz.rangeAt db 0 [.int .i64 (-1), .int .i64 (i + (m : Int)), .int .i64 (m : Int), .int .i64 q4, .int .i64 q5]) := hFz.tail.head.part 0 _ rfl
                  have HRe : Hid (Wz.rangeAt eb 0 [.int .i64 (-1), .int .i64 (i + (m : Int)), .int .i64 (m : Int), .int .i64 q4, .int .i64 q5]) := hFz.head.part 0 _ rfl
                  have HFz := hide hFz
                  clear hFz
                  go_wp2_with (first | (refine wpList_load_mid rfl 30 (.tmp 18) rfl db 0 rfl [.int .i64 (-1), .int .i64 (i + (m : Int)), .int .i64 (m : Int), .int .i64 q4, .int .i64 q5] _ (unhide HRd) Tryd.underlying30 rfl (by kernel_rfl) ?_) | (refine wpList_load_mid rfl 30 (.tmp 20) rfl eb 0 rfl [.int .i64 (-1), .int .i64 (i + (m : Int)), .int .i64 (m : Int), .int .i64 q4, .int .i64 q5] _ (unhide HRe) Tryd.underlying30 rfl (by kernel_rfl) ?_))
                  go_roundg (gk - 1)
                  case measure => omega
                  case rel => exact ⟨2, by omega, by omega, by go_num, by
                    show Fr w3 q (t.a2 (i + 1) an) _ _
                    rw [hn2]
                    exact (unhide HFz).tail.tail⟩
              · replace hS : Hid (Fr w3 q (t.a2 (i + 1) an) [(zb, 30, #[.int .i64 v1, .int .i64 v2, .int .i64 v3, .int .i64 v4, .int .i64 v5, .int .i64 q1, .int .i64 q2, .int .i64 q3, .int .i64 q4, .int .i64 q5]), (ob, 32, #[.string text, .int .i64 st, .int .i64 en, .string fl, .int .i32 vbx, .int .i64 vs1, .int .i64 ve, .int .i64 xi, .int .i64 arg, .int .i64 v1, .int .i64 v2, .int .i64 v3, .int .i64 v4, .int .i64 v5, .int .i64 q1, .int .i64 q2, .int .i64 q3, .int .i64 q4, .int .i64 q5]), (tb, 51, #[.slice p1 n1 c1, .slice p2 n2 c2, .slice p3 n3 c3, .int .i64 ix, .int .i32 vbx, .string tx])] wr) := hS
                have ba0 := (unhide HAB).l2
                have ba1 : t.a2 (i + 1) an ≤ 4002 := (unhide HAB).u2
                generalize hgg : t.a2 (i + 1) an = an2 at HE6 hS ba0 ba1
                have hfl : ((fl.size : Int) != (n1 : Int)) = false := by
                  have h1 := (unhide HI3).1.len
                  have h2 : fl.size = n1 := by rw [unhide HE2, mk_size', List.length_map]; exact h1
                  rw [h2]
                  exact bne_self_eq_false _
                have hF4 := (unhide hS).tail
                have HF4 := hide hF4
                clear hF4 hS
                have o3 := (unhide HF4).head.cell 3
                have o4 := (unhide HF4).head.cell 4
                have o7 := (unhide HF4).head.cell 7
                have o8 := (unhide HF4).head.cell 8
                have t0 := (unhide HF4).tail.head.cell 0
                have t3 := (unhide HF4).tail.head.cell 3
                have t4 := (unhide HF4).tail.head.cell 4
                simp only [List.getElem?_toArray, List.getElem?_cons_zero, List.getElem?_cons_succ] at o3 o4 o7 o8 t0 t3 t4
                by_cases hix : ix = 0
                · have y5 := unhide HE5
                  have y6 := unhide HE6
                  rw [if_pos hix] at y5 y6
                  subst y5
                  subst y6
                  subst hix
                  have HNX2 : Hid (anAt (i + 1) ts (i + 1) (k2 + 1) = arg + 1) := by
                    show _ = _
                    rw [unhide HNX, unhide HY6]
                  clear HE5 HE6
                  go_upto_region 40 with fail
                  go_region_held3 (fun w' => w'.cell? ⟨ob, 3, none⟩ = some (.string fl) ∧ w'.cell? ⟨ob, 4, none⟩ = some (.int .i32 vbx) ∧ w'.cell? ⟨ob, 7, none⟩ = some (.int .i64 (-1)) ∧ w'.cell? ⟨ob, 8, none⟩ = some (.int .i64 arg) ∧ w'.cell? ⟨tb, 0, none⟩ = some (.slice p1 n1 c1) ∧ w'.cell? ⟨tb, 3, none⟩ = some (.int .i64 0) ∧ w'.cell? ⟨tb, 4, none⟩ = some (.int .i32 vbx)) (simp [*])
                    (first | (go_at_call 19; refine (Fr.arg_no ((unhide HF4).drewN _) (unhide HB).2.2.2.1 (unhide HB).2.2.2.2 (by decide) ba0 (by omega)).mono ?_; rintro xx W9 ⟨rfl, hF9⟩; have o3' := hF9.head.cell 3; have o4' := hF9.head.cell 4; have o7' := hF9.head.cell 7; have o8' := hF9.head.cell 8; have t0' := hF9.tail.head.cell 0; have t3' := hF9.tail.head.cell 3; have t4' := hF9.tail.head.cell 4; simp only [List.getElem?_toArray, List.getElem?_cons_zero, List.getElem?_cons_succ] at o3' o4' o7' o8' t0' t3' t4'))
                  clear o3 o4 o7 o8 t0 t3 t4 o4' o7' o8' t3' t4' HF4
                  have HF9 := hide hF9
                  clear hF9
                  go_wp2_with fail
                  go_loopg [175] (n1 + 1) (fun f s175 wr => ∃ j : Nat, j ≤ n1 ∧ n1 - j < f ∧ s175 = .int .i64 j ∧ Hid (Fr w3 q (arg + 1) [(ob, 32, #[.string text, .int .i64 st, .int .i64 en, .string fl, .int .i32 vbx, .int .i64 vs1, .int .i64 ve, .int .i64 (-1), .int .i64 arg, .int .i64 v1, .int .i64 v2, .int .i64 v3, .int .i64 v4, .int .i64 v5, .int .i64 q1, .int .i64 q2, .int .i64 q3, .int .i64 q4, .int .i64 q5]), (tb, 51, #[.slice p1 n1 c1, .slice p2 n2 c2, .slice p3 n3 c3, .int .i64 0, .int .i32 vbx, .string tx])] wr))
                  case atStart => exact ⟨0, by omega, by omega, rfl, unhide HF9⟩
                  case round =>
                    obtain ⟨jj, hjj, hGq, rfl, hQ⟩ := hrel
                    clear HF9 o3' t0'
                    by_cases hlj : jj < n1
                    · have hd : decide (jj < n1) = true := decide_eq_true hlj
                      have h0j : (0 : Int) ≤ (jj : Int) := by omega
                      have h1j : (jj : Int) < (n1 : Int) := by omega
                      obtain ⟨bb, rfl⟩ : ∃ bb, p1 = some bb := by
                        cases p1 with
                        | none =>
                          have := (unhide HI3).1.none rfl
                          omega
                        | some bb => exact ⟨bb, rfl⟩
                      obtain ⟨z, hz⟩ : ∃ z, fs[jj]? = some z := ⟨fs[jj]'(by have := (unhide HI3).1.len; omega), List.getElem?_eq_getElem _⟩
                      have hzr := (unhide HSAY).fr z (List.mem_of_getElem? hz)
                      obtain ⟨m, rfl⟩ : ∃ m : Nat, z = m := ⟨z.toNat, by omega⟩
                      have hbw : Below w.heap.size w wr := by
                        have e : w.heap.size = p := unhide HP
                        rw [e]
                        exact (unhide HB).1.trans ((unhide hQ).bw.mono (Nat.le_of_lt (unhide HB).2.2.2.2))
                      have hcc : wr.cell? (bb.add jj) = some (.int .i64 m) := ((unhide HI3).1.below hbw).cell bb jj m rfl hz
                      have hls : jj < fl.size := by rw [unhide HE2, mk_size', List.length_map]; have := (unhide HI3).1.len; omega
                      have h2j : (jj : Int) < (fl.size : Int) := by omega
                      have m0 : (0 : Int) ≤ (m : Int) := by omega
                      have m5 : (m : Int) < 5 := by omega
                      have hm5 : m < (⟨#[35, 48, 43, 45, 32]⟩ : ByteArray).size := by show m < 5; omega
                      have hne : ((fl[jj].toNat : Int) != ((⟨#[35, 48, 43, 45, 32]⟩ : ByteArray)[m].toNat : Int)) = false := flag_eq fs jj m hz fl (unhide HE2) hls hm5
                      have o3 : wr.cell? ⟨ob, 3, none⟩ = some (.string fl) := (unhide hQ).head.cell 3
                      clear hbw hz hzr
                      go_upto_region 45 with fail
                      go_quiet (fail)
                      go_wp2
                      go_roundg (gk - 1)
                      case measure => omega
                      case rel => exact ⟨jj + 1, by omega, by omega, by go_num, (unhide hQ).drewN _⟩
                    · have hd : decide (jj < n1) = false := decide_eq_false hlj
                      have HQ := hide hQ
                      clear hQ
                      go_wp2
                      go_roundg (gk2 - 1)
                      case measure => omega
                      case rel => exact ⟨k2 + 1, by omega, by omega, by go_num, by rw [unhide HNX2]; exact (unhide HQ).tail.tail⟩
                · have y5 := unhide HE5
                  have y6 := unhide HE6
                  rw [if_neg hix] at y5 y6
                  replace y5 := y5.symm
                  subst y5
                  subst y6
                  have hxp : decide (ix > 0) = true := decide_eq_true (by omega)
                  have HNX2 : Hid (anAt (i + 1) ts (i + 1) (k2 + 1) = (i + ix) + 1) := by
                    show _ = _
                    rw [unhide HNX, unhide HY6]
                  clear HE5 HE6
                  go_upto_region 40 with fail
                  go_region_held3 (fun w' => w'.cell? ⟨ob, 3, none⟩ = some (.string fl) ∧ w'.cell? ⟨ob, 4, none⟩ = some (.int .i32 vbx) ∧ w'.cell? ⟨ob, 7, none⟩ = some (.int .i64 ix) ∧ w'.cell? ⟨ob, 8, none⟩ = some (.int .i64 (i + ix)) ∧ w'.cell? ⟨tb, 0, none⟩ = some (.slice p1 n1 c1) ∧ w'.cell? ⟨tb, 3, none⟩ = some (.int .i64 ix) ∧ w'.cell? ⟨tb, 4, none⟩ = some (.int .i32 vbx)) (simp [*])
                    (first | (go_at_call 19; refine (Fr.arg_yes ((unhide HF4).drewN _) (unhide HB).2.2.2.1 (unhide HB).2.2.2.2 (by omega) (by omega) i0 (by omega)).mono ?_; rintro xx W9 ⟨rfl, hF9⟩; have o3' := hF9.head.cell 3; have o4' := hF9.head.cell 4; have o7' := hF9.head.cell 7; have o8' := hF9.head.cell 8; have t0' := hF9.tail.head.cell 0; have t3' := hF9.tail.head.cell 3; have t4' := hF9.tail.head.cell 4; simp only [List.getElem?_toArray, List.getElem?_cons_zero, List.getElem?_cons_succ] at o3' o4' o7' o8' t0' t3' t4'))
                  clear o3 o4 o7 o8 t0 t3 t4 o4' o7' o8' t3' t4' HF4
                  have HF9 := hide hF9
                  clear hF9
                  go_wp2_with fail
                  go_loopg [175] (n1 + 1) (fun f s175 wr => ∃ j : Nat, j ≤ n1 ∧ n1 - j < f ∧ s175 = .int .i64 j ∧ Hid (Fr w3 q ((i + ix) + 1) [(ob, 32, #[.string text, .int .i64 st, .int .i64 en, .string fl, .int .i32 vbx, .int .i64 vs1, .int .i64 ve, .int .i64 ix, .int .i64 (i + ix), .int .i64 v1, .int .i64 v2, .int .i64 v3, .int .i64 v4, .int .i64 v5, .int .i64 q1, .int .i64 q2, .int .i64 q3, .int .i64 q4, .int .i64 q5]), (tb, 51, #[.slice p1 n1 c1, .slice p2 n2 c2, .slice p3 n3 c3, .int .i64 ix, .int .i32 vbx, .string tx])] wr))
                  case atStart => exact ⟨0, by omega, by omega, rfl, unhide HF9⟩
                  case round =>
                    obtain ⟨jj, hjj, hGq, rfl, hQ⟩ := hrel
                    clear HF9 o3' t0'
                    by_cases hlj : jj < n1
                    · have hd : decide (jj < n1) = true := decide_eq_true hlj
                      have h0j : (0 : Int) ≤ (jj : Int) := by omega
                      have h1j : (jj : Int) < (n1 : Int) := by omega
                      obtain ⟨bb, rfl⟩ : ∃ bb, p1 = some bb := by
                        cases p1 with
                        | none =>
                          have := (unhide HI3).1.none rfl
                          omega
                        | some bb => exact ⟨bb, rfl⟩
                      obtain ⟨z, hz⟩ : ∃ z, fs[jj]? = some z := ⟨fs[jj]'(by have := (unhide HI3).1.len; omega), List.getElem?_eq_getElem _⟩
                      have hzr := (unhide HSAY).fr z (List.mem_of_getElem? hz)
                      obtain ⟨m, rfl⟩ : ∃ m : Nat, z = m := ⟨z.toNat, by omega⟩
                      have hbw : Below w.heap.size w wr := by
                        have e : w.heap.size = p := unhide HP
                        rw [e]
                        exact (unhide HB).1.trans ((unhide hQ).bw.mono (Nat.le_of_lt (unhide HB).2.2.2.2))
                      have hcc : wr.cell? (bb.add jj) = some (.int .i64 m) := ((unhide HI3).1.below hbw).cell bb jj m rfl hz
                      have hls : jj < fl.size := by rw [unhide HE2, mk_size', List.length_map]; have := (unhide HI3).1.len; omega
                      have h2j : (jj : Int) < (fl.size : Int) := by omega
                      have m0 : (0 : Int) ≤ (m : Int) := by omega
                      have m5 : (m : Int) < 5 := by omega
                      have hm5 : m < (⟨#[35, 48, 43, 45, 32]⟩ : ByteArray).size := by show m < 5; omega
                      have hne : ((fl[jj].toNat : Int) != ((⟨#[35, 48, 43, 45, 32]⟩ : ByteArray)[m].toNat : Int)) = false := flag_eq fs jj m hz fl (unhide HE2) hls hm5
                      have o3 : wr.cell? ⟨ob, 3, none⟩ = some (.string fl) := (unhide hQ).head.cell 3
                      clear hbw hz hzr
                      go_upto_region 45 with fail
                      go_quiet (fail)
                      go_wp2
                      go_roundg (gk - 1)
                      case measure => omega
                      case rel => exact ⟨jj + 1, by omega, by omega, by go_num, (unhide hQ).drewN _⟩
                    · have hd : decide (jj < n1) = false := decide_eq_false hlj
                      have HQ := hide hQ
                      clear hQ
                      go_wp2
                      go_roundg (gk2 - 1)
                      case measure => omega
                      case rel => exact ⟨k2 + 1, by omega, by omega, by go_num, by rw [unhide HNX2]; exact (unhide HQ).tail.tail⟩
          · have hd : decide (k2 < k) = false := decide_eq_false hltk
            have hb : Below p w wr := (unhide HB).1.trans ((unhide hR).bw.mono (Nat.le_of_lt (unhide HB).2.2.2.2))
            have hGr : G wr := (unhide HG).below hb (by rw [← unhide HP]; exact (unhide HG).big)
            clear hR
            go_wp2_with fail
            refine (impl0_any _ hGr).mono ?_
            rintro x w5 ⟨rfl, hb5⟩
            go_wp2
            go_ret
            refine ⟨rfl, ?_⟩
            have e : w.heap.size = p := unhide HP
            have hs := hb.size
            rw [e]
            exact hb.trans (hb5.mono (by omega))
end Go.Proofs.YtjbmphfgckhaeaaDoor
