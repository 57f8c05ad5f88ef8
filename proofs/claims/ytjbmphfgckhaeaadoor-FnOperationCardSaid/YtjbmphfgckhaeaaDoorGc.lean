/-
  The reference's op as the function spOp. Conditions: the reader's block, texts of at most 4096 bytes, the library's tables. Printed by gen_sop.py.
  The reference's op, a part of its walk (Sop41): the flags. No condition. Printed by gen_sop.py.
  The reference's op, a part of its walk (Sop42): the first brackets. No condition. Printed by gen_sop.py.
  The reference's op, a part of its walk (Sop7). No condition. Printed by gen_sop.py.
  The reference's op, a part of its walk (Sop8). No condition. Printed by gen_sop.py.
-/
import Derived.Test.YtjbmphfgckhaeaaDoorGb
namespace Go.Proofs.YtjbmphfgckhaeaaDoor
open Go.RowKit

set_option maxRecDepth 100000 in
set_option maxHeartbeats 51200000 in
theorem sop_of (h4 : Sop41) (g : Nat) (t : ByteArray) (st : Nat) (nx first : Int) (w : World) (hb : Blk w g 60 (rCells t st nx first)) (hs : t.size ≤ 4096) (hst : st < t.size) (hn0 : 0 ≤ nx) (hn1 : nx ≤ 100000000) (hf0 : 0 ≤ first) (hf1 : first ≤ 1000000) (hG : G w) (hg4 : 4 ≤ g) :
    Calls Tryd.prog 20 #[.pointer (some ⟨g, 0, none⟩)] w (SpP g t first (spOp t.data.toList first st nx) w) := by
  have HB := hide hb
  clear hb
  go_enter Tryd.func20, Tryd.ntmps20
  go_wp2
  go_upto_region 1 with fail
  refine wgen (fun W => OI w g w.heap.size t first st nx ZC W) ?_ ?_
  · exact ⟨(unhide HB).alloc _, Blk.new _ _ _, only_alloc (World.grownBy.refl w _) _, Nat.le_refl _⟩
  generalize hgo : w.heap.size = o
  clear hgo
  intro W hW
  have HW := hide hW
  clear hW
  go_cut [] (fun wx => Hid (OI w g o t first st nx (oC ⟨#[]⟩ ⟨#[]⟩ st 0 0 0 0 0 Z3.no Z3.no) wx))
  case first =>
    have hT := unhide HW
    clear HW HB
    refine wp_region_held_drew (S := fun W => ∃ cs, OI w g o t first st nx cs W) (by kernel_rfl) ⟨_, hT.drew⟩ ?_
    intro hS
    replace hT := hT.drew
    generalize W.drew = W0 at hS hT ⊢
    refine wpAnyH_pre (fuel := 4) (by kernel_rfl) (fun _ _ d _ _ h => by cases d <;> exact h) [0, 1, 2, 3] _ _ _ (by kernel_rfl) hS ?_
    clear hS
    refine Pre.step (v := ?_) rfl ?_ ?_ ?_
    rotate_left
    · rfl
    · intro w9 hS9; obtain ⟨cs9, hS9⟩ := hS9; have c1 : w9.cell? ⟨g, 1, none⟩ = some (.int .i64 st) := hS9.rd.cell 1; clear hS9; go_simp; try with_reducible rfl
    simp only [Act.put, List.getElem_toArray, List.getElem_cons_zero, List.setIfInBounds_toArray, List.set_cons_zero, List.set_cons_succ]
    refine Pre.step (v := ?_) rfl ?_ ?_ ?_
    rotate_left
    · rfl
    · intro w9 hS9; obtain ⟨cs9, hS9⟩ := hS9; have c1 : w9.cell? ⟨g, 1, none⟩ = some (.int .i64 st) := hS9.rd.cell 1; clear hS9; go_simp; try with_reducible rfl
    simp only [Act.put, List.getElem_toArray, List.getElem_cons_zero, List.getElem_cons_succ, List.setIfInBounds_toArray, List.set_cons_zero, List.set_cons_succ]
    refine Pre.step (v := ?_) rfl ?_ ?_ ?_
    rotate_left
    · rfl
    · intro w9 hS9; obtain ⟨cs9, hS9⟩ := hS9; have c1 : w9.cell? ⟨g, 1, none⟩ = some (.int .i64 st) := hS9.rd.cell 1; clear hS9; go_simp; try with_reducible rfl
    simp only [Act.put, List.getElem_toArray, List.getElem_cons_zero, List.getElem_cons_succ, List.setIfInBounds_toArray, List.set_cons_zero, List.set_cons_succ]
    refine Pre.step (v := ?_) rfl ?_ ?_ ?_
    rotate_left
    · rfl
    · intro w9 hS9; obtain ⟨cs9, hS9⟩ := hS9; have c1 : w9.cell? ⟨g, 1, none⟩ = some (.int .i64 st) := hS9.rd.cell 1; clear hS9; go_simp; try with_reducible rfl
    simp only [Act.put, List.getElem_toArray, List.getElem_cons_zero, List.getElem_cons_succ, List.setIfInBounds_toArray, List.set_cons_zero, List.set_cons_succ]
    refine Pre.nil ?_
    refine wpAnyH_ready (rs := [4]) (by kernel_rfl) (by simp) (AllReadyH.cons rfl (fun K hK => ?_) AllReadyH.nil)
    go_simp
    go_at_call 27
    refine (none_any _).mono ?_
    rintro x W1 ⟨rfl, hb1⟩
    replace hT := hT.below hb1
    refine hK.out _ _ ⟨_, hT⟩ (fun _ => ?_)
    clear hK K hb1
    refine wpAnyH_ready (rs := [5]) (by kernel_rfl) (by simp) (AllReadyH.cons rfl (fun K hK => ?_) AllReadyH.nil)
    go_simp
    go_at_call 27
    refine (none_any _).mono ?_
    rintro x W2 ⟨rfl, hb2⟩
    replace hT := hT.below hb2
    refine hK.out _ _ ⟨_, hT⟩ (fun _ => ?_)
    clear hK K hb2
    refine wpAnyH_ready (rs := [6]) (by kernel_rfl) (by simp) (AllReadyH.cons rfl (fun K hK => ?_) AllReadyH.nil)
    go_simp
    refine hK.out _ _ ⟨_, hT⟩ (fun _ => ?_)
    clear hK K
    refine wpAnyH_ready (rs := [7]) (by kernel_rfl) (by simp) (AllReadyH.cons rfl (fun K hK => ?_) AllReadyH.nil)
    rw [if_pos (by rfl)]
    refine wp_store_mid 26 (.tmp 2) (.tmp 14) rfl o 0 #[.string ⟨#[]⟩, .int .i64 st, .int .i64 0, .string ⟨#[]⟩, .int .i32 0, .int .i64 0, .int .i64 0, .int .i64 0, .int .i64 (-1), .int .i64 (-1), .int .i64 (-1), .int .i64 (-1), .int .i64 (-1), .int .i64 (-1)] ?_ ?_ (there_blk hT.op rfl) (by kernel_rfl) ?_ ?_
    · rfl
    · rfl
    · simp [Value.oneCell']
    simp only [Act.put]
    replace hT := hT.allOp #[.string ⟨#[]⟩, .int .i64 st, .int .i64 0, .string ⟨#[]⟩, .int .i32 0, .int .i64 0, .int .i64 0, .int .i64 0, .int .i64 (-1), .int .i64 (-1), .int .i64 (-1), .int .i64 (-1), .int .i64 (-1), .int .i64 (-1)] rfl
    refine hK.out _ _ ⟨_, hT⟩ (fun _ => ?_)
    clear hK K
    refine wpAnyH_done (by kernel_rfl) ?_ _
    go_wp2_with fail
    go_meet
    exact hT
  case rest =>
    have HL := hide (size_data t)
    go_step
    exact h4 _ _ _ _ _ _ _ _ _ _ _ _ _ _ _ _ _ _ _ _ _ _ _ _ _ _ _ _ _ _ _ _ _ _ _ _ _ _ _ _ _ _ _ _ _ _ _ _ _ _ _ _ _ _ _ _ _ _ _ _ _ _ _ _ _ _ _ _ _ _ _ _ _ _ _ _ _ _ _ _ _ _ _ _ _ _ _ _ _ _ _ _ _ _ _ _ _ _ _ _ _ _ _ _ _ _ _ _ _ _ _ _ _ _ _ _ _ _ _ _ _ _ _ _ _ _ _ _ _ _ _ _ _ _ _ _ _ _ _ _ _ _ _ _ _ _ _ _ _ _ _ _ _ _ _ _ _ _ _ _ _ _ _ _ _ _ _ _ _ _ _ _ _ _ _ _ _ _ _ _ _ _ _ _ _ _ _ _ _ _ _ _ _ _ _ _ _ _ _ _ _ _ _ _ _ _ _ _ _ _ _ _ _ _ _ _ _ _ _ _ _ _ _ _ _ _ _ _ _ _ _ _ _ _ _ _ _ _ _ _ _ _ _ _ _ _ _ _ _ _ _ _ _ _ _ _ _ _ _ _ _ _ _ _ _ _ _ _ _ _ _ _ _ _ _ _ _ _ _ _ _ _ _ _ _ _ _ _ _ _ _ _ _ _ _ _ _ _ _ _ _ _ _ _ _ _ _ _ _ _ _ _ _ _ _ _ _ _ _ _ _ _ _ _ _ _ _ _ _ _ _ _ _ _ _ _ _ _ _ _ _ _ _ _ _ _ _ _ _ _ _ g o t st nx first w _ hs hst hn0 hn1 hf0 hf1 hG hg4 HL hcut
end Go.Proofs.YtjbmphfgckhaeaaDoor
namespace Go.Proofs.YtjbmphfgckhaeaaDoor
open Go.RowKit

set_option maxRecDepth 100000 in
set_option maxHeartbeats 51200000 in
theorem sop41 (h42 : Sop42) : Sop41 := by
  intro u1 u3 u4 u5 u6 u7 u8 u9 u10 u11 u12 u13 u14 u15 u16 u17 u18 u19 u20 u21 u22 u23 u24 u25 u26 u27 u28 u29 u30 u31 u32 u33 u34 u35 u36 u37 u38 u39 u40 u41 u42 u43 u44 u45 u46 u47 u48 u49 u50 u51 u52 u53 u54 u55 u56 u57 u58 u59 u60 u61 u62 u63 u64 u65 u66 u67 u68 u69 u70 u71 u72 u73 u74 u75 u76 u77 u78 u79 u80 u81 u82 u83 u84 u85 u86 u87 u88 u89 u90 u91 u92 u93 u94 u95 u96 u97 u98 u99 u100 u101 u102 u103 u104 u105 u106 u107 u108 u109 u110 u111 u112 u113 u114 u115 u116 u117 u118 u119 u120 u121 u122 u123 u124 u125 u126 u127 u128 u129 u130 u131 u132 u133 u134 u135 u136 u137 u138 u139 u140 u141 u142 u143 u144 u145 u146 u147 u148 u149 u150 u151 u152 u153 u154 u155 u156 u157 u158 u159 u160 u161 u162 u163 u164 u165 u166 u167 u168 u169 u170 u171 u172 u173 u174 u175 u176 u177 u178 u179 u180 u181 u182 u183 u184 u185 u186 u187 u188 u189 u190 u191 u192 u193 u194 u195 u196 u197 u198 u199 u200 u201 u202 u203 u204 u205 u206 u207 u208 u209 u210 u211 u212 u213 u214 u215 u216 u217 u218 u219 u220 u221 u222 u223 u224 u225 u226 u227 u228 u229 u230 u231 u232 u233 u234 u235 u236 u237 u238 u239 u240 u241 u242 u243 u244 u245 u246 u247 u248 u249 u250 u251 u252 u253 u254 u255 u256 u257 u258 u259 u260 u261 u262 u263 u264 u265 u266 u267 u268 u269 u270 u271 u272 u273 u274 u275 u276 u277 u278 u279 u280 u281 u282 u283 u284 u285 u286 u287 u288 u289 u290 u291 u292 u293 u294 u295 u296 u297 u298 u299 u300 u301 u302 u303 u304 u305 u306 u307 u308 u309 u310 u311 u312 u313 u314 u315 u316 u317 u318 u319 u320 u321 u322 u323 u324 u325 u326 u327 u328 u329 u330 u331 u332 u333 u334 u335 u336 u337 u338 u339 u340 u341 u342 u343 u344 u345 u346 u347 u348 u349 u350 u351 u352 g o t st nx first w wc hs hst hn0 hn1 hf0 hf1 hG hg4 HL hcut
  conv => arg 2; whnf
  dsimp only
  have hI := unhide hcut
  have c1 : wc.cell? ⟨g, 1, none⟩ = some (.int .i64 st) := hI.rd.cell 1
  have f1 := hI.rd.frozen 1
  clear hI
  go_upto_block 0 with fail
  refine wgen (fun W => OI w g o t first (st + 1) nx (oC ⟨#[]⟩ ⟨#[]⟩ st 0 0 0 0 0 Z3.no Z3.no) W) ?_ ?_
  · exact (unhide hcut).setAt _ _ (by omega)
  clear c1 f1 hcut
  intro W1 hW1
  have HW1 := hide hW1
  clear hW1
  go_cut [] (fun wx => ∃ (a : Nat) (fl : ByteArray), a ≤ t.size ∧ st + 1 ≤ a ∧ Hid (a = rE isF t.data.toList (st + 1) ∧ fl = flV t.data.toList st) ∧ Hid (OI w g o t first a nx (oC ⟨#[]⟩ fl st 0 0 0 0 0 Z3.no Z3.no) wx))
  case rest =>
    obtain ⟨a, fl, k1, k2, k3, k4⟩ := hcut
    go_step
    exact h42 _ _ _ _ _ _ _ _ _ _ _ _ _ _ _ _ _ _ _ _ _ _ _ _ _ _ _ _ _ _ _ _ _ _ _ _ _ _ _ _ _ _ _ _ _ _ _ _ _ _ _ _ _ _ _ _ _ _ _ _ _ _ _ _ _ _ _ _ _ _ _ _ _ _ _ _ _ _ _ _ _ _ _ _ _ _ _ _ _ _ _ _ _ _ _ _ _ _ _ _ _ _ _ _ _ _ _ _ _ _ _ _ _ _ _ _ _ _ _ _ _ _ _ _ _ _ _ _ _ _ _ _ _ _ _ _ _ _ _ _ _ _ _ _ _ _ _ _ _ _ _ _ _ _ _ _ _ _ _ _ _ _ _ _ _ _ _ _ _ _ _ _ _ _ _ _ _ _ _ _ _ _ _ _ _ _ _ _ _ _ _ _ _ _ _ _ _ _ _ _ _ _ _ _ _ _ _ _ _ _ _ _ _ _ _ _ _ _ _ _ _ _ _ _ _ _ _ _ _ _ _ _ _ _ _ _ _ _ _ _ _ _ _ _ _ _ _ _ _ _ _ _ _ _ _ _ _ _ _ _ _ _ _ _ _ _ _ _ _ _ _ _ _ _ _ _ _ _ _ _ _ _ _ _ _ _ _ _ _ _ _ _ _ _ _ _ _ _ _ _ _ _ _ _ _ _ _ _ _ _ _ _ _ _ _ _ _ _ _ _ _ _ _ _ _ _ _ _ _ _ _ _ _ _ _ _ _ _ _ _ _ _ _ _ _ _ _ _ _ _ _ g o t fl st a nx first w _ hs hst hn0 hn1 hf0 hf1 hG hg4 HL k1 k2 k3 k4
  case first =>
    go_wp2_with fail
    go_loopg [] (t.size + 1) (fun f wr => ∃ (a : Nat) (fl : ByteArray), t.size - a < f ∧ Hid (FlR t.data.toList st a fl ∧ OI w g o t first a nx (oC ⟨#[]⟩ fl st 0 0 0 0 0 Z3.no Z3.no) wr))
    case atStart => exact ⟨st + 1, ⟨#[]⟩, by omega, FlR.start (by have := unhide HL; omega), unhide HW1⟩
    case round =>
      obtain ⟨a, fl, hG2, hR⟩ := hrel
      clear HW1
      have hat : a ≤ t.size := by rw [unhide HL]; exact (unhide hR).1.hi
      have hlo : st + 1 ≤ a := (unhide hR).1.lo
      go_upto_region 3 with fail
      go_cut [39] (fun s39 wx => s39 = .bool (isFB t.data.toList a) ∧ ∃ n, wx = wr.drewN n)
      case first =>
        have HOR := hide (isFB_or t.data.toList a)
        have hB := (unhide hR).2.rd
        have HBB := hide hB
        clear hB hR
        cases h0 : isB t.data.toList a 35 with
        | true =>
          have H0 := hide h0
          clear h0
          go_wp2_with fail
          refine (is_any g t a nx first 35 35 rfl _ (by repeat (first | exact unhide HBB | apply Blk.drewN))).mono ?_
          rintro e w1 ⟨rfl, n1, rfl⟩
          rw [unhide H0]
          go_wp2_with fail
          go_meet
          exact ⟨congrArg Value.bool (by rw [unhide HOR, unhide H0]; rfl), _, by first | rfl | (simp only [World.drewN_drewN]; rfl)⟩
        | false =>
          have H0 := hide h0
          clear h0
          go_wp2_with fail
          refine (is_any g t a nx first 35 35 rfl _ (by repeat (first | exact unhide HBB | apply Blk.drewN))).mono ?_
          rintro e w1 ⟨rfl, n1, rfl⟩
          rw [unhide H0]
          cases h1 : isB t.data.toList a 48 with
          | true =>
            have H1 := hide h1
            clear h1
            go_wp2_with fail
            refine (is_any g t a nx first 48 48 rfl _ (by repeat (first | exact unhide HBB | apply Blk.drewN))).mono ?_
            rintro e w2 ⟨rfl, n2, rfl⟩
            rw [unhide H1]
            go_wp2_with fail
            go_meet
            exact ⟨congrArg Value.bool (by rw [unhide HOR, unhide H0, unhide H1]; rfl), _, by first | rfl | (simp only [World.drewN_drewN]; rfl)⟩
          | false =>
            have H1 := hide h1
            clear h1
            go_wp2_with fail
            refine (is_any g t a nx first 48 48 rfl _ (by repeat (first | exact unhide HBB | apply Blk.drewN))).mono ?_
            rintro e w2 ⟨rfl, n2, rfl⟩
            rw [unhide H1]
            cases h2 : isB t.data.toList a 43 with
            | true =>
              have H2 := hide h2
              clear h2
              go_wp2_with fail
              refine (is_any g t a nx first 43 43 rfl _ (by repeat (first | exact unhide HBB | apply Blk.drewN))).mono ?_
              rintro e w3 ⟨rfl, n3, rfl⟩
              rw [unhide H2]
              go_wp2_with fail
              go_meet
              exact ⟨congrArg Value.bool (by rw [unhide HOR, unhide H0, unhide H1, unhide H2]; rfl), _, by first | rfl | (simp only [World.drewN_drewN]; rfl)⟩
            | false =>
              have H2 := hide h2
              clear h2
              go_wp2_with fail
              refine (is_any g t a nx first 43 43 rfl _ (by repeat (first | exact unhide HBB | apply Blk.drewN))).mono ?_
              rintro e w3 ⟨rfl, n3, rfl⟩
              rw [unhide H2]
              cases h3 : isB t.data.toList a 45 with
              | true =>
                have H3 := hide h3
                clear h3
                go_wp2_with fail
                refine (is_any g t a nx first 45 45 rfl _ (by repeat (first | exact unhide HBB | apply Blk.drewN))).mono ?_
                rintro e w4 ⟨rfl, n4, rfl⟩
                rw [unhide H3]
                go_wp2_with fail
                go_meet
                exact ⟨congrArg Value.bool (by rw [unhide HOR, unhide H0, unhide H1, unhide H2, unhide H3]; rfl), _, by first | rfl | (simp only [World.drewN_drewN]; rfl)⟩
              | false =>
                have H3 := hide h3
                clear h3
                go_wp2_with fail
                refine (is_any g t a nx first 45 45 rfl _ (by repeat (first | exact unhide HBB | apply Blk.drewN))).mono ?_
                rintro e w4 ⟨rfl, n4, rfl⟩
                rw [unhide H3]
                cases h4 : isB t.data.toList a 32 with
                | true =>
                  have H4 := hide h4
                  clear h4
                  go_wp2_with fail
                  refine (is_any g t a nx first 32 32 rfl _ (by repeat (first | exact unhide HBB | apply Blk.drewN))).mono ?_
                  rintro e w5 ⟨rfl, n5, rfl⟩
                  rw [unhide H4]
                  go_wp2_with fail
                  go_meet
                  exact ⟨congrArg Value.bool (by rw [unhide HOR, unhide H0, unhide H1, unhide H2, unhide H3, unhide H4]; rfl), _, by first | rfl | (simp only [World.drewN_drewN]; rfl)⟩
                | false =>
                  have H4 := hide h4
                  clear h4
                  go_wp2_with fail
                  refine (is_any g t a nx first 32 32 rfl _ (by repeat (first | exact unhide HBB | apply Blk.drewN))).mono ?_
                  rintro e w5 ⟨rfl, n5, rfl⟩
                  rw [unhide H4]
                  go_wp2_with fail
                  go_meet
                  exact ⟨congrArg Value.bool (by rw [unhide HOR, unhide H0, unhide H1, unhide H2, unhide H3, unhide H4]; rfl), _, by first | rfl | (simp only [World.drewN_drewN]; rfl)⟩
      case rest =>
        obtain ⟨rfl, n1, rfl⟩ := hcut
        have HI : Hid (OI w g o t first a nx (oC ⟨#[]⟩ fl st 0 0 0 0 0 Z3.no Z3.no) (wr.drewN n1)) := (unhide hR).2.drewN n1
        have HF : Hid (FlR t.data.toList st a fl) := (unhide hR).1
        clear hR
        generalize wr.drewN n1 = W2 at HI ⊢
        cases hfb : isFB t.data.toList a with
        | true =>
          obtain ⟨hlt, hfl⟩ := isFB_true hfb
          have hlt' : a < t.size := by rw [unhide HL]; exact hlt
          have hta : Hid (∃ u : ByteArray, t.extract a (a + 1) = u ∧ u.data.toList = [t.data.toList[a]]) := by
            refine ⟨_, rfl, ?_⟩
            rw [← Lib.toList_data, piece_one t a hlt']
            exact congrArg (fun c => [c]) (Option.some.inj ((get_data t a hlt').symm.trans (List.getElem?_eq_getElem hlt)))
          obtain ⟨u, hu, hu2⟩ := unhide hta
          have HU := hide (And.intro hu (And.intro hfl hu2))
          have hfs : fl.size ≤ 4096 := by
            rw [(unhide HF).fl, mk_size']
            have := seg_len t.data.toList (st + 1) a
            omega
          have hi0 : (0 : Int) ≤ (a : Int) := by omega
          have hi1 : (a : Int) ≤ (a : Int) + 1 := by omega
          have hi2 : (a : Int) + 1 ≤ (t.size : Int) := by omega
          have hus : u.size = 1 := by rw [size_data, hu2]; rfl
          have hnif : ¬ (fl.size + u.size > 9223372036854775807) := by omega
          clear hfl hfb hta hu2 hus
          have c0 : World.cell? W2 ⟨g, 0, none⟩ = some (.string t) := (unhide HI).rd.cell 0
          have c1 : World.cell? W2 ⟨g, 1, none⟩ = some (.int .i64 a) := (unhide HI).rd.cell 1
          have d3 : World.cell? W2 ⟨o, 3, none⟩ = some (.string fl) := (unhide HI).op.cell 3
          have fo3 := (unhide HI).op.frozen 3
          have fg1 := (unhide HI).rd.frozen 1
          have n3 := World.new_ne W2 _ d3
          go_wp2_with fail
          try simp only [List.append]
          have hw0 : (0 : Int) ≤ (a : Int) + 1 := by omega
          have hw2 : ((a : Int) + 1).toNat = a + 1 := by omega
          have hw1 : IntKind.i64.wrap ((a : Int) + 1) = (a : Int) + 1 := IntWalk.i64_in _ (by omega)
          go_still_tail 18, (by kernel_rfl)
          change wpList _ _ _ _ _ W2.drew
          clear n3 hw0 hw1 hw2
          have hW3 := (unhide HI).drew
          clear c0 c1 d3 fo3 fg1 HI
          generalize W2.drew = W3 at hW3 ⊢
          have HI := hide hW3
          clear hW3
          have c0 : World.cell? W3 ⟨g, 0, none⟩ = some (.string t) := (unhide HI).rd.cell 0
          have c1 : World.cell? W3 ⟨g, 1, none⟩ = some (.int .i64 a) := (unhide HI).rd.cell 1
          have d3 : World.cell? W3 ⟨o, 3, none⟩ = some (.string fl) := (unhide HI).op.cell 3
          have fo3 := (unhide HI).op.frozen 3
          have fg1 := (unhide HI).rd.frozen 1
          have hne := (unhide HI).ne
          clear hu
          go_wp2_with fail
          go_roundg (gk - 1)
          case measure => omega
          case rel =>
            obtain ⟨hu, hfl, hu2⟩ := unhide HU
            refine ⟨a + 1, fl ++ u, by omega, (unhide HF).step hlt hfl hu2, ?_⟩
            exact (((unhide HI).setOp 3 _).congr (by simp [oC])).setAt _ _ (by omega)
        | false =>
          obtain ⟨ea, ef⟩ := (unhide HF).stop (isFB_false hfb)
          have HE := hide (And.intro ea ef)
          clear HF hfb ea ef hG2
          go_wp2_with fail
          go_meet
          exact ⟨a, fl, hat, hlo, HE, HI⟩
end Go.Proofs.YtjbmphfgckhaeaaDoor
namespace Go.Proofs.YtjbmphfgckhaeaaDoor
open Go.RowKit

set_option maxRecDepth 100000 in
set_option maxHeartbeats 51200000 in
theorem sop42 (h5 : Sop5) : Sop42 := by
  intro u1 u3 u4 u5 u6 u7 u8 u9 u10 u11 u12 u13 u14 u15 u16 u17 u18 u19 u20 u21 u22 u23 u24 u25 u26 u27 u28 u29 u30 u31 u32 u33 u34 u35 u36 u37 u38 u39 u40 u41 u42 u43 u44 u45 u46 u47 u48 u49 u50 u51 u52 u53 u54 u55 u56 u57 u58 u59 u60 u61 u62 u63 u64 u65 u66 u67 u68 u69 u70 u71 u72 u73 u74 u75 u76 u77 u78 u79 u80 u81 u82 u83 u84 u85 u86 u87 u88 u89 u90 u91 u92 u93 u94 u95 u96 u97 u98 u99 u100 u101 u102 u103 u104 u105 u106 u107 u108 u109 u110 u111 u112 u113 u114 u115 u116 u117 u118 u119 u120 u121 u122 u123 u124 u125 u126 u127 u128 u129 u130 u131 u132 u133 u134 u135 u136 u137 u138 u139 u140 u141 u142 u143 u144 u145 u146 u147 u148 u149 u150 u151 u152 u153 u154 u155 u156 u157 u158 u159 u160 u161 u162 u163 u164 u165 u166 u167 u168 u169 u170 u171 u172 u173 u174 u175 u176 u177 u178 u179 u180 u181 u182 u183 u184 u185 u186 u187 u188 u189 u190 u191 u192 u193 u194 u195 u196 u197 u198 u199 u200 u201 u202 u203 u204 u205 u206 u207 u208 u209 u210 u211 u212 u213 u214 u215 u216 u217 u218 u219 u220 u221 u222 u223 u224 u225 u226 u227 u228 u229 u230 u231 u232 u233 u234 u235 u236 u237 u238 u239 u240 u241 u242 u243 u244 u245 u246 u247 u248 u249 u250 u251 u252 u253 u254 u255 u256 u257 u258 u259 u260 u261 u262 u263 u264 u265 u266 u267 u268 u269 u270 u271 u272 u273 u274 u275 u276 u277 u278 u279 u280 u281 u282 u283 u284 u285 u286 u287 u288 u289 u290 u291 u292 u293 u294 u295 u296 u297 u298 u299 u300 u301 u302 u303 u304 u305 u306 u307 u308 u309 u310 u311 u312 u313 u314 u315 u316 u317 u318 u319 u320 u321 u322 u323 u324 u325 u326 u327 u328 u329 u330 u331 u332 u333 u334 u335 u336 u337 u338 u339 u340 u341 u342 u343 u344 u345 u346 u347 u348 u349 u350 u351 u352 g o t fl st a nx first w W2 hs hst hn0 hn1 hf0 hf1 hG hg4 HL hat hlo HE HI
  conv => arg 2; whnf
  have c0 : World.cell? W2 ⟨g, 0, none⟩ = some (.string t) := (unhide HI).rd.cell 0
  have c1 : World.cell? W2 ⟨g, 1, none⟩ = some (.int .i64 a) := (unhide HI).rd.cell 1
  go_wp2_with fail
  refine (br_any g t a nx first _ (unhide HI).rd hs hat).mono ?_
  cases hbr : spBr t.data.toList a with
  | bad => as_aux_lemma =>
    rintro e W3 ⟨rfl, b3, hB3, hg3⟩
    have HSP : Hid (spOp t.data.toList first st nx = .bad) := by
      show spOp t.data.toList first st nx = .bad
      unfold spOp
      rw [← (unhide HE).1, hbr]
      rfl
    have hI3 := (unhide HI).step hB3 hg3
    clear hbr c0 c1 hg3 hB3 HI
    have HI := hide hI3
    clear hI3
    go_upto_region 9 with fail
    refine wgen (fun W => OI w g o t first b3 nx (soC ⟨⟨#[]⟩, st, 0, fl, 0, 0, 0, 0, Z3.no, Z3.no⟩) W) ?_ ?_
    · exact unhide HI
    intro W5 hW5
    obtain ⟨Ls, hR5⟩ := ret_pack hW5
    have HR5 := hide hR5
    clear hW5 hR5
    go_wp2_with (first | (refine wpList_load_mid rfl 26 (.tmp 2) rfl o 0 rfl Ls _ (unhide HR5).rg Tryd.underlying26 rfl (unhide HR5).i1 ?_) | (refine wpList_store_mid rfl 26 (.tmp 2) _ rfl o 0 Ls.toArray rfl rfl (unhide HR5).th (unhide HR5).i2 (unhide HR5).oc ?_))
    refine bodyPost_ret (v := .tuple #[.agg (soC ⟨⟨#[]⟩, st, 0, fl, 0, 0, 0, 0, Z3.no, Z3.no⟩), .int .i64 1]) (results_blk2 Tryd.results20 _ _ _ o _ _ _ rfl rfl (unhide HR5).af.op Tryd.underlying26 rfl (unhide HR5).i3) rfl ?_
    rw [unhide HSP]
    exact ⟨⟨⟨#[]⟩, st, 0, fl, 0, 0, 0, 0, Z3.no, Z3.no⟩, _, _, rfl, (unhide HR5).af.rd, (unhide HR5).af.gr⟩
  | opn => as_aux_lemma =>
    rintro e W3 ⟨rfl, b3, hB3, hg3⟩
    have HSP : Hid (spOp t.data.toList first st nx = .opn) := by
      show spOp t.data.toList first st nx = .opn
      unfold spOp
      rw [← (unhide HE).1, hbr]
      rfl
    have hI3 := (unhide HI).step hB3 hg3
    clear hbr c0 c1 hg3 hB3 HI
    have HI := hide hI3
    clear hI3
    go_upto_region 9 with fail
    refine wgen (fun W => OI w g o t first b3 nx (soC ⟨⟨#[]⟩, st, 0, fl, 0, 0, 0, 0, Z3.no, Z3.no⟩) W) ?_ ?_
    · exact unhide HI
    intro W5 hW5
    obtain ⟨Ls, hR5⟩ := ret_pack hW5
    have HR5 := hide hR5
    clear hW5 hR5
    go_wp2_with (first | (refine wpList_load_mid rfl 26 (.tmp 2) rfl o 0 rfl Ls _ (unhide HR5).rg Tryd.underlying26 rfl (unhide HR5).i1 ?_) | (refine wpList_store_mid rfl 26 (.tmp 2) _ rfl o 0 Ls.toArray rfl rfl (unhide HR5).th (unhide HR5).i2 (unhide HR5).oc ?_))
    refine bodyPost_ret (v := .tuple #[.agg (soC ⟨⟨#[]⟩, st, 0, fl, 0, 0, 0, 0, Z3.no, Z3.no⟩), .int .i64 2]) (results_blk2 Tryd.results20 _ _ _ o _ _ _ rfl rfl (unhide HR5).af.op Tryd.underlying26 rfl (unhide HR5).i3) rfl ?_
    rw [unhide HSP]
    exact ⟨⟨⟨#[]⟩, st, 0, fl, 0, 0, 0, 0, Z3.no, Z3.no⟩, _, _, rfl, (unhide HR5).af.rd, (unhide HR5).af.gr⟩
  | good x1 => as_aux_lemma =>
    rintro e W3 ⟨rfl, hB3, hg3⟩
    have hI3 := (unhide HI).step hB3 hg3
    obtain ⟨hx1, hx2⟩ := spBr_bd hat hbr
    obtain ⟨q0, hq0⟩ : ∃ q0, q0 = ssV t.data.toList st nx x1 := ⟨_, rfl⟩
    have HSP : Hid (spOp t.data.toList first st nx = (spW t.data.toList first q0).bind fun s1 => (spP t.data.toList first s1).bind fun s2 => (spL t.data.toList s2).bind fun s3 => spV t.data.toList first st fl s3) := by
      show spOp t.data.toList first st nx = _
      unfold spOp
      rw [← (unhide HE).1, hbr, R3.bind_good, (unhide HE).2, hq0]
    have e1 : x1.1 = q0.n := by rw [hq0]; rfl
    have e2 : x1.2 = q0.a := by rw [hq0]; rfl
    have e3 : nx = q0.nx := by rw [hq0]; rfl
    have e4 : a = q0.fr := by rw [hq0]; exact (unhide HE).1
    have e5 : Z3.no = q0.wd := by rw [hq0]; rfl
    have e6 : Z3.no = q0.pr := by rw [hq0]; rfl
    have hI3' : OI w g o t first q0.a q0.nx (oC ⟨#[]⟩ fl st 0 0 0 0 0 q0.wd q0.pr) W3 := by
      rw [← e2, ← e3, ← e5, ← e6]
      exact hI3
    have hQ0 : QB t q0 100000000 := ⟨by omega, by omega, by omega, by omega⟩
    have hqa : a + 0 ≤ q0.a + t.size := by omega
    rw [e1]
    rw [e4]
    have HQ0 := hide hQ0
    have hlo5 : st + 1 ≤ q0.a := by have := spBr_lo hbr; omega
    have HWD := hide (And.intro e5.symm (And.intro e6.symm hlo5))
    have HI' := hide hI3'
    clear hbr c0 c1 hg3 hB3 HI hI3 hI3' hQ0 hq0 e1 e2 e3 e4 e5 e6 hx1 hx2 hqa HE
    have HI := HI'
    clear HI'
    go_upto_if 75 with fail
    go_cut [] (fun wx => wx = W3)
    case first => as_aux_lemma =>
      go_wp2_with fail
      go_meet
      rfl
    case rest => as_aux_lemma =>
      obtain rfl := hcut
      go_step
      have hst' : st ≤ 4096 := by omega
      exact h5 _ _ _ _ _ _ _ _ _ _ _ _ _ _ _ _ _ _ _ _ _ _ _ _ _ _ _ _ _ _ _ _ _ _ _ _ _ _ _ _ _ _ _ _ _ _ _ _ _ _ _ _ _ _ _ _ _ _ _ _ _ _ _ _ _ _ _ _ _ _ _ _ _ _ _ _ _ _ _ _ _ _ _ _ _ _ _ _ _ _ _ _ _ _ _ _ _ _ _ _ _ _ _ _ _ _ _ _ _ _ _ _ _ _ _ _ _ _ _ _ _ _ _ _ _ _ _ _ _ _ _ _ _ _ _ _ _ _ _ _ _ _ _ _ _ _ _ _ _ _ _ _ _ _ _ _ _ _ _ _ _ _ _ _ _ _ _ _ _ _ _ _ _ _ _ _ _ _ _ _ _ _ _ _ _ _ _ _ _ _ _ _ _ _ _ _ _ _ _ _ _ _ _ _ _ _ _ _ _ _ _ _ _ _ _ _ _ _ _ _ _ _ _ _ _ _ _ _ _ _ _ _ _ _ _ _ _ _ _ _ _ _ _ _ _ _ _ _ _ _ _ _ _ _ _ _ _ _ _ _ _ _ _ _ _ _ _ _ _ _ _ _ _ _ _ _ _ _ _ _ _ _ _ _ _ _ _ _ _ _ _ _ _ _ _ _ _ _ _ _ _ _ _ _ _ _ _ _ _ _ _ _ _ _ _ _ _ _ _ _ _ _ _ _ _ _ _ _ _ _ _ _ _ _ _ _ _ _ _ _ _ _ _ _ _ _ _ _ _ g o t fl st nx first w _ q0 hs hst' hf0 hf1 hG hg4 HL HSP HQ0 HWD HI
end Go.Proofs.YtjbmphfgckhaeaaDoor
namespace Go.Proofs.YtjbmphfgckhaeaaDoor
open Go.RowKit

set_option maxRecDepth 100000 in
set_option maxHeartbeats 51200000 in
theorem sop7 (h8 : Sop8) : Sop7 := by
  intro u1 u3 u6 u7 u8 u9 u10 u11 u12 u13 u14 u15 u16 u17 u18 u19 u20 u21 u22 u23 u24 u25 u26 u27 u28 u29 u30 u31 u32 u33 u34 u35 u36 u37 u38 u39 u40 u41 u42 u43 u44 u45 u46 u47 u48 u49 u50 u51 u52 u53 u54 u55 u56 u57 u58 u59 u60 u61 u62 u63 u64 u65 u66 u67 u68 u69 u70 u71 u72 u73 u74 u75 u76 u77 u78 u79 u80 u81 u82 u83 u84 u85 u86 u87 u88 u89 u90 u91 u92 u93 u94 u95 u96 u97 u98 u99 u100 u101 u102 u103 u104 u105 u106 u107 u108 u109 u110 u111 u112 u113 u114 u115 u116 u117 u118 u119 u120 u121 u122 u123 u124 u125 u126 u127 u128 u129 u130 u131 u132 u133 u134 u135 u136 u137 u138 u139 u140 u141 u142 u143 u144 u145 u146 u147 u148 u149 u150 u151 u152 u153 u154 u155 u156 u157 u158 u159 u160 u161 u162 u163 u164 u165 u166 u167 u168 u169 u170 u171 u172 u173 u174 u175 u176 u177 u178 u179 u180 u181 u182 u183 u184 u185 u186 u187 u188 u189 u190 u191 u192 u193 u194 u195 u196 u197 u198 u199 u200 u201 u202 u203 u204 u205 u206 u207 u208 u209 u210 u211 u212 u213 u214 u215 u216 u217 u218 u219 u220 u221 u222 u223 u224 u225 u226 u227 u228 u229 u230 u231 u232 u233 u234 u235 u236 u237 u238 u239 u240 u241 u242 u243 u244 u245 u246 u247 u248 u249 u250 u251 u252 u253 u254 u255 u256 u257 u258 u259 u260 u261 u262 u263 u264 u265 u266 u267 u268 u269 u270 u271 u272 u273 u274 u275 u276 u277 u278 u279 u280 u281 u282 u283 u284 u285 u286 u287 u288 u289 u290 u291 u292 u293 u294 u295 u296 u297 u298 u299 u300 u301 u302 u303 u304 u305 u306 u307 u308 u309 u310 u311 u312 u313 u314 u315 u316 u317 u318 u319 u320 u321 u322 u323 u324 u325 u326 u327 u328 u329 u330 u331 u332 u333 u334 u335 u336 u337 u338 u339 u340 u341 u342 u343 u344 u345 u346 u347 u348 u349 u350 u351 u352 g o t fl st nx first w wc q2 hs hst hf0 hf1 hG hg4 HL HSP2 HQ0 HEX HI
  conv => arg 2; whnf
  have sn := (unhide HQ0).n
  have sa := (unhide HQ0).a
  have s0x := (unhide HQ0).x0
  have s1x := (unhide HQ0).x1
  go_upto_region 37 with fail
  go_upto_if 215 with fail
  go_cut [4, 5] (fun s4 s5 wx => ∃ q : SS, s4 = .int .i64 q.fr ∧ s5 = .int .i64 q.n ∧ Hid (spL t.data.toList q2 = .good q ∧ QB t q 100000003 ∧ OI w g o t first q.a q.nx (oC ⟨#[]⟩ fl st 0 0 0 0 0 q.wd q.pr) wx))
  case first => as_aux_lemma =>
    by_cases hn : q2.n = 0
    · have hz : ((q2.n : Int) == 0) = true := by rw [beq_iff_eq]; omega
      have hz2 : (q2.n : Int) = 0 := by omega
      have HL0 : Hid (spL t.data.toList q2 = (spBr t.data.toList q2.a).bind fun x => .good { q2 with n := x.1, a := x.2, fr := q2.a }) := by
        show spL t.data.toList q2 = _
        unfold spL
        rw [if_pos hn]
      clear hn hz2
      have c1 : World.cell? wc ⟨g, 1, none⟩ = some (.int .i64 q2.a) := (unhide HI).rd.cell 1
      go_wp2_with fail
      refine (br_any g t q2.a q2.nx first _ (unhide HI).rd hs sa).mono ?_
      cases hbr : spBr t.data.toList q2.a with
      | bad => as_aux_lemma =>
        rintro e W7 ⟨rfl, b7, hB7, hg7⟩
        have HS : Hid (spOp t.data.toList first st nx = .bad) := by
          show spOp t.data.toList first st nx = _
          rw [unhide HSP2, unhide HL0, hbr]
          rfl
        have hI7 := (unhide HI).step hB7 hg7
        clear hbr c1 hg7 hB7 HI
        have HI7 := hide hI7
        clear hI7
        go_upto_region 41 with fail
        refine wgen (fun W => OI w g o t first b7 q2.nx (soC ⟨⟨#[]⟩, st, 0, fl, 0, 0, 0, 0, q2.wd, q2.pr⟩) W) ?_ ?_
        · exact unhide HI7
        intro W5 hW5
        obtain ⟨Ls, hR5⟩ := ret_pack hW5
        have HR5 := hide hR5
        clear hW5 hR5
        go_wp2_with (first | (refine wpList_load_mid rfl 26 (.tmp 2) rfl o 0 rfl Ls _ (unhide HR5).rg Tryd.underlying26 rfl (unhide HR5).i1 ?_) | (refine wpList_store_mid rfl 26 (.tmp 2) _ rfl o 0 Ls.toArray rfl rfl (unhide HR5).th (unhide HR5).i2 (unhide HR5).oc ?_))
        refine bodyPost_ret (v := .tuple #[.agg (soC ⟨⟨#[]⟩, st, 0, fl, 0, 0, 0, 0, q2.wd, q2.pr⟩), .int .i64 1]) (results_blk2 Tryd.results20 _ _ _ o _ _ _ rfl rfl (unhide HR5).af.op Tryd.underlying26 rfl (unhide HR5).i3) rfl ?_
        rw [unhide HS]
        exact ⟨⟨⟨#[]⟩, st, 0, fl, 0, 0, 0, 0, q2.wd, q2.pr⟩, _, _, rfl, (unhide HR5).af.rd, (unhide HR5).af.gr⟩
      | opn => as_aux_lemma =>
        rintro e W7 ⟨rfl, b7, hB7, hg7⟩
        have HS : Hid (spOp t.data.toList first st nx = .opn) := by
          show spOp t.data.toList first st nx = _
          rw [unhide HSP2, unhide HL0, hbr]
          rfl
        have hI7 := (unhide HI).step hB7 hg7
        clear hbr c1 hg7 hB7 HI
        have HI7 := hide hI7
        clear hI7
        go_upto_region 41 with fail
        refine wgen (fun W => OI w g o t first b7 q2.nx (soC ⟨⟨#[]⟩, st, 0, fl, 0, 0, 0, 0, q2.wd, q2.pr⟩) W) ?_ ?_
        · exact unhide HI7
        intro W5 hW5
        obtain ⟨Ls, hR5⟩ := ret_pack hW5
        have HR5 := hide hR5
        clear hW5 hR5
        go_wp2_with (first | (refine wpList_load_mid rfl 26 (.tmp 2) rfl o 0 rfl Ls _ (unhide HR5).rg Tryd.underlying26 rfl (unhide HR5).i1 ?_) | (refine wpList_store_mid rfl 26 (.tmp 2) _ rfl o 0 Ls.toArray rfl rfl (unhide HR5).th (unhide HR5).i2 (unhide HR5).oc ?_))
        refine bodyPost_ret (v := .tuple #[.agg (soC ⟨⟨#[]⟩, st, 0, fl, 0, 0, 0, 0, q2.wd, q2.pr⟩), .int .i64 2]) (results_blk2 Tryd.results20 _ _ _ o _ _ _ rfl rfl (unhide HR5).af.op Tryd.underlying26 rfl (unhide HR5).i3) rfl ?_
        rw [unhide HS]
        exact ⟨⟨⟨#[]⟩, st, 0, fl, 0, 0, 0, 0, q2.wd, q2.pr⟩, _, _, rfl, (unhide HR5).af.rd, (unhide HR5).af.gr⟩
      | good x2 => as_aux_lemma =>
        rintro e W7 ⟨rfl, hB7, hg7⟩
        have hI7 := (unhide HI).step hB7 hg7
        have hbd := spBr_bd sa hbr
        have HS : Hid (spL t.data.toList q2 = .good { q2 with n := x2.1, a := x2.2, fr := q2.a }) := by
          show spL t.data.toList q2 = _
          rw [unhide HL0, hbr]
          rfl
        clear hbr c1 hg7 hB7 HI HL0
        have HI7 := hide hI7
        have HBD := hide hbd
        clear hI7 hbd
        go_wp2_with fail
        go_meet
        exact ⟨{ q2 with n := x2.1, a := x2.2, fr := q2.a }, rfl, rfl, unhide HS, ⟨(unhide HBD).1, (unhide HBD).2, s0x, by show q2.nx ≤ _; omega⟩, unhide HI7⟩
    · have hz : ((q2.n : Int) == 0) = false := by rw [beq_eq_false_iff_ne]; omega
      have HS : Hid (spL t.data.toList q2 = .good q2) := by
        show spL t.data.toList q2 = _
        unfold spL
        rw [if_neg hn]
      clear hn
      go_wp2_with fail
      go_meet
      exact ⟨q2, rfl, rfl, unhide HS, ⟨sn, sa, s0x, by omega⟩, unhide HI⟩
  case rest => as_aux_lemma =>
    obtain ⟨q, rfl, rfl, hq3⟩ := hcut
    obtain ⟨hsl, hQ, hI⟩ := hq3
    have HSV : Hid (spOp t.data.toList first st nx = spV t.data.toList first st fl q) := by
      show spOp t.data.toList first st nx = _
      rw [unhide HSP2, hsl, R3.bind_good]
    have qn := hQ.n
    have qa := hQ.a
    have q0x := hQ.x0
    have q1x := hQ.x1
    have HI := hide hI
    have HQ := hide hQ
    go_step
    exact h8 _ _ _ _ _ _ _ _ _ _ _ _ _ _ _ _ _ _ _ _ _ _ _ _ _ _ _ _ _ _ _ _ _ _ _ _ _ _ _ _ _ _ _ _ _ _ _ _ _ _ _ _ _ _ _ _ _ _ _ _ _ _ _ _ _ _ _ _ _ _ _ _ _ _ _ _ _ _ _ _ _ _ _ _ _ _ _ _ _ _ _ _ _ _ _ _ _ _ _ _ _ _ _ _ _ _ _ _ _ _ _ _ _ _ _ _ _ _ _ _ _ _ _ _ _ _ _ _ _ _ _ _ _ _ _ _ _ _ _ _ _ _ _ _ _ _ _ _ _ _ _ _ _ _ _ _ _ _ _ _ _ _ _ _ _ _ _ _ _ _ _ _ _ _ _ _ _ _ _ _ _ _ _ _ _ _ _ _ _ _ _ _ _ _ _ _ _ _ _ _ _ _ _ _ _ _ _ _ _ _ _ _ _ _ _ _ _ _ _ _ _ _ _ _ _ _ _ _ _ _ _ _ _ _ _ _ _ _ _ _ _ _ _ _ _ _ _ _ _ _ _ _ _ _ _ _ _ _ _ _ _ _ _ _ _ _ _ _ _ _ _ _ _ _ _ _ _ _ _ _ _ _ _ _ _ _ _ _ _ _ _ _ _ _ _ _ _ _ _ _ _ _ _ _ _ _ _ _ _ _ _ _ _ _ _ _ _ _ _ _ _ _ _ _ _ _ _ _ _ _ _ _ _ _ _ _ _ _ _ _ _ _ _ _ _ _ _ _ _ g o t fl st nx first w _ q hs hst hf0 hf1 hG hg4 HL HSV HQ (hide (Nat.le_trans (unhide HEX) (spL_lo hsl))) HI
end Go.Proofs.YtjbmphfgckhaeaaDoor
namespace Go.Proofs.YtjbmphfgckhaeaaDoor
open Go.RowKit

set_option maxRecDepth 100000 in
set_option maxHeartbeats 51200000 in
theorem sop8 (h9 : Sop9) : Sop8 := by
  intro u1 u3 u6 u7 u8 u9 u10 u11 u12 u13 u14 u15 u16 u17 u18 u19 u20 u21 u22 u23 u24 u25 u26 u27 u28 u29 u30 u31 u32 u33 u34 u35 u36 u37 u38 u39 u40 u41 u42 u43 u44 u45 u46 u47 u48 u49 u50 u51 u52 u53 u54 u55 u56 u57 u58 u59 u60 u61 u62 u63 u64 u65 u66 u67 u68 u69 u70 u71 u72 u73 u74 u75 u76 u77 u78 u79 u80 u81 u82 u83 u84 u85 u86 u87 u88 u89 u90 u91 u92 u93 u94 u95 u96 u97 u98 u99 u100 u101 u102 u103 u104 u105 u106 u107 u108 u109 u110 u111 u112 u113 u114 u115 u116 u117 u118 u119 u120 u121 u122 u123 u124 u125 u126 u127 u128 u129 u130 u131 u132 u133 u134 u135 u136 u137 u138 u139 u140 u141 u142 u143 u144 u145 u146 u147 u148 u149 u150 u151 u152 u153 u154 u155 u156 u157 u158 u159 u160 u161 u162 u163 u164 u165 u166 u167 u168 u169 u170 u171 u172 u173 u174 u175 u176 u177 u178 u179 u180 u181 u182 u183 u184 u185 u186 u187 u188 u189 u190 u191 u192 u193 u194 u195 u196 u197 u198 u199 u200 u201 u202 u203 u204 u205 u206 u207 u208 u209 u210 u211 u212 u213 u214 u215 u216 u217 u218 u219 u220 u221 u222 u223 u224 u225 u226 u227 u228 u229 u230 u231 u232 u233 u234 u235 u236 u237 u238 u239 u240 u241 u242 u243 u244 u245 u246 u247 u248 u249 u250 u251 u252 u253 u254 u255 u256 u257 u258 u259 u260 u261 u262 u263 u264 u265 u266 u267 u268 u269 u270 u271 u272 u273 u274 u275 u276 u277 u278 u279 u280 u281 u282 u283 u284 u285 u286 u287 u288 u289 u290 u291 u292 u293 u294 u295 u296 u297 u298 u299 u300 u301 u302 u303 u304 u305 u306 u307 u308 u309 u310 u311 u312 u313 u314 u315 u316 u317 u318 u319 u320 u321 u322 u323 u324 u325 u326 u327 u328 u329 u330 u331 u332 u333 u334 u335 u336 u337 u338 u339 u340 u341 u342 u343 u344 u345 u346 u347 u348 u349 u350 u351 u352 g o t fl st nx first w wc q hs hst hf0 hf1 hG hg4 HL HSV HQ0 HEX HI
  conv => arg 2; whnf
  have qn := (unhide HQ0).n
  have qa := (unhide HQ0).a
  have q0x := (unhide HQ0).x0
  have q1x := (unhide HQ0).x1
  have c0 : World.cell? wc ⟨g, 0, none⟩ = some (.string t) := (unhide HI).rd.cell 0
  have c1 : World.cell? wc ⟨g, 1, none⟩ = some (.int .i64 q.a) := (unhide HI).rd.cell 1
  go_upto_region 42 with fail
  by_cases hend : q.a = t.size
  · have jE : ((q.a : Int) == (t.size : Int)) = true := by rw [beq_iff_eq]; omega
    have HS : Hid (spOp t.data.toList first st nx = .bad) := by
      show spOp t.data.toList first st nx = _
      rw [unhide HSV]
      unfold spV
      rw [if_pos (by rw [← unhide HL]; exact hend)]
    clear hend
    go_quiet (fail)
    clear jE c0 c1
    go_upto_region 43 with fail
    refine wgen (fun W => OI w g o t first q.a q.nx (soC ⟨⟨#[]⟩, st, 0, fl, 0, 0, 0, 0, q.wd, q.pr⟩) W) ?_ ?_
    · exact (unhide HI).drewN _
    intro W5 hW5
    obtain ⟨Ls, hR5⟩ := ret_pack hW5
    have HR5 := hide hR5
    clear hW5 hR5
    go_wp2_with (first | (refine wpList_load_mid rfl 26 (.tmp 2) rfl o 0 rfl Ls _ (unhide HR5).rg Tryd.underlying26 rfl (unhide HR5).i1 ?_) | (refine wpList_store_mid rfl 26 (.tmp 2) _ rfl o 0 Ls.toArray rfl rfl (unhide HR5).th (unhide HR5).i2 (unhide HR5).oc ?_))
    refine bodyPost_ret (v := .tuple #[.agg (soC ⟨⟨#[]⟩, st, 0, fl, 0, 0, 0, 0, q.wd, q.pr⟩), .int .i64 1]) (results_blk2 Tryd.results20 _ _ _ o _ _ _ rfl rfl (unhide HR5).af.op Tryd.underlying26 rfl (unhide HR5).i3) rfl ?_
    rw [unhide HS]
    exact ⟨⟨⟨#[]⟩, st, 0, fl, 0, 0, 0, 0, q.wd, q.pr⟩, _, _, rfl, (unhide HR5).af.rd, (unhide HR5).af.gr⟩
  · have jE : ((q.a : Int) == (t.size : Int)) = false := by rw [beq_eq_false_iff_ne]; omega
    have hlt : q.a < t.size := by omega
    have HEND : Hid (¬ q.a = t.data.toList.length) := by
      show ¬ q.a = t.data.toList.length
      rw [← unhide HL]
      exact hend
    clear hend
    obtain ⟨r, hr⟩ : ∃ r, (dec (t.data.toList.drop q.a)).1 = r := ⟨_, rfl⟩
    obtain ⟨wd, hwd⟩ : ∃ wd, (dec (t.data.toList.drop q.a)).2 = wd := ⟨_, rfl⟩
    obtain ⟨hdx, hdy⟩ := dec_ext t q.a hlt
    rw [hr, hwd] at hdx
    rw [hwd] at hdy
    have hw1 : 1 ≤ wd := by
      rw [← hwd]
      refine (dec_width _ ?_).1
      intro h0
      have := congrArg List.length h0
      rw [List.length_drop, ← unhide HL, List.length_nil] at this
      omega
    have HDX := hide hdx
    have HRW := hide (And.intro hr hwd)
    clear hr hwd hdx
    go_quiet (fail)
    have HI2 := (unhide HI).drewN nq
    clear jE c0 c1
    have HI := hide HI2
    clear HI2
    generalize wc.drewN nq = wc2 at HI ⊢
    have hj0 : (0 : Int) ≤ (q.a : Int) := by omega
    have hj1 : (q.a : Int) ≤ (t.size : Int) := by omega
    go_upto_region 44 with fail
    go_cut [6, 7] (fun s6 s7 wx => s6 = .int .i32 r ∧ s7 = .int .i64 wd ∧ Hid (OI w g o t first q.a q.nx (oC ⟨#[]⟩ fl st 0 0 0 0 0 q.wd q.pr) wx))
    case first => as_aux_lemma =>
      have c0 : World.cell? wc2 ⟨g, 0, none⟩ = some (.string t) := (unhide HI).rd.cell 0
      have c1 : World.cell? wc2 ⟨g, 1, none⟩ = some (.int .i64 q.a) := (unhide HI).rd.cell 1
      have hP5 := unhide HI
      have HG5 : Hid (G wc2) := hG.below (only_to_below (B := 4) (unhide HI).gr hg4 hG.big) (Nat.le_refl _)
      go_region_held3 (fun w' => w'.cell? ⟨g, 0, none⟩ = some (.string t) ∧ w'.cell? ⟨g, 1, none⟩ = some (.int .i64 q.a)) (simp [*])
        (first | (go_at_call 32; refine (dec_at t q.a r wd _ ((unhide HG5).drewN _) (unhide HDX)).mono ?_; rintro x w6 ⟨rfl, hb6⟩; have hP6 := (hP5.drewN _).below hb6; have c0' : w6.cell? ⟨g, 0, none⟩ = some (.string t) := hP6.rd.cell 0; have c1' : w6.cell? ⟨g, 1, none⟩ = some (.int .i64 q.a) := hP6.rd.cell 1))
      go_wp2_with fail
      go_meet
      exact ⟨rfl, rfl, hP6⟩
    case rest => as_aux_lemma =>
      obtain ⟨rfl, rfl, hI5⟩ := hcut
      clear HI
      have HI := hI5
      clear hI5
      obtain ⟨wd4, hwd4⟩ : ∃ x : World, x = wc := ⟨_, rfl⟩
      rw [← hwd4] at HI ⊢
      clear hwd4
      go_step
      exact h9 _ _ _ _ _ _ _ _ _ _ _ _ _ _ _ _ _ _ _ _ _ _ _ _ _ _ _ _ _ _ _ _ _ _ _ _ _ _ _ _ _ _ _ _ _ _ _ _ _ _ _ _ _ _ _ _ _ _ _ _ _ _ _ _ _ _ _ _ _ _ _ _ _ _ _ _ _ _ _ _ _ _ _ _ _ _ _ _ _ _ _ _ _ _ _ _ _ _ _ _ _ _ _ _ _ _ _ _ _ _ _ _ _ _ _ _ _ _ _ _ _ _ _ _ _ _ _ _ _ _ _ _ _ _ _ _ _ _ _ _ _ _ _ _ _ _ _ _ _ _ _ _ _ _ _ _ _ _ _ _ _ _ _ _ _ _ _ _ _ _ _ _ _ _ _ _ _ _ _ _ _ _ _ _ _ _ _ _ _ _ _ _ _ _ _ _ _ _ _ _ _ _ _ _ _ _ _ _ _ _ _ _ _ _ _ _ _ _ _ _ _ _ _ _ _ _ _ _ _ _ _ _ _ _ _ _ _ _ _ _ _ _ _ _ _ _ _ _ _ _ _ _ _ _ _ _ _ _ _ _ _ _ _ _ _ _ _ _ _ _ _ _ _ _ _ _ _ _ _ _ _ _ _ _ _ _ _ _ _ _ _ _ _ _ _ _ _ _ _ _ _ _ _ _ _ _ _ _ _ _ _ _ _ _ _ _ _ _ _ _ _ _ _ _ _ _ _ _ _ _ _ _ _ _ _ _ _ _ _ _ _ _ _ _ _ _ _ g o r wd t fl st nx first w _ q hs hst hf0 hf1 HL HSV HQ0 (And.intro hlt (And.intro hdy (And.intro hw1 (unhide HEX)))) HEND HRW HI
end Go.Proofs.YtjbmphfgckhaeaaDoor
