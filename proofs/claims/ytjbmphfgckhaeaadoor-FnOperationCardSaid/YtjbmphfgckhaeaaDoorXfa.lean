/-
  The reference's op, a part of its walk (Sop10). No condition. Printed by gen_sop.py.
-/
import Derived.Test.YtjbmphfgckhaeaaDoorGb
namespace Go.Proofs.YtjbmphfgckhaeaaDoor
open Go.RowKit

set_option maxRecDepth 100000 in
set_option maxHeartbeats 51200000 in
theorem sop10 : Sop10 := by
  intro u1 u3 u8 u9 u10 u11 u12 u13 u14 u15 u16 u17 u18 u19 u20 u21 u22 u23 u24 u25 u26 u27 u28 u29 u30 u31 u32 u33 u34 u35 u36 u37 u38 u39 u40 u41 u42 u43 u44 u45 u46 u47 u48 u49 u50 u51 u52 u53 u54 u55 u56 u57 u58 u59 u60 u61 u62 u63 u64 u65 u66 u67 u68 u69 u70 u71 u72 u73 u74 u75 u76 u77 u78 u79 u80 u81 u82 u83 u84 u85 u86 u87 u88 u89 u90 u91 u92 u93 u94 u95 u96 u97 u98 u99 u100 u101 u102 u103 u104 u105 u106 u107 u108 u109 u110 u111 u112 u113 u114 u115 u116 u117 u118 u119 u120 u121 u122 u123 u124 u125 u126 u127 u128 u129 u130 u131 u132 u133 u134 u135 u136 u137 u138 u139 u140 u141 u142 u143 u144 u145 u146 u147 u148 u149 u150 u151 u152 u153 u154 u155 u156 u157 u158 u159 u160 u161 u162 u163 u164 u165 u166 u167 u168 u169 u170 u171 u172 u173 u174 u175 u176 u177 u178 u179 u180 u181 u182 u183 u184 u185 u186 u187 u188 u189 u190 u191 u192 u193 u194 u195 u196 u197 u198 u199 u200 u201 u202 u203 u204 u205 u206 u207 u208 u209 u210 u211 u212 u213 u214 u215 u216 u217 u218 u219 u220 u221 u222 u223 u224 u225 u226 u227 u228 u229 u230 u231 u232 u233 u234 u235 u236 u237 u238 u239 u240 u241 u242 u243 u244 u245 u246 u247 u248 u249 u250 u251 u252 u253 u254 u255 u256 u257 u258 u259 u260 u261 u262 u263 u264 u265 u266 u267 u268 u269 u270 u271 u272 u273 u274 u275 u276 u277 u278 u279 u280 u281 u282 u283 u284 u285 u286 u287 u288 u289 u290 u291 u292 u293 u294 u295 u296 u297 u298 u299 u300 u301 u302 u303 u304 u305 u306 u307 u308 u309 u310 u311 u312 u313 u314 u315 u316 u317 u318 u319 u320 u321 u322 u323 u324 u325 u326 u327 u328 u329 u330 u331 u332 u333 u334 u335 u336 u337 u338 u339 u340 u341 u342 u343 u344 u345 u346 u347 u348 u349 u350 u351 u352 g o r wd t fl st nx first w W12 q hs hst hf0 hf1 HL HSV HQ0 hfacts HEND HRW HNO HI
  conv => arg 2; whnf
  dsimp only
  go_upto_region 47 with fail
  go_cut [] (fun wx => Hid (OI w g o t first q.a q.nx (oC ⟨#[]⟩ fl st 0 r q.a (-1) 0 q.wd q.pr) wx))
  case first => as_aux_lemma =>
    have hT := unhide HI
    refine wp_region_held_drew (S := fun W => ∃ cs, OI w g o t first q.a q.nx cs W) (by kernel_rfl) ⟨_, hT.drew⟩ ?_
    intro hS
    replace hT := hT.drew
    clear HI
    generalize W12.drew = W0 at hS hT ⊢
    refine wpAnyH_pre (fuel := 5) (by kernel_rfl) (fun _ _ d _ _ h => by cases d <;> exact h) [0, 1, 2, 3, 4, 5] _ _ _ (by kernel_rfl) hS ?_
    clear hS
    refine Pre.step (v := ?_) rfl ?_ ?_ ?_
    rotate_left
    · rfl
    · intro w9 hS9; obtain ⟨cs9, hS9⟩ := hS9; have c1 : w9.cell? ⟨g, 1, none⟩ = some (.int .i64 q.a) := hS9.rd.cell 1; clear hS9; go_simp; try with_reducible rfl
    simp only [Act.put, List.getElem_toArray, List.getElem_cons_zero, List.setIfInBounds_toArray, List.set_cons_zero, List.set_cons_succ]
    refine Pre.step (v := ?_) rfl ?_ ?_ ?_
    rotate_left
    · rfl
    · intro w9 hS9; obtain ⟨cs9, hS9⟩ := hS9; have c1 : w9.cell? ⟨g, 1, none⟩ = some (.int .i64 q.a) := hS9.rd.cell 1; clear hS9; go_simp; try with_reducible rfl
    simp only [Act.put, List.getElem_toArray, List.getElem_cons_zero, List.getElem_cons_succ, List.setIfInBounds_toArray, List.set_cons_zero, List.set_cons_succ]
    refine Pre.step (v := ?_) rfl ?_ ?_ ?_
    rotate_left
    · rfl
    · intro w9 hS9; obtain ⟨cs9, hS9⟩ := hS9; have c1 : w9.cell? ⟨g, 1, none⟩ = some (.int .i64 q.a) := hS9.rd.cell 1; clear hS9; go_simp; try with_reducible rfl
    simp only [Act.put, List.getElem_toArray, List.getElem_cons_zero, List.getElem_cons_succ, List.setIfInBounds_toArray, List.set_cons_zero, List.set_cons_succ]
    refine Pre.step (v := ?_) rfl ?_ ?_ ?_
    rotate_left
    · rfl
    · intro w9 hS9; obtain ⟨cs9, hS9⟩ := hS9; have c1 : w9.cell? ⟨g, 1, none⟩ = some (.int .i64 q.a) := hS9.rd.cell 1; clear hS9; go_simp; try with_reducible rfl
    simp only [Act.put, List.getElem_toArray, List.getElem_cons_zero, List.getElem_cons_succ, List.setIfInBounds_toArray, List.set_cons_zero, List.set_cons_succ]
    refine Pre.step (v := ?_) rfl ?_ ?_ ?_
    rotate_left
    · rfl
    · intro w9 hS9; obtain ⟨cs9, hS9⟩ := hS9; have c1 : w9.cell? ⟨g, 1, none⟩ = some (.int .i64 q.a) := hS9.rd.cell 1; clear hS9; go_simp; try with_reducible rfl
    simp only [Act.put, List.getElem_toArray, List.getElem_cons_zero, List.getElem_cons_succ, List.setIfInBounds_toArray, List.set_cons_zero, List.set_cons_succ]
    refine Pre.step (v := ?_) rfl ?_ ?_ ?_
    rotate_left
    · rfl
    · intro w9 hS9; obtain ⟨cs9, hS9⟩ := hS9; have c1 : w9.cell? ⟨g, 1, none⟩ = some (.int .i64 q.a) := hS9.rd.cell 1; clear hS9; go_simp; try with_reducible rfl
    simp only [Act.put, List.getElem_toArray, List.getElem_cons_zero, List.getElem_cons_succ, List.setIfInBounds_toArray, List.set_cons_zero, List.set_cons_succ]
    refine Pre.nil ?_
    refine wpAnyH_ready (rs := [6]) (by kernel_rfl) (by simp) (AllReadyH.cons rfl (fun K hK => ?_) AllReadyH.nil)
    have d4 : World.cell? _ ⟨o, 4, none⟩ = some (.int .i32 0) := hT.op.cell 4
    have fo4 := hT.op.frozen 4
    go_simp
    replace hT := hT.setOp 4 (.int .i32 r)
    refine hK.out _ _ ⟨_, hT⟩ (fun _ => ?_)
    clear hK K d4 fo4
    refine wpAnyH_ready (rs := [7]) (by kernel_rfl) (by simp) (AllReadyH.cons rfl (fun K hK => ?_) AllReadyH.nil)
    go_simp
    refine hK.out _ _ ⟨_, hT⟩ (fun _ => ?_)
    clear hK K
    refine wpAnyH_ready (rs := [8]) (by kernel_rfl) (by simp) (AllReadyH.cons rfl (fun K hK => ?_) AllReadyH.nil)
    have d5 : World.cell? _ ⟨o, 5, none⟩ = some (.int .i64 0) := hT.op.cell 5
    have fo5 := hT.op.frozen 5
    go_simp
    replace hT := hT.setOp 5 (.int .i64 q.a)
    refine hK.out _ _ ⟨_, hT⟩ (fun _ => ?_)
    clear hK K d5 fo5
    refine wpAnyH_ready (rs := [9]) (by kernel_rfl) (by simp) (AllReadyH.cons rfl (fun K hK => ?_) AllReadyH.nil)
    go_simp
    refine hK.out _ _ ⟨_, hT⟩ (fun _ => ?_)
    clear hK K
    refine wpAnyH_ready (rs := [10]) (by kernel_rfl) (by simp) (AllReadyH.cons rfl (fun K hK => ?_) AllReadyH.nil)
    have d6 : World.cell? _ ⟨o, 6, none⟩ = some (.int .i64 0) := hT.op.cell 6
    have fo6 := hT.op.frozen 6
    go_simp
    replace hT := hT.setOp 6 (.int .i64 (-1))
    refine hK.out _ _ ⟨_, hT⟩ (fun _ => ?_)
    clear hK K d6 fo6
    refine wpAnyH_done (by kernel_rfl) ?_ _
    go_wp2_with fail
    go_meet
    exact hT.congr (by simp [oC])
  case rest => as_aux_lemma =>
    clear HI
    have HI := hcut
    clear hcut
    have HVS : ∃ vs : Int, vs = if 0 < q.n then (q.fr : Int) else q.a := ⟨_, rfl⟩
    obtain ⟨vs, hvs⟩ := HVS
    have HVS := hide hvs
    clear hvs
    go_upto_region 48 with fail
    go_upto_if 299 with fail
    go_cut [] (fun wx => Hid (OI w g o t first q.a q.nx (oC ⟨#[]⟩ fl st 0 r vs (-1) 0 q.wd q.pr) wx))
    case first => as_aux_lemma =>
      obtain ⟨W12b, hW12b⟩ : ∃ x : World, x = wc := ⟨_, rfl⟩
      rw [← hW12b] at HI ⊢
      clear hW12b
      by_cases hn : 0 < q.n
      · have bn : decide ((q.n : Int) > 0) = true := decide_eq_true (by omega)
        have hv := unhide HVS
        rw [if_pos hn] at hv
        have HV := hide hv
        clear hv
        have d5 : World.cell? W12b ⟨o, 5, none⟩ = some (.int .i64 q.a) := (unhide HI).op.cell 5
        have fo5 := (unhide HI).op.frozen 5
        go_wp2_with fail
        go_meet
        exact ((unhide HI).setOp 5 _).congr (by simp [oC, unhide HV])
      · have bn : decide ((q.n : Int) > 0) = false := decide_eq_false (by omega)
        have hv := unhide HVS
        rw [if_neg hn] at hv
        have HV := hide hv
        clear hv
        go_wp2_with fail
        go_meet
        exact (unhide HI).congr (by simp [oC, unhide HV])
    case rest => as_aux_lemma =>
      clear HI
      have HI := hcut
      clear hcut
      obtain ⟨hlt, hdy, hw1, hlo⟩ := hfacts
      have hwz : q.a + wd ≤ t.size := by omega
      have qa : q.a ≤ t.size := by omega
      have c1 : World.cell? wc ⟨g, 1, none⟩ = some (.int .i64 q.a) := (unhide HI).rd.cell 1
      have d2 : World.cell? wc ⟨o, 2, none⟩ = some (.int .i64 0) := (unhide HI).op.cell 2
      have fg1 := (unhide HI).rd.frozen 1
      have fo2 := (unhide HI).op.frozen 2
      have hgo := (unhide HI).ne
      go_upto_region 52 with fail
      clear c1 fg1 d2 fo2 hgo
      refine wgen (fun W => OI w g o t first (q.a + wd) q.nx (oC ⟨#[]⟩ fl st ((q.a + wd : Nat) : Int) r vs (-1) 0 q.wd q.pr) W) ?_ ?_
      · exact (((unhide HI).setAt _ (q.a + wd) (by omega)).setOp 2 _).congr (by simp [oC])
      clear HI
      intro W13 hW13
      have HI := hide hW13
      clear hW13
      obtain ⟨e2, he2⟩ : ∃ e2 : Nat, e2 = q.a + wd := ⟨_, rfl⟩
      rw [← he2] at HI
      have k0 : (0 : Int) ≤ (st : Int) := by omega
      have k1 : (st : Int) ≤ (e2 : Int) := by omega
      have k2 : (e2 : Int) ≤ (t.size : Int) := by omega
      have HE2 := hide he2
      clear he2
      obtain ⟨u, hu⟩ : ∃ u, t.extract st e2 = u := ⟨_, rfl⟩
      have c0 : World.cell? W13 ⟨g, 0, none⟩ = some (.string t) := (unhide HI).rd.cell 0
      have d0 : World.cell? W13 ⟨o, 0, none⟩ = some (.string ⟨#[]⟩) := (unhide HI).op.cell 0
      have d1 : World.cell? W13 ⟨o, 1, none⟩ = some (.int .i64 st) := (unhide HI).op.cell 1
      have d2 : World.cell? W13 ⟨o, 2, none⟩ = some (.int .i64 e2) := (unhide HI).op.cell 2
      have fo0 := (unhide HI).op.frozen 0
      have n3 := World.new_ne W13 _ d0
      try simp only [List.append]
      go_still_tail 10, (by kernel_rfl)
      change wpList _ _ _ _ _ W13.drew
      clear n3
      have hW3 := (unhide HI).drew
      clear c0 d0 d1 d2 fo0 HI
      generalize W13.drew = W14 at hW3 ⊢
      have HI := hide hW3
      clear hW3
      have HU := hide hu
      clear hu k0 k1 k2
      have d0 : World.cell? W14 ⟨o, 0, none⟩ = some (.string ⟨#[]⟩) := (unhide HI).op.cell 0
      have fo0 := (unhide HI).op.frozen 0
      have HTX : Hid (mk (seg t.data.toList st e2) = u) := by
        show mk (seg t.data.toList st e2) = u
        rw [← unhide HU]
        exact (eq_mk (Lib.extract_data t st e2)).symm
      by_cases hr37 : r = 37
      · subst hr37
        have b37 : (((37 : Nat) : Int) == 37) = true := by decide
        have hn : ¬ 0 < q.n := fun hn => unhide HNO (by
          unfold opnV
          rw [(unhide HRW).1]
          exact Or.inr (Or.inl ⟨rfl, Or.inl hn⟩))
        have HS : Hid (spOp t.data.toList first st nx = .good (⟨u, st, e2, fl, ((37 : Nat) : Int), q.a, -1, -1, q.wd, q.pr⟩, e2, q.nx)) := by
          show spOp t.data.toList first st nx = _
          rw [unhide HSV]
          unfold spV
          rw [if_neg (unhide HEND), if_neg (unhide HNO)]
          unfold opV argV
          rw [(unhide HRW).1, (unhide HRW).2, ← unhide HE2, unhide HTX, if_pos rfl, if_pos rfl, if_neg hn, if_neg hn]
        have hv := unhide HVS
        rw [if_neg hn] at hv
        have HV := hide hv
        clear hv hn
        go_upto_region 54 with fail
        refine wgen (fun W => OI w g o t first e2 q.nx (oC u fl st e2 ((37 : Nat) : Int) vs (-1) 0 q.wd q.pr) W) ?_ ?_
        · exact ((unhide HI).setOp 0 _).congr (by simp [oC])
        clear d0 fo0 HI
        intro W15 hW15
        have HI := hide hW15
        clear hW15
        have d7 : World.cell? W15 ⟨o, 7, none⟩ = some (.int .i64 0) := (unhide HI).op.cell 7
        have fo7 := (unhide HI).op.frozen 7
        go_upto_region 55 with fail
        refine wgen (fun W => OI w g o t first e2 q.nx (soC ⟨u, st, e2, fl, ((37 : Nat) : Int), q.a, -1, -1, q.wd, q.pr⟩) W) ?_ ?_
        · exact ((unhide HI).setOp 7 _).congr (by simp [oC, soC, unhide HV])
        intro W5 hW5
        obtain ⟨Ls, hR5⟩ := ret_pack hW5
        have HR5 := hide hR5
        clear hW5 hR5
        go_wp2_with (first | (refine wpList_load_mid rfl 26 (.tmp 2) rfl o 0 rfl Ls _ (unhide HR5).rg Tryd.underlying26 rfl (unhide HR5).i1 ?_) | (refine wpList_store_mid rfl 26 (.tmp 2) _ rfl o 0 Ls.toArray rfl rfl (unhide HR5).th (unhide HR5).i2 (unhide HR5).oc ?_))
        refine bodyPost_ret (v := .tuple #[.agg (soC ⟨u, st, e2, fl, ((37 : Nat) : Int), q.a, -1, -1, q.wd, q.pr⟩), .int .i64 0]) (results_blk2 Tryd.results20 _ _ _ o _ _ _ rfl rfl (unhide HR5).af.op Tryd.underlying26 rfl (unhide HR5).i3) rfl ?_
        rw [unhide HS]
        exact ⟨rfl, (unhide HR5).af.rd, (unhide HR5).af.gr⟩
      · have b37 : ((r : Int) == 37) = false := by rw [beq_eq_false_iff_ne]; omega
        go_upto_region 56 with fail
        refine wgen (fun W => OI w g o t first e2 q.nx (oC u fl st e2 r vs (-1) 0 q.wd q.pr) W) ?_ ?_
        · exact ((unhide HI).setOp 0 _).congr (by simp [oC])
        clear d0 fo0 HI
        intro W15 hW15
        have HI := hide hW15
        clear hW15
        have hgo := (unhide HI).ne
        have q0x := (unhide HQ0).x0
        have q1x := (unhide HQ0).x1
        have qn := (unhide HQ0).n
        by_cases hn : 0 < q.n
        · have bn : decide ((q.n : Int) > 0) = true := decide_eq_true (by omega)
          have HS : Hid (spOp t.data.toList first st nx = .good (⟨u, st, e2, fl, r, q.fr, q.n, first + q.n - 1, q.wd, q.pr⟩, e2, first + q.n)) := by
            show spOp t.data.toList first st nx = _
            rw [unhide HSV]
            unfold spV
            rw [if_neg (unhide HEND), if_neg (unhide HNO)]
            unfold opV argV
            rw [(unhide HRW).1, (unhide HRW).2, ← unhide HE2, unhide HTX, if_neg hr37, if_neg hr37, if_pos hn, if_pos hn, if_pos hn, show first + (q.n : Int) - 1 + 1 = first + q.n from by omega]
          have hv := unhide HVS
          rw [if_pos hn] at hv
          have HV := hide hv
          clear hv
          have c2 : World.cell? W15 ⟨g, 2, none⟩ = some (.int .i64 q.nx) := (unhide HI).rd.cell 2
          have c3 : World.cell? W15 ⟨g, 3, none⟩ = some (.int .i64 first) := (unhide HI).rd.cell 3
          have d7 : World.cell? W15 ⟨o, 7, none⟩ = some (.int .i64 0) := (unhide HI).op.cell 7
          have d6 : World.cell? W15 ⟨o, 6, none⟩ = some (.int .i64 (-1)) := (unhide HI).op.cell 6
          have fo7 := (unhide HI).op.frozen 7
          have fo6 := (unhide HI).op.frozen 6
          have fg2 := (unhide HI).rd.frozen 2
          go_upto_region 60 with fail
          refine wgen (fun W => OI w g o t first e2 (first + q.n) (soC ⟨u, st, e2, fl, r, q.fr, q.n, first + q.n - 1, q.wd, q.pr⟩) W) ?_ ?_
          · apply OI.congr <;> first | ((repeat (first | with_reducible exact unhide HI | with_reducible apply OI.setOp | with_reducible apply OI.setNx)); done) | simp [oC, soC, unhide HV]
          intro W5 hW5
          obtain ⟨Ls, hR5⟩ := ret_pack hW5
          have HR5 := hide hR5
          clear hW5 hR5
          go_wp2_with (first | (refine wpList_load_mid rfl 26 (.tmp 2) rfl o 0 rfl Ls _ (unhide HR5).rg Tryd.underlying26 rfl (unhide HR5).i1 ?_) | (refine wpList_store_mid rfl 26 (.tmp 2) _ rfl o 0 Ls.toArray rfl rfl (unhide HR5).th (unhide HR5).i2 (unhide HR5).oc ?_))
          refine bodyPost_ret (v := .tuple #[.agg (soC ⟨u, st, e2, fl, r, q.fr, q.n, first + q.n - 1, q.wd, q.pr⟩), .int .i64 0]) (results_blk2 Tryd.results20 _ _ _ o _ _ _ rfl rfl (unhide HR5).af.op Tryd.underlying26 rfl (unhide HR5).i3) rfl ?_
          rw [unhide HS]
          exact ⟨rfl, (unhide HR5).af.rd, (unhide HR5).af.gr⟩
        · have bn : decide ((q.n : Int) > 0) = false := decide_eq_false (by omega)
          have HS : Hid (spOp t.data.toList first st nx = .good (⟨u, st, e2, fl, r, q.a, -1, q.nx, q.wd, q.pr⟩, e2, q.nx + 1)) := by
            show spOp t.data.toList first st nx = _
            rw [unhide HSV]
            unfold spV
            rw [if_neg (unhide HEND), if_neg (unhide HNO)]
            unfold opV argV
            rw [(unhide HRW).1, (unhide HRW).2, ← unhide HE2, unhide HTX, if_neg hr37, if_neg hr37, if_neg hn, if_neg hn, if_neg hn]
          have hv := unhide HVS
          rw [if_neg hn] at hv
          have HV := hide hv
          clear hv
          have c2 : World.cell? W15 ⟨g, 2, none⟩ = some (.int .i64 q.nx) := (unhide HI).rd.cell 2
          have d7 : World.cell? W15 ⟨o, 7, none⟩ = some (.int .i64 0) := (unhide HI).op.cell 7
          have fo7 := (unhide HI).op.frozen 7
          have fg2 := (unhide HI).rd.frozen 2
          go_upto_region 60 with fail
          refine wgen (fun W => OI w g o t first e2 (q.nx + 1) (soC ⟨u, st, e2, fl, r, q.a, -1, q.nx, q.wd, q.pr⟩) W) ?_ ?_
          · exact (((unhide HI).setOp 7 _).setNx _).congr (by simp [oC, soC, unhide HV])
          intro W5 hW5
          obtain ⟨Ls, hR5⟩ := ret_pack hW5
          have HR5 := hide hR5
          clear hW5 hR5
          go_wp2_with (first | (refine wpList_load_mid rfl 26 (.tmp 2) rfl o 0 rfl Ls _ (unhide HR5).rg Tryd.underlying26 rfl (unhide HR5).i1 ?_) | (refine wpList_store_mid rfl 26 (.tmp 2) _ rfl o 0 Ls.toArray rfl rfl (unhide HR5).th (unhide HR5).i2 (unhide HR5).oc ?_))
          refine bodyPost_ret (v := .tuple #[.agg (soC ⟨u, st, e2, fl, r, q.a, -1, q.nx, q.wd, q.pr⟩), .int .i64 0]) (results_blk2 Tryd.results20 _ _ _ o _ _ _ rfl rfl (unhide HR5).af.op Tryd.underlying26 rfl (unhide HR5).i3) rfl ?_
          rw [unhide HS]
          exact ⟨rfl, (unhide HR5).af.rd, (unhide HR5).af.gr⟩
end Go.Proofs.YtjbmphfgckhaeaaDoor
