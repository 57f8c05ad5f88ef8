/-
  The reference's op, a part of its walk (Sop9). No condition. Printed by gen_sop.py.
-/
import Derived.Test.YtjbmphfgckhaeaaDoorGb
namespace Go.Proofs.YtjbmphfgckhaeaaDoor
open Go.RowKit

set_option maxRecDepth 100000 in
set_option maxHeartbeats 51200000 in
theorem sop9 (h10 : Sop10) : Sop9 := by
  intro u1 u3 u8 u9 u10 u11 u12 u13 u14 u15 u16 u17 u18 u19 u20 u21 u22 u23 u24 u25 u26 u27 u28 u29 u30 u31 u32 u33 u34 u35 u36 u37 u38 u39 u40 u41 u42 u43 u44 u45 u46 u47 u48 u49 u50 u51 u52 u53 u54 u55 u56 u57 u58 u59 u60 u61 u62 u63 u64 u65 u66 u67 u68 u69 u70 u71 u72 u73 u74 u75 u76 u77 u78 u79 u80 u81 u82 u83 u84 u85 u86 u87 u88 u89 u90 u91 u92 u93 u94 u95 u96 u97 u98 u99 u100 u101 u102 u103 u104 u105 u106 u107 u108 u109 u110 u111 u112 u113 u114 u115 u116 u117 u118 u119 u120 u121 u122 u123 u124 u125 u126 u127 u128 u129 u130 u131 u132 u133 u134 u135 u136 u137 u138 u139 u140 u141 u142 u143 u144 u145 u146 u147 u148 u149 u150 u151 u152 u153 u154 u155 u156 u157 u158 u159 u160 u161 u162 u163 u164 u165 u166 u167 u168 u169 u170 u171 u172 u173 u174 u175 u176 u177 u178 u179 u180 u181 u182 u183 u184 u185 u186 u187 u188 u189 u190 u191 u192 u193 u194 u195 u196 u197 u198 u199 u200 u201 u202 u203 u204 u205 u206 u207 u208 u209 u210 u211 u212 u213 u214 u215 u216 u217 u218 u219 u220 u221 u222 u223 u224 u225 u226 u227 u228 u229 u230 u231 u232 u233 u234 u235 u236 u237 u238 u239 u240 u241 u242 u243 u244 u245 u246 u247 u248 u249 u250 u251 u252 u253 u254 u255 u256 u257 u258 u259 u260 u261 u262 u263 u264 u265 u266 u267 u268 u269 u270 u271 u272 u273 u274 u275 u276 u277 u278 u279 u280 u281 u282 u283 u284 u285 u286 u287 u288 u289 u290 u291 u292 u293 u294 u295 u296 u297 u298 u299 u300 u301 u302 u303 u304 u305 u306 u307 u308 u309 u310 u311 u312 u313 u314 u315 u316 u317 u318 u319 u320 u321 u322 u323 u324 u325 u326 u327 u328 u329 u330 u331 u332 u333 u334 u335 u336 u337 u338 u339 u340 u341 u342 u343 u344 u345 u346 u347 u348 u349 u350 u351 u352 g o r wd t fl st nx first w wd4 q hs hst hf0 hf1 HL HSV HQ0 hfacts HEND HRW HI
  conv => arg 2; whnf
  dsimp only
  go_upto_region 45 with fail
  go_cut [288] (fun sd wx => sd = .bool (decide (opnV t.data.toList st q)) ∧ ∃ n, wx = World.drewN wd4 n)
  case first => as_aux_lemma =>
    have c1 : World.cell? wd4 ⟨g, 1, none⟩ = some (.int .i64 q.a) := (unhide HI).rd.cell 1
    have d1 : World.cell? wd4 ⟨o, 1, none⟩ = some (.int .i64 st) := (unhide HI).op.cell 1
    have HI7 := HI
    clear HI
    have hst0 : (0 : Int) ≤ (st : Int) := by omega
    by_cases k1 : r = 65533
    · by_cases k2 : wd = 1
      · have bw : ((wd : Int) == 1) = true := by rw [beq_iff_eq]; omega
        have b65533 : ((r : Int) == 65533) = true := by rw [beq_iff_eq]; omega
        have b37 : ((r : Int) == 37) = false := by rw [beq_eq_false_iff_ne]; omega
        have b91 : ((r : Int) == 91) = false := by rw [beq_eq_false_iff_ne]; omega
        have b42 : ((r : Int) == 42) = false := by rw [beq_eq_false_iff_ne]; omega
        have b46 : ((r : Int) == 46) = false := by rw [beq_eq_false_iff_ne]; omega
        as_aux_lemma =>
          have HV : Hid (decide (opnV t.data.toList st q) = true) := by
            show decide (opnV t.data.toList st q) = true
            refine decide_eq_true ?_
            unfold opnV
            rw [(unhide HRW).1, (unhide HRW).2]
            omega
          try simp only [List.append]
          go_quiet (fail)
          go_wp2_with fail
          go_meet
          exact ⟨congrArg Value.bool (unhide HV).symm, _, rfl⟩
      · have bw : ((wd : Int) == 1) = false := by rw [beq_eq_false_iff_ne]; omega
        have b65533 : ((r : Int) == 65533) = true := by rw [beq_iff_eq]; omega
        have b37 : ((r : Int) == 37) = false := by rw [beq_eq_false_iff_ne]; omega
        have b91 : ((r : Int) == 91) = false := by rw [beq_eq_false_iff_ne]; omega
        have b42 : ((r : Int) == 42) = false := by rw [beq_eq_false_iff_ne]; omega
        have b46 : ((r : Int) == 46) = false := by rw [beq_eq_false_iff_ne]; omega
        as_aux_lemma =>
          have HV : Hid (decide (opnV t.data.toList st q) = false) := by
            show decide (opnV t.data.toList st q) = false
            refine decide_eq_false ?_
            unfold opnV
            rw [(unhide HRW).1, (unhide HRW).2]
            omega
          try simp only [List.append]
          go_quiet (fail)
          go_wp2_with fail
          go_meet
          exact ⟨congrArg Value.bool (unhide HV).symm, _, rfl⟩
    · by_cases k3 : r = 37
      · by_cases k4 : 0 < q.n
        · have bn : decide ((q.n : Int) > 0) = true := decide_eq_true (by omega)
          have b65533 : ((r : Int) == 65533) = false := by rw [beq_eq_false_iff_ne]; omega
          have b37 : ((r : Int) == 37) = true := by rw [beq_iff_eq]; omega
          have b91 : ((r : Int) == 91) = false := by rw [beq_eq_false_iff_ne]; omega
          have b42 : ((r : Int) == 42) = false := by rw [beq_eq_false_iff_ne]; omega
          have b46 : ((r : Int) == 46) = false := by rw [beq_eq_false_iff_ne]; omega
          as_aux_lemma =>
            have HV : Hid (decide (opnV t.data.toList st q) = true) := by
              show decide (opnV t.data.toList st q) = true
              refine decide_eq_true ?_
              unfold opnV
              rw [(unhide HRW).1, (unhide HRW).2]
              omega
            try simp only [List.append]
            go_quiet (fail)
            go_wp2_with fail
            go_meet
            exact ⟨congrArg Value.bool (unhide HV).symm, _, rfl⟩
        · have bn : decide ((q.n : Int) > 0) = false := decide_eq_false (by omega)
          by_cases k5 : st + 1 < q.a
          · have bs : decide ((q.a : Int) > (st : Int) + 1) = true := decide_eq_true (by omega)
            have bs2 : decide ((st : Int) + 1 < (q.a : Int)) = true := decide_eq_true (by omega)
            have b65533 : ((r : Int) == 65533) = false := by rw [beq_eq_false_iff_ne]; omega
            have b37 : ((r : Int) == 37) = true := by rw [beq_iff_eq]; omega
            have b91 : ((r : Int) == 91) = false := by rw [beq_eq_false_iff_ne]; omega
            have b42 : ((r : Int) == 42) = false := by rw [beq_eq_false_iff_ne]; omega
            have b46 : ((r : Int) == 46) = false := by rw [beq_eq_false_iff_ne]; omega
            as_aux_lemma =>
              have HV : Hid (decide (opnV t.data.toList st q) = true) := by
                show decide (opnV t.data.toList st q) = true
                refine decide_eq_true ?_
                unfold opnV
                rw [(unhide HRW).1, (unhide HRW).2]
                omega
              try simp only [List.append]
              go_quiet (fail)
              go_wp2_with fail
              go_meet
              exact ⟨congrArg Value.bool (unhide HV).symm, _, rfl⟩
          · have bs : decide ((q.a : Int) > (st : Int) + 1) = false := decide_eq_false (by omega)
            have bs2 : decide ((st : Int) + 1 < (q.a : Int)) = false := decide_eq_false (by omega)
            have b65533 : ((r : Int) == 65533) = false := by rw [beq_eq_false_iff_ne]; omega
            have b37 : ((r : Int) == 37) = true := by rw [beq_iff_eq]; omega
            have b91 : ((r : Int) == 91) = false := by rw [beq_eq_false_iff_ne]; omega
            have b42 : ((r : Int) == 42) = false := by rw [beq_eq_false_iff_ne]; omega
            have b46 : ((r : Int) == 46) = false := by rw [beq_eq_false_iff_ne]; omega
            as_aux_lemma =>
              have HV : Hid (decide (opnV t.data.toList st q) = false) := by
                show decide (opnV t.data.toList st q) = false
                refine decide_eq_false ?_
                unfold opnV
                rw [(unhide HRW).1, (unhide HRW).2]
                omega
              try simp only [List.append]
              go_quiet (fail)
              go_wp2_with fail
              go_meet
              exact ⟨congrArg Value.bool (unhide HV).symm, _, rfl⟩
      · by_cases k6 : r = 91
        · skip
          have b65533 : ((r : Int) == 65533) = false := by rw [beq_eq_false_iff_ne]; omega
          have b37 : ((r : Int) == 37) = false := by rw [beq_eq_false_iff_ne]; omega
          have b91 : ((r : Int) == 91) = true := by rw [beq_iff_eq]; omega
          have b42 : ((r : Int) == 42) = false := by rw [beq_eq_false_iff_ne]; omega
          have b46 : ((r : Int) == 46) = false := by rw [beq_eq_false_iff_ne]; omega
          as_aux_lemma =>
            have HV : Hid (decide (opnV t.data.toList st q) = true) := by
              show decide (opnV t.data.toList st q) = true
              refine decide_eq_true ?_
              unfold opnV
              rw [(unhide HRW).1, (unhide HRW).2]
              omega
            try simp only [List.append]
            go_quiet (fail)
            go_wp2_with fail
            go_meet
            exact ⟨congrArg Value.bool (unhide HV).symm, _, rfl⟩
        · by_cases k7 : r = 42
          · skip
            have b65533 : ((r : Int) == 65533) = false := by rw [beq_eq_false_iff_ne]; omega
            have b37 : ((r : Int) == 37) = false := by rw [beq_eq_false_iff_ne]; omega
            have b91 : ((r : Int) == 91) = false := by rw [beq_eq_false_iff_ne]; omega
            have b42 : ((r : Int) == 42) = true := by rw [beq_iff_eq]; omega
            have b46 : ((r : Int) == 46) = false := by rw [beq_eq_false_iff_ne]; omega
            as_aux_lemma =>
              have HV : Hid (decide (opnV t.data.toList st q) = true) := by
                show decide (opnV t.data.toList st q) = true
                refine decide_eq_true ?_
                unfold opnV
                rw [(unhide HRW).1, (unhide HRW).2]
                omega
              try simp only [List.append]
              go_quiet (fail)
              go_wp2_with fail
              go_meet
              exact ⟨congrArg Value.bool (unhide HV).symm, _, rfl⟩
          · by_cases k8 : r = 46
            · skip
              have b65533 : ((r : Int) == 65533) = false := by rw [beq_eq_false_iff_ne]; omega
              have b37 : ((r : Int) == 37) = false := by rw [beq_eq_false_iff_ne]; omega
              have b91 : ((r : Int) == 91) = false := by rw [beq_eq_false_iff_ne]; omega
              have b42 : ((r : Int) == 42) = false := by rw [beq_eq_false_iff_ne]; omega
              have b46 : ((r : Int) == 46) = true := by rw [beq_iff_eq]; omega
              as_aux_lemma =>
                have HV : Hid (decide (opnV t.data.toList st q) = true) := by
                  show decide (opnV t.data.toList st q) = true
                  refine decide_eq_true ?_
                  unfold opnV
                  rw [(unhide HRW).1, (unhide HRW).2]
                  omega
                try simp only [List.append]
                go_quiet (fail)
                go_wp2_with fail
                go_meet
                exact ⟨congrArg Value.bool (unhide HV).symm, _, rfl⟩
            · skip
              have b65533 : ((r : Int) == 65533) = false := by rw [beq_eq_false_iff_ne]; omega
              have b37 : ((r : Int) == 37) = false := by rw [beq_eq_false_iff_ne]; omega
              have b91 : ((r : Int) == 91) = false := by rw [beq_eq_false_iff_ne]; omega
              have b42 : ((r : Int) == 42) = false := by rw [beq_eq_false_iff_ne]; omega
              have b46 : ((r : Int) == 46) = false := by rw [beq_eq_false_iff_ne]; omega
              as_aux_lemma =>
                have HV : Hid (decide (opnV t.data.toList st q) = false) := by
                  show decide (opnV t.data.toList st q) = false
                  refine decide_eq_false ?_
                  unfold opnV
                  rw [(unhide HRW).1, (unhide HRW).2]
                  omega
                try simp only [List.append]
                go_quiet (fail)
                go_wp2_with fail
                go_meet
                exact ⟨congrArg Value.bool (unhide HV).symm, _, rfl⟩
  case rest => as_aux_lemma =>
    obtain ⟨rfl, n12, rfl⟩ := hcut
    have HI2 := (unhide HI).drewN n12
    clear HI
    have HI := hide HI2
    clear HI2
    generalize World.drewN wd4 n12 = W12 at HI ⊢
    by_cases hop : opnV t.data.toList st q
    · have hdo : decide (opnV t.data.toList st q) = true := decide_eq_true hop
      have HS : Hid (spOp t.data.toList first st nx = .opn) := by
        show spOp t.data.toList first st nx = _
        rw [unhide HSV]
        unfold spV
        rw [if_neg (unhide HEND), if_pos hop]
      clear hop
      rw [hdo]
      go_upto_region 46 with fail
      refine wgen (fun W => OI w g o t first q.a q.nx (soC ⟨⟨#[]⟩, st, 0, fl, 0, 0, 0, 0, q.wd, q.pr⟩) W) ?_ ?_
      · exact unhide HI
      intro W5 hW5
      obtain ⟨Ls, hR5⟩ := ret_pack hW5
      have HR5 := hide hR5
      clear hW5 hR5
      go_wp2_with (first | (refine wpList_load_mid rfl 26 (.tmp 2) rfl o 0 rfl Ls _ (unhide HR5).rg Tryd.underlying26 rfl (unhide HR5).i1 ?_) | (refine wpList_store_mid rfl 26 (.tmp 2) _ rfl o 0 Ls.toArray rfl rfl (unhide HR5).th (unhide HR5).i2 (unhide HR5).oc ?_))
      refine bodyPost_ret (v := .tuple #[.agg (soC ⟨⟨#[]⟩, st, 0, fl, 0, 0, 0, 0, q.wd, q.pr⟩), .int .i64 2]) (results_blk2 Tryd.results20 _ _ _ o _ _ _ rfl rfl (unhide HR5).af.op Tryd.underlying26 rfl (unhide HR5).i3) rfl ?_
      rw [unhide HS]
      exact ⟨⟨⟨#[]⟩, st, 0, fl, 0, 0, 0, 0, q.wd, q.pr⟩, _, _, rfl, (unhide HR5).af.rd, (unhide HR5).af.gr⟩
    · have hdo : decide (opnV t.data.toList st q) = false := decide_eq_false hop
      have HNO := hide hop
      clear hop
      rw [hdo]
      clear hdo
      go_upto_if 288 with fail
      go_cut [] (fun wx => wx = W12)
      case first => as_aux_lemma =>
        go_wp2_with fail
        go_meet
        rfl
      case rest => as_aux_lemma =>
        obtain rfl := hcut
        go_step
        exact h10 _ _ _ _ _ _ _ _ _ _ _ _ _ _ _ _ _ _ _ _ _ _ _ _ _ _ _ _ _ _ _ _ _ _ _ _ _ _ _ _ _ _ _ _ _ _ _ _ _ _ _ _ _ _ _ _ _ _ _ _ _ _ _ _ _ _ _ _ _ _ _ _ _ _ _ _ _ _ _ _ _ _ _ _ _ _ _ _ _ _ _ _ _ _ _ _ _ _ _ _ _ _ _ _ _ _ _ _ _ _ _ _ _ _ _ _ _ _ _ _ _ _ _ _ _ _ _ _ _ _ _ _ _ _ _ _ _ _ _ _ _ _ _ _ _ _ _ _ _ _ _ _ _ _ _ _ _ _ _ _ _ _ _ _ _ _ _ _ _ _ _ _ _ _ _ _ _ _ _ _ _ _ _ _ _ _ _ _ _ _ _ _ _ _ _ _ _ _ _ _ _ _ _ _ _ _ _ _ _ _ _ _ _ _ _ _ _ _ _ _ _ _ _ _ _ _ _ _ _ _ _ _ _ _ _ _ _ _ _ _ _ _ _ _ _ _ _ _ _ _ _ _ _ _ _ _ _ _ _ _ _ _ _ _ _ _ _ _ _ _ _ _ _ _ _ _ _ _ _ _ _ _ _ _ _ _ _ _ _ _ _ _ _ _ _ _ _ _ _ _ _ _ _ _ _ _ _ _ _ _ _ _ _ _ _ _ _ _ _ _ _ _ _ _ _ _ _ _ _ _ _ _ _ _ _ _ _ _ _ _ _ _ _ _ _ _ _ g o r wd t fl st nx first w _ q hs hst hf0 hf1 HL HSV HQ0 hfacts HEND HRW HNO HI
end Go.Proofs.YtjbmphfgckhaeaaDoor
