/-
  The reference's op, a part of its walk (Sop6). No condition. Printed by gen_sop.py.
-/
import Derived.Test.YtjbmphfgckhaeaaDoorGb
namespace Go.Proofs.YtjbmphfgckhaeaaDoor
open Go.RowKit

set_option maxRecDepth 100000 in
set_option maxHeartbeats 51200000 in
theorem sop6 (h7 : Sop7) : Sop6 := by
  intro u1 u3 u6 u7 u8 u9 u10 u11 u12 u13 u14 u15 u16 u17 u18 u19 u20 u21 u22 u23 u24 u25 u26 u27 u28 u29 u30 u31 u32 u33 u34 u35 u36 u37 u38 u39 u40 u41 u42 u43 u44 u45 u46 u47 u48 u49 u50 u51 u52 u53 u54 u55 u56 u57 u58 u59 u60 u61 u62 u63 u64 u65 u66 u67 u68 u69 u70 u71 u72 u73 u74 u75 u76 u77 u78 u79 u80 u81 u82 u83 u84 u85 u86 u87 u88 u89 u90 u91 u92 u93 u94 u95 u96 u97 u98 u99 u100 u101 u102 u103 u104 u105 u106 u107 u108 u109 u110 u111 u112 u113 u114 u115 u116 u117 u118 u119 u120 u121 u122 u123 u124 u125 u126 u127 u128 u129 u130 u131 u132 u133 u134 u135 u136 u137 u138 u139 u140 u141 u142 u143 u144 u145 u146 u147 u148 u149 u150 u151 u152 u153 u154 u155 u156 u157 u158 u159 u160 u161 u162 u163 u164 u165 u166 u167 u168 u169 u170 u171 u172 u173 u174 u175 u176 u177 u178 u179 u180 u181 u182 u183 u184 u185 u186 u187 u188 u189 u190 u191 u192 u193 u194 u195 u196 u197 u198 u199 u200 u201 u202 u203 u204 u205 u206 u207 u208 u209 u210 u211 u212 u213 u214 u215 u216 u217 u218 u219 u220 u221 u222 u223 u224 u225 u226 u227 u228 u229 u230 u231 u232 u233 u234 u235 u236 u237 u238 u239 u240 u241 u242 u243 u244 u245 u246 u247 u248 u249 u250 u251 u252 u253 u254 u255 u256 u257 u258 u259 u260 u261 u262 u263 u264 u265 u266 u267 u268 u269 u270 u271 u272 u273 u274 u275 u276 u277 u278 u279 u280 u281 u282 u283 u284 u285 u286 u287 u288 u289 u290 u291 u292 u293 u294 u295 u296 u297 u298 u299 u300 u301 u302 u303 u304 u305 u306 u307 u308 u309 u310 u311 u312 u313 u314 u315 u316 u317 u318 u319 u320 u321 u322 u323 u324 u325 u326 u327 u328 u329 u330 u331 u332 u333 u334 u335 u336 u337 u338 u339 u340 u341 u342 u343 u344 u345 u346 u347 u348 u349 u350 u351 u352 g o t fl st nx first w wc q1 hs hst hf0 hf1 hG hg4 HL HSP1 HQ0 HEX HI
  conv => arg 2; whnf
  have HQ1 := HQ0
  have HPR := HEX
  have rn := (unhide HQ1).n
  have ra := (unhide HQ1).a
  have r0x := (unhide HQ1).x0
  have r1x := (unhide HQ1).x1
  go_wp2_with fail
  refine (is_any g t q1.a q1.nx first 46 46 rfl _ (unhide HI).rd).mono ?_
  rintro e W4' ⟨rfl, n9, rfl⟩
  have HI4 : Hid (OI w g o t first q1.a q1.nx (oC ⟨#[]⟩ fl st 0 0 0 0 0 q1.wd q1.pr) (wc.drewN n9)) := (unhide HI).drewN n9
  clear HI
  generalize wc.drewN n9 = W5 at HI4 ⊢
  go_upto_if 133 with fail
  go_cut [4, 5] (fun s4 s5 wx => ∃ q : SS, s4 = .int .i64 q.fr ∧ s5 = .int .i64 q.n ∧ Hid (spP t.data.toList first q1 = .good q ∧ QB t q 100000002 ∧ OI w g o t first q.a q.nx (oC ⟨#[]⟩ fl st 0 0 0 0 0 q.wd q.pr) wx))
  case first => as_aux_lemma =>
    by_cases h46 : t.data.toList[q1.a]? = some 46
    · have HT := hide (isB_true h46)
      have hlt46 := lt_of_at h46
      rw [unhide HT]
      by_cases hn : 0 < q1.n
      · have hdn : decide ((q1.n : Int) > 0) = true := decide_eq_true (by omega)
        have HS : Hid (spOp t.data.toList first st nx = .opn) := by
          show spOp t.data.toList first st nx = _
          rw [unhide HSP1]
          unfold spP
          rw [if_pos h46, if_pos hn]
          rfl
        clear h46
        go_upto_region 21 with fail
        refine wgen (fun W => OI w g o t first q1.a q1.nx (soC ⟨⟨#[]⟩, st, 0, fl, 0, 0, 0, 0, q1.wd, q1.pr⟩) W) ?_ ?_
        · exact unhide HI4
        intro W5 hW5
        obtain ⟨Ls, hR5⟩ := ret_pack hW5
        have HR5 := hide hR5
        clear hW5 hR5
        go_wp2_with (first | (refine wpList_load_mid rfl 26 (.tmp 2) rfl o 0 rfl Ls _ (unhide HR5).rg Tryd.underlying26 rfl (unhide HR5).i1 ?_) | (refine wpList_store_mid rfl 26 (.tmp 2) _ rfl o 0 Ls.toArray rfl rfl (unhide HR5).th (unhide HR5).i2 (unhide HR5).oc ?_))
        refine bodyPost_ret (v := .tuple #[.agg (soC ⟨⟨#[]⟩, st, 0, fl, 0, 0, 0, 0, q1.wd, q1.pr⟩), .int .i64 2]) (results_blk2 Tryd.results20 _ _ _ o _ _ _ rfl rfl (unhide HR5).af.op Tryd.underlying26 rfl (unhide HR5).i3) rfl ?_
        rw [unhide HS]
        exact ⟨⟨⟨#[]⟩, st, 0, fl, 0, 0, 0, 0, q1.wd, q1.pr⟩, _, _, rfl, (unhide HR5).af.rd, (unhide HR5).af.gr⟩
      · have hn0' : q1.n = 0 := by omega
        have hdn : decide ((q1.n : Int) > 0) = false := decide_eq_false (by omega)
        have HP0 : Hid (spP t.data.toList first q1 = (spBr t.data.toList (q1.a + 1)).bind fun x =>
            if t.data.toList[x.2]? = some 42 then .good { q1 with pr := starZ first q1.nx x.1, n := 0, a := x.2 + 1, nx := (starZ first q1.nx x.1).dyn + 1, fr := q1.a + 1 }
            else if isDat t.data.toList x.2 = true then
              if 0 < x.1 then .opn else (spDig t.data.toList x.2).bind fun y => .good { q1 with pr := ⟨y.1, -1, -1⟩, n := 0, a := y.2, fr := q1.a + 1 }
            else .opn) := by
          show spP t.data.toList first q1 = _
          unfold spP
          rw [if_pos h46, if_neg hn]
        clear h46 hn0'
        have c1 : World.cell? W5 ⟨g, 1, none⟩ = some (.int .i64 q1.a) := (unhide HI4).rd.cell 1
        have fg1 := (unhide HI4).rd.frozen 1
        go_upto_region 23 with fail
        refine wgen (fun W => OI w g o t first (q1.a + 1) q1.nx (oC ⟨#[]⟩ fl st 0 0 0 0 0 q1.wd q1.pr) W) ?_ ?_
        · exact (unhide HI4).setAt _ _ (by omega)
        clear c1 fg1 HI4
        intro W6 hW6
        have HI6 := hide hW6
        clear hW6
        have c1 : World.cell? W6 ⟨g, 1, none⟩ = some (.int .i64 ((q1.a + 1 : Nat) : Int)) := (unhide HI6).rd.cell 1
        go_wp2_with fail
        refine (br_any g t (q1.a + 1) q1.nx first _ (unhide HI6).rd hs (by omega)).mono ?_
        cases hbr : spBr t.data.toList (q1.a + 1) with
        | bad => as_aux_lemma =>
          rintro e W7 ⟨rfl, b7, hB7, hg7⟩
          have HS : Hid (spOp t.data.toList first st nx = .bad) := by
            show spOp t.data.toList first st nx = _
            rw [unhide HSP1, unhide HP0, hbr]
            rfl
          have hI7 := (unhide HI6).step hB7 hg7
          clear hbr c1 hg7 hB7 HI6
          have HI7 := hide hI7
          clear hI7
          go_upto_region 26 with fail
          refine wgen (fun W => OI w g o t first b7 q1.nx (soC ⟨⟨#[]⟩, st, 0, fl, 0, 0, 0, 0, q1.wd, q1.pr⟩) W) ?_ ?_
          · exact unhide HI7
          intro W5 hW5
          obtain ⟨Ls, hR5⟩ := ret_pack hW5
          have HR5 := hide hR5
          clear hW5 hR5
          go_wp2_with (first | (refine wpList_load_mid rfl 26 (.tmp 2) rfl o 0 rfl Ls _ (unhide HR5).rg Tryd.underlying26 rfl (unhide HR5).i1 ?_) | (refine wpList_store_mid rfl 26 (.tmp 2) _ rfl o 0 Ls.toArray rfl rfl (unhide HR5).th (unhide HR5).i2 (unhide HR5).oc ?_))
          refine bodyPost_ret (v := .tuple #[.agg (soC ⟨⟨#[]⟩, st, 0, fl, 0, 0, 0, 0, q1.wd, q1.pr⟩), .int .i64 1]) (results_blk2 Tryd.results20 _ _ _ o _ _ _ rfl rfl (unhide HR5).af.op Tryd.underlying26 rfl (unhide HR5).i3) rfl ?_
          rw [unhide HS]
          exact ⟨⟨⟨#[]⟩, st, 0, fl, 0, 0, 0, 0, q1.wd, q1.pr⟩, _, _, rfl, (unhide HR5).af.rd, (unhide HR5).af.gr⟩
        | opn => as_aux_lemma =>
          rintro e W7 ⟨rfl, b7, hB7, hg7⟩
          have HS : Hid (spOp t.data.toList first st nx = .opn) := by
            show spOp t.data.toList first st nx = _
            rw [unhide HSP1, unhide HP0, hbr]
            rfl
          have hI7 := (unhide HI6).step hB7 hg7
          clear hbr c1 hg7 hB7 HI6
          have HI7 := hide hI7
          clear hI7
          go_upto_region 26 with fail
          refine wgen (fun W => OI w g o t first b7 q1.nx (soC ⟨⟨#[]⟩, st, 0, fl, 0, 0, 0, 0, q1.wd, q1.pr⟩) W) ?_ ?_
          · exact unhide HI7
          intro W5 hW5
          obtain ⟨Ls, hR5⟩ := ret_pack hW5
          have HR5 := hide hR5
          clear hW5 hR5
          go_wp2_with (first | (refine wpList_load_mid rfl 26 (.tmp 2) rfl o 0 rfl Ls _ (unhide HR5).rg Tryd.underlying26 rfl (unhide HR5).i1 ?_) | (refine wpList_store_mid rfl 26 (.tmp 2) _ rfl o 0 Ls.toArray rfl rfl (unhide HR5).th (unhide HR5).i2 (unhide HR5).oc ?_))
          refine bodyPost_ret (v := .tuple #[.agg (soC ⟨⟨#[]⟩, st, 0, fl, 0, 0, 0, 0, q1.wd, q1.pr⟩), .int .i64 2]) (results_blk2 Tryd.results20 _ _ _ o _ _ _ rfl rfl (unhide HR5).af.op Tryd.underlying26 rfl (unhide HR5).i3) rfl ?_
          rw [unhide HS]
          exact ⟨⟨⟨#[]⟩, st, 0, fl, 0, 0, 0, 0, q1.wd, q1.pr⟩, _, _, rfl, (unhide HR5).af.rd, (unhide HR5).af.gr⟩
        | good x2 => as_aux_lemma =>
          obtain ⟨m, b⟩ := x2
          rintro e W7 ⟨rfl, hB7, hg7⟩
          have hI7 := (unhide HI6).step hB7 hg7
          obtain ⟨hm1, hm2⟩ := spBr_bd (by omega) hbr
          replace hm1 : m ≤ 999999 := hm1
          replace hm2 : b ≤ t.size := hm2
          have HP1 : Hid (spP t.data.toList first q1 =
              if t.data.toList[b]? = some 42 then .good { q1 with pr := starZ first q1.nx m, n := 0, a := b + 1, nx := (starZ first q1.nx m).dyn + 1, fr := q1.a + 1 }
              else if isDat t.data.toList b = true then
                if 0 < m then .opn else (spDig t.data.toList b).bind fun y => .good { q1 with pr := ⟨y.1, -1, -1⟩, n := 0, a := y.2, fr := q1.a + 1 }
              else .opn) := by
            show spP t.data.toList first q1 = _
            rw [unhide HP0, hbr, R3.bind_good]
          clear hbr c1 hg7 hB7 HI6 HP0
          have HI7 := hide hI7
          clear hI7
          go_wp2_with fail
          refine (is_any g t b q1.nx first 42 42 rfl _ (unhide HI7).rd).mono ?_
          rintro e W8 ⟨rfl, n8, rfl⟩
          have HI8 : Hid (OI w g o t first b q1.nx (oC ⟨#[]⟩ fl st 0 0 0 0 0 q1.wd q1.pr) (W7.drewN n8)) := (unhide HI7).drewN n8
          clear HI7
          generalize W7.drewN n8 = W8 at HI8 ⊢
          by_cases h42 : t.data.toList[b]? = some 42
          · have HS : Hid (spP t.data.toList first q1 = .good { q1 with pr := starZ first q1.nx m, n := 0, a := b + 1, nx := (starZ first q1.nx m).dyn + 1, fr := q1.a + 1 }) := by
              show spP t.data.toList first q1 = _
              rw [unhide HP1, if_pos h42]
            have HT2 := hide (isB_true h42)
            have hlt42 := lt_of_at h42
            clear h42
            rw [unhide HT2]
            go_wp2_with fail
            refine (star_any g t b q1.nx first m _ (unhide HI8).rd (by omega) (by omega) (by omega) (by omega) (by omega) (by omega)).mono ?_
            rintro e W9 ⟨rfl, hB9, hg9⟩
            have hI9 := (unhide HI8).step hB9 hg9
            clear hB9 hg9 HI8
            have HI9 := hide hI9
            clear hI9
            have d11 : World.cell? W9 ⟨o, 11, none⟩ = some (.int .i64 q1.pr.fix) := (unhide HI9).op.cell 11
            have d12 : World.cell? W9 ⟨o, 12, none⟩ = some (.int .i64 q1.pr.dyn) := (unhide HI9).op.cell 12
            have d13 : World.cell? W9 ⟨o, 13, none⟩ = some (.int .i64 q1.pr.idx) := (unhide HI9).op.cell 13
            have fo11 := (unhide HI9).op.frozen 11
            have fo12 := (unhide HI9).op.frozen 12
            have fo13 := (unhide HI9).op.frozen 13
            have HZ : Hid (0 ≤ (starZ first q1.nx m).dyn + 1 ∧ (starZ first q1.nx m).dyn + 1 ≤ 100000002) := star_bd (q := { q1 with n := m }) ⟨hm1, ra, r0x, r1x⟩ (by decide) hf0 hf1
            go_wp2_with fail
            go_meet
            refine ⟨{ q1 with pr := starZ first q1.nx m, n := 0, a := b + 1, nx := (starZ first q1.nx m).dyn + 1, fr := q1.a + 1 }, (by first | rfl | exact congrArg (Value.int .i64) (by simp)), rfl, unhide HS, ⟨by show 0 ≤ 999999; omega, by show b + 1 ≤ t.size; omega, (unhide HZ).1, (unhide HZ).2⟩, ?_⟩
            exact ((((unhide HI9).setOp 11 _).setOp 12 _).setOp 13 _).congr (by simp [oC])
          · have HT2 := hide (isB_false h42)
            have H42 := hide h42
            clear h42
            rw [unhide HT2]
            have HI6 := HI8
            clear HI8
            go_upto_region 31 with fail
            go_cut [165] (fun sd wx => sd = .bool (isDat t.data.toList b) ∧ ∃ n, wx = World.drewN W8 n)
            case first => as_aux_lemma =>
              have c0 : World.cell? W8 ⟨g, 0, none⟩ = some (.string t) := (unhide HI6).rd.cell 0
              have c1 : World.cell? W8 ⟨g, 1, none⟩ = some (.int .i64 b) := (unhide HI6).rd.cell 1
              clear HI6
              by_cases hlt : b < t.size
              · have hi0 : (0 : Int) ≤ (b : Int) := by omega
                have hi1 : (b : Int) < (t.size : Int) := by omega
                have hd : decide (b < t.size) = true := decide_eq_true hlt
                have HDE := hide (isDat_eq t b hlt)
                by_cases h48 : 48 ≤ t[b].toNat
                · have d48 : decide ((t[b].toNat : Int) ≥ 48) = true := decide_eq_true (by omega)
                  have e48 : decide (48 ≤ (t[b].toNat : Int)) = true := decide_eq_true (by omega)
                  have g48 : decide (48 ≤ t[b].toNat) = true := decide_eq_true (by omega)
                  by_cases h57 : t[b].toNat ≤ 57
                  · have d57 : decide ((t[b].toNat : Int) ≤ 57) = true := decide_eq_true (by omega)
                    have g57 : decide (t[b].toNat ≤ 57) = true := decide_eq_true (by omega)
                    have HV : Hid (isD t[b] = true) := by
                      show isD _ = true
                      simp [isD, h48, h57]
                    try simp only [List.append]
                    go_quiet (fail)
                    go_wp2_with fail
                    go_meet
                    exact ⟨congrArg Value.bool (by rw [unhide HDE, unhide HV]), _, rfl⟩
                  · have d57 : decide ((t[b].toNat : Int) ≤ 57) = false := decide_eq_false (by omega)
                    have g57 : decide (t[b].toNat ≤ 57) = false := decide_eq_false (by omega)
                    have HV : Hid (isD t[b] = false) := by
                      show isD _ = false
                      simp [isD, h57]
                    try simp only [List.append]
                    go_quiet (fail)
                    go_wp2_with fail
                    go_meet
                    exact ⟨congrArg Value.bool (by rw [unhide HDE, unhide HV]), _, rfl⟩
                · have d48 : decide ((t[b].toNat : Int) ≥ 48) = false := decide_eq_false (by omega)
                  have e48 : decide (48 ≤ (t[b].toNat : Int)) = false := decide_eq_false (by omega)
                  have g48 : decide (48 ≤ t[b].toNat) = false := decide_eq_false (by omega)
                  have HV : Hid (isD t[b] = false) := by
                    show isD _ = false
                    simp [isD, h48]
                  try simp only [List.append]
                  go_quiet (fail)
                  go_wp2_with fail
                  go_meet
                  exact ⟨congrArg Value.bool (by rw [unhide HDE, unhide HV]), _, rfl⟩
              · have hd : decide (b < t.size) = false := decide_eq_false hlt
                have HDE : Hid (isDat t.data.toList b = false) := isDat_lt (by rw [← unhide HL]; omega)
                try simp only [List.append]
                go_quiet (fail)
                go_wp2_with fail
                go_meet
                exact ⟨congrArg Value.bool (by rw [unhide HDE]), _, rfl⟩
            case rest => as_aux_lemma =>
              obtain ⟨rfl, n10, rfl⟩ := hcut
              have HI10 : Hid (OI w g o t first b q1.nx (oC ⟨#[]⟩ fl st 0 0 0 0 0 q1.wd q1.pr) (W8.drewN n10)) := (unhide HI6).drewN n10
              clear HI6
              generalize W8.drewN n10 = W10 at HI10 ⊢
              cases hdt : isDat t.data.toList b with
              | false => as_aux_lemma =>
                have HS : Hid (spOp t.data.toList first st nx = .opn) := by
                  show spOp t.data.toList first st nx = _
                  rw [unhide HSP1, unhide HP1, if_neg (unhide H42), if_neg (by rw [hdt]; decide)]
                  rfl
                clear hdt
                go_upto_region 27 with fail
                refine wgen (fun W => OI w g o t first b q1.nx (soC ⟨⟨#[]⟩, st, 0, fl, 0, 0, 0, 0, q1.wd, q1.pr⟩) W) ?_ ?_
                · exact unhide HI10
                intro W5 hW5
                obtain ⟨Ls, hR5⟩ := ret_pack hW5
                have HR5 := hide hR5
                clear hW5 hR5
                go_wp2_with (first | (refine wpList_load_mid rfl 26 (.tmp 2) rfl o 0 rfl Ls _ (unhide HR5).rg Tryd.underlying26 rfl (unhide HR5).i1 ?_) | (refine wpList_store_mid rfl 26 (.tmp 2) _ rfl o 0 Ls.toArray rfl rfl (unhide HR5).th (unhide HR5).i2 (unhide HR5).oc ?_))
                refine bodyPost_ret (v := .tuple #[.agg (soC ⟨⟨#[]⟩, st, 0, fl, 0, 0, 0, 0, q1.wd, q1.pr⟩), .int .i64 2]) (results_blk2 Tryd.results20 _ _ _ o _ _ _ rfl rfl (unhide HR5).af.op Tryd.underlying26 rfl (unhide HR5).i3) rfl ?_
                rw [unhide HS]
                exact ⟨⟨⟨#[]⟩, st, 0, fl, 0, 0, 0, 0, q1.wd, q1.pr⟩, _, _, rfl, (unhide HR5).af.rd, (unhide HR5).af.gr⟩
              | true => as_aux_lemma =>
                by_cases hn2 : 0 < m
                · have hdn2 : decide ((m : Int) > 0) = true := decide_eq_true (by omega)
                  have HS : Hid (spOp t.data.toList first st nx = .opn) := by
                    show spOp t.data.toList first st nx = _
                    rw [unhide HSP1, unhide HP1, if_neg (unhide H42), if_pos hdt, if_pos hn2]
                    rfl
                  clear hdt
                  go_upto_region 33 with fail
                  refine wgen (fun W => OI w g o t first b q1.nx (soC ⟨⟨#[]⟩, st, 0, fl, 0, 0, 0, 0, q1.wd, q1.pr⟩) W) ?_ ?_
                  · exact unhide HI10
                  intro W5 hW5
                  obtain ⟨Ls, hR5⟩ := ret_pack hW5
                  have HR5 := hide hR5
                  clear hW5 hR5
                  go_wp2_with (first | (refine wpList_load_mid rfl 26 (.tmp 2) rfl o 0 rfl Ls _ (unhide HR5).rg Tryd.underlying26 rfl (unhide HR5).i1 ?_) | (refine wpList_store_mid rfl 26 (.tmp 2) _ rfl o 0 Ls.toArray rfl rfl (unhide HR5).th (unhide HR5).i2 (unhide HR5).oc ?_))
                  refine bodyPost_ret (v := .tuple #[.agg (soC ⟨⟨#[]⟩, st, 0, fl, 0, 0, 0, 0, q1.wd, q1.pr⟩), .int .i64 2]) (results_blk2 Tryd.results20 _ _ _ o _ _ _ rfl rfl (unhide HR5).af.op Tryd.underlying26 rfl (unhide HR5).i3) rfl ?_
                  rw [unhide HS]
                  exact ⟨⟨⟨#[]⟩, st, 0, fl, 0, 0, 0, 0, q1.wd, q1.pr⟩, _, _, rfl, (unhide HR5).af.rd, (unhide HR5).af.gr⟩
                · have hm0 : m = 0 := by omega
                  subst hm0
                  have hrun := isDat_run hdt
                  have HW0 : Hid (spP t.data.toList first q1 = (spDig t.data.toList b).bind fun y => .good { q1 with pr := ⟨y.1, -1, -1⟩, n := 0, a := y.2, fr := q1.a + 1 }) := by
                    show spP t.data.toList first q1 = _
                    rw [unhide HP1, if_neg (unhide H42), if_pos hdt, if_neg (by omega)]
                  clear hdt
                  go_wp2_with fail
                  refine (dig_any g t b q1.nx first _ (unhide HI10).rd hs (by omega)).mono ?_
                  cases hdg : spDig t.data.toList b with
                  | bad => exact absurd (spDig_bad hdg) (by omega)
                  | opn => as_aux_lemma =>
                    rintro e W11 ⟨rfl, b11, hB11, hg11⟩
                    have HS : Hid (spOp t.data.toList first st nx = .opn) := by
                      show spOp t.data.toList first st nx = _
                      rw [unhide HSP1, unhide HW0, hdg]
                      rfl
                    have hI11 := (unhide HI10).step hB11 hg11
                    clear hB11 hg11 HI10 hdg
                    have HI11 := hide hI11
                    clear hI11
                    have d11 : World.cell? W11 ⟨o, 11, none⟩ = some (.int .i64 q1.pr.fix) := (unhide HI11).op.cell 11
                    have fo11 := (unhide HI11).op.frozen 11
                    go_upto_region 36 with fail
                    refine wgen (fun W => OI w g o t first b11 q1.nx (soC ⟨⟨#[]⟩, st, 0, fl, 0, 0, 0, 0, q1.wd, ⟨0, q1.pr.dyn, q1.pr.idx⟩⟩) W) ?_ ?_
                    · exact ((unhide HI11).setOp 11 _).congr (by simp [oC, soC])
                    intro W5 hW5
                    obtain ⟨Ls, hR5⟩ := ret_pack hW5
                    have HR5 := hide hR5
                    clear hW5 hR5
                    go_wp2_with (first | (refine wpList_load_mid rfl 26 (.tmp 2) rfl o 0 rfl Ls _ (unhide HR5).rg Tryd.underlying26 rfl (unhide HR5).i1 ?_) | (refine wpList_store_mid rfl 26 (.tmp 2) _ rfl o 0 Ls.toArray rfl rfl (unhide HR5).th (unhide HR5).i2 (unhide HR5).oc ?_))
                    refine bodyPost_ret (v := .tuple #[.agg (soC ⟨⟨#[]⟩, st, 0, fl, 0, 0, 0, 0, q1.wd, ⟨0, q1.pr.dyn, q1.pr.idx⟩⟩), .int .i64 2]) (results_blk2 Tryd.results20 _ _ _ o _ _ _ rfl rfl (unhide HR5).af.op Tryd.underlying26 rfl (unhide HR5).i3) rfl ?_
                    rw [unhide HS]
                    exact ⟨⟨⟨#[]⟩, st, 0, fl, 0, 0, 0, 0, q1.wd, ⟨0, q1.pr.dyn, q1.pr.idx⟩⟩, _, _, rfl, (unhide HR5).af.rd, (unhide HR5).af.gr⟩
                  | good y => as_aux_lemma =>
                    rintro e W11 ⟨rfl, hB11, hg11⟩
                    have HS : Hid (spP t.data.toList first q1 = .good { q1 with pr := ⟨y.1, -1, -1⟩, n := 0, a := y.2, fr := q1.a + 1 }) := by
                      show spP t.data.toList first q1 = _
                      rw [unhide HW0, hdg]
                      rfl
                    have hbd := spDig_bd hm2 hdg
                    have hI11 := (unhide HI10).step hB11 hg11
                    clear hB11 hg11 HI10 hdg
                    have HI11 := hide hI11
                    have HBD := hide hbd
                    clear hI11 hbd
                    have d11 : World.cell? W11 ⟨o, 11, none⟩ = some (.int .i64 q1.pr.fix) := (unhide HI11).op.cell 11
                    have fo11 := (unhide HI11).op.frozen 11
                    go_wp2_with fail
                    go_meet
                    refine ⟨{ q1 with pr := ⟨y.1, -1, -1⟩, n := 0, a := y.2, fr := q1.a + 1 }, (by first | rfl | exact congrArg (Value.int .i64) (by simp)), rfl, unhide HS, ⟨by show 0 ≤ 999999; omega, (unhide HBD).2, r0x, by show q1.nx ≤ _; omega⟩, ?_⟩
                    exact ((unhide HI11).setOp 11 _).congr (by simp [oC, (unhide HPR).1, Z3.no])
    · have HT := hide (isB_false h46)
      have HS : Hid (spP t.data.toList first q1 = .good q1) := by
        show spP t.data.toList first q1 = _
        unfold spP
        rw [if_neg h46]
      clear h46
      rw [unhide HT]
      go_wp2_with fail
      go_meet
      exact ⟨q1, rfl, rfl, unhide HS, ⟨rn, ra, r0x, by omega⟩, unhide HI4⟩
  case rest => as_aux_lemma =>
    obtain ⟨q2, rfl, rfl, hq2⟩ := hcut
    obtain ⟨hsp, hQ2, hI⟩ := hq2
    have HSP2 : Hid (spOp t.data.toList first st nx = (spL t.data.toList q2).bind fun s3 => spV t.data.toList first st fl s3) := by
      show spOp t.data.toList first st nx = _
      rw [unhide HSP1, hsp, R3.bind_good]
    have sn := hQ2.n
    have sa := hQ2.a
    have s0x := hQ2.x0
    have s1x := hQ2.x1
    have HI := hide hI
    have HQ2 := hide hQ2
    go_step
    exact h7 _ _ _ _ _ _ _ _ _ _ _ _ _ _ _ _ _ _ _ _ _ _ _ _ _ _ _ _ _ _ _ _ _ _ _ _ _ _ _ _ _ _ _ _ _ _ _ _ _ _ _ _ _ _ _ _ _ _ _ _ _ _ _ _ _ _ _ _ _ _ _ _ _ _ _ _ _ _ _ _ _ _ _ _ _ _ _ _ _ _ _ _ _ _ _ _ _ _ _ _ _ _ _ _ _ _ _ _ _ _ _ _ _ _ _ _ _ _ _ _ _ _ _ _ _ _ _ _ _ _ _ _ _ _ _ _ _ _ _ _ _ _ _ _ _ _ _ _ _ _ _ _ _ _ _ _ _ _ _ _ _ _ _ _ _ _ _ _ _ _ _ _ _ _ _ _ _ _ _ _ _ _ _ _ _ _ _ _ _ _ _ _ _ _ _ _ _ _ _ _ _ _ _ _ _ _ _ _ _ _ _ _ _ _ _ _ _ _ _ _ _ _ _ _ _ _ _ _ _ _ _ _ _ _ _ _ _ _ _ _ _ _ _ _ _ _ _ _ _ _ _ _ _ _ _ _ _ _ _ _ _ _ _ _ _ _ _ _ _ _ _ _ _ _ _ _ _ _ _ _ _ _ _ _ _ _ _ _ _ _ _ _ _ _ _ _ _ _ _ _ _ _ _ _ _ _ _ _ _ _ _ _ _ _ _ _ _ _ _ _ _ _ _ _ _ _ _ _ _ _ _ _ _ _ _ _ _ _ _ _ _ _ _ _ _ _ _ _ _ g o t fl st nx first w _ q2 hs hst hf0 hf1 hG hg4 HL HSP2 HQ2 (hide (Nat.le_trans (unhide HPR).2 (spP_lo hsp))) HI
end Go.Proofs.YtjbmphfgckhaeaaDoor
