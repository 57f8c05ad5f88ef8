/-
  The reference's op, a part of its walk (Sop5). No condition. Printed by gen_sop.py.
-/
import Derived.Test.YtjbmphfgckhaeaaDoorGb
namespace Go.Proofs.YtjbmphfgckhaeaaDoor
open Go.RowKit

set_option maxRecDepth 100000 in
set_option maxHeartbeats 51200000 in
theorem sop5 (h6 : Sop6) : Sop5 := by
  intro u1 u3 u6 u7 u8 u9 u10 u11 u12 u13 u14 u15 u16 u17 u18 u19 u20 u21 u22 u23 u24 u25 u26 u27 u28 u29 u30 u31 u32 u33 u34 u35 u36 u37 u38 u39 u40 u41 u42 u43 u44 u45 u46 u47 u48 u49 u50 u51 u52 u53 u54 u55 u56 u57 u58 u59 u60 u61 u62 u63 u64 u65 u66 u67 u68 u69 u70 u71 u72 u73 u74 u75 u76 u77 u78 u79 u80 u81 u82 u83 u84 u85 u86 u87 u88 u89 u90 u91 u92 u93 u94 u95 u96 u97 u98 u99 u100 u101 u102 u103 u104 u105 u106 u107 u108 u109 u110 u111 u112 u113 u114 u115 u116 u117 u118 u119 u120 u121 u122 u123 u124 u125 u126 u127 u128 u129 u130 u131 u132 u133 u134 u135 u136 u137 u138 u139 u140 u141 u142 u143 u144 u145 u146 u147 u148 u149 u150 u151 u152 u153 u154 u155 u156 u157 u158 u159 u160 u161 u162 u163 u164 u165 u166 u167 u168 u169 u170 u171 u172 u173 u174 u175 u176 u177 u178 u179 u180 u181 u182 u183 u184 u185 u186 u187 u188 u189 u190 u191 u192 u193 u194 u195 u196 u197 u198 u199 u200 u201 u202 u203 u204 u205 u206 u207 u208 u209 u210 u211 u212 u213 u214 u215 u216 u217 u218 u219 u220 u221 u222 u223 u224 u225 u226 u227 u228 u229 u230 u231 u232 u233 u234 u235 u236 u237 u238 u239 u240 u241 u242 u243 u244 u245 u246 u247 u248 u249 u250 u251 u252 u253 u254 u255 u256 u257 u258 u259 u260 u261 u262 u263 u264 u265 u266 u267 u268 u269 u270 u271 u272 u273 u274 u275 u276 u277 u278 u279 u280 u281 u282 u283 u284 u285 u286 u287 u288 u289 u290 u291 u292 u293 u294 u295 u296 u297 u298 u299 u300 u301 u302 u303 u304 u305 u306 u307 u308 u309 u310 u311 u312 u313 u314 u315 u316 u317 u318 u319 u320 u321 u322 u323 u324 u325 u326 u327 u328 u329 u330 u331 u332 u333 u334 u335 u336 u337 u338 u339 u340 u341 u342 u343 u344 u345 u346 u347 u348 u349 u350 u351 u352 g o t fl st nx first w W3 q0 hs hst hf0 hf1 hG hg4 HL HSP HQ0 HEX HI
  conv => arg 2; whnf
  have HWD := HEX
  have qn := (unhide HQ0).n
  have qa := (unhide HQ0).a
  have q0x := (unhide HQ0).x0
  have q1x := (unhide HQ0).x1
  go_wp2_with fail
  refine (is_any g t q0.a q0.nx first 42 42 rfl _ (unhide HI).rd).mono ?_
  rintro e W4 ⟨rfl, n4, rfl⟩
  have HI4 : Hid (OI w g o t first q0.a q0.nx (oC ⟨#[]⟩ fl st 0 0 0 0 0 q0.wd q0.pr) (W3.drewN n4)) := (unhide HI).drewN n4
  clear HI
  generalize W3.drewN n4 = W5 at HI4 ⊢
  go_upto_if 79 with fail
  go_cut [5] (fun s5 wx => ∃ q : SS, s5 = .int .i64 q.n ∧ q.fr = q0.fr ∧ Hid (q.pr = Z3.no ∧ spW t.data.toList first q0 = .good q ∧ QB t q 100000001 ∧ OI w g o t first q.a q.nx (oC ⟨#[]⟩ fl st 0 0 0 0 0 q.wd q.pr) wx))
  case first => as_aux_lemma =>
    by_cases h42 : t.data.toList[q0.a]? = some 42
    · have HS : Hid (spW t.data.toList first q0 = .good { q0 with wd := starZ first q0.nx q0.n, n := 0, a := q0.a + 1, nx := (starZ first q0.nx q0.n).dyn + 1 }) := by
        show spW t.data.toList first q0 = _
        unfold spW
        rw [if_pos h42]
      have HT := hide (isB_true h42)
      have hlt42 := lt_of_at h42
      clear h42
      rw [unhide HT]
      go_wp2_with fail
      refine (star_any g t q0.a q0.nx first q0.n _ (unhide HI4).rd (by omega) (by omega) (by omega) (by omega) (by omega) (by omega)).mono ?_
      rintro e W6 ⟨rfl, hB6, hg6⟩
      have hI6 := (unhide HI4).step hB6 hg6
      clear hB6 hg6 HI4
      have HI6 := hide hI6
      clear hI6
      have d8 : World.cell? W6 ⟨o, 8, none⟩ = some (.int .i64 q0.wd.fix) := (unhide HI6).op.cell 8
      have d9 : World.cell? W6 ⟨o, 9, none⟩ = some (.int .i64 q0.wd.dyn) := (unhide HI6).op.cell 9
      have d10 : World.cell? W6 ⟨o, 10, none⟩ = some (.int .i64 q0.wd.idx) := (unhide HI6).op.cell 10
      have fo8 := (unhide HI6).op.frozen 8
      have fo9 := (unhide HI6).op.frozen 9
      have fo10 := (unhide HI6).op.frozen 10
      have HZ := hide (star_bd (unhide HQ0) (by decide) hf0 hf1)
      go_wp2_with fail
      go_meet
      refine ⟨{ q0 with wd := starZ first q0.nx q0.n, n := 0, a := q0.a + 1, nx := (starZ first q0.nx q0.n).dyn + 1 }, rfl, rfl, (unhide HWD).2.1, unhide HS, ⟨by show 0 ≤ 999999; omega, by show q0.a + 1 ≤ t.size; omega, (unhide HZ).1, (unhide HZ).2⟩, ?_⟩
      exact ((((unhide HI6).setOp 8 _).setOp 9 _).setOp 10 _).congr (by simp [oC])
    · have HT := hide (isB_false h42)
      have H42 := hide h42
      clear h42
      rw [unhide HT]
      have HI6 := HI4
      clear HI4
      go_upto_region 13 with fail
      go_cut [117] (fun sd wx => sd = .bool (isDat t.data.toList q0.a) ∧ ∃ n, wx = World.drewN W5 n)
      case first => as_aux_lemma =>
        have c0 : World.cell? W5 ⟨g, 0, none⟩ = some (.string t) := (unhide HI6).rd.cell 0
        have c1 : World.cell? W5 ⟨g, 1, none⟩ = some (.int .i64 q0.a) := (unhide HI6).rd.cell 1
        clear HI6
        by_cases hlt : q0.a < t.size
        · have hi0 : (0 : Int) ≤ (q0.a : Int) := by omega
          have hi1 : (q0.a : Int) < (t.size : Int) := by omega
          have hd : decide (q0.a < t.size) = true := decide_eq_true hlt
          have HDE := hide (isDat_eq t q0.a hlt)
          by_cases h48 : 48 ≤ t[q0.a].toNat
          · have d48 : decide ((t[q0.a].toNat : Int) ≥ 48) = true := decide_eq_true (by omega)
            have e48 : decide (48 ≤ (t[q0.a].toNat : Int)) = true := decide_eq_true (by omega)
            have g48 : decide (48 ≤ t[q0.a].toNat) = true := decide_eq_true (by omega)
            by_cases h57 : t[q0.a].toNat ≤ 57
            · have d57 : decide ((t[q0.a].toNat : Int) ≤ 57) = true := decide_eq_true (by omega)
              have g57 : decide (t[q0.a].toNat ≤ 57) = true := decide_eq_true (by omega)
              have HV : Hid (isD t[q0.a] = true) := by
                show isD _ = true
                simp [isD, h48, h57]
              try simp only [List.append]
              go_quiet (fail)
              go_wp2_with fail
              go_meet
              exact ⟨congrArg Value.bool (by rw [unhide HDE, unhide HV]), _, rfl⟩
            · have d57 : decide ((t[q0.a].toNat : Int) ≤ 57) = false := decide_eq_false (by omega)
              have g57 : decide (t[q0.a].toNat ≤ 57) = false := decide_eq_false (by omega)
              have HV : Hid (isD t[q0.a] = false) := by
                show isD _ = false
                simp [isD, h57]
              try simp only [List.append]
              go_quiet (fail)
              go_wp2_with fail
              go_meet
              exact ⟨congrArg Value.bool (by rw [unhide HDE, unhide HV]), _, rfl⟩
          · have d48 : decide ((t[q0.a].toNat : Int) ≥ 48) = false := decide_eq_false (by omega)
            have e48 : decide (48 ≤ (t[q0.a].toNat : Int)) = false := decide_eq_false (by omega)
            have g48 : decide (48 ≤ t[q0.a].toNat) = false := decide_eq_false (by omega)
            have HV : Hid (isD t[q0.a] = false) := by
              show isD _ = false
              simp [isD, h48]
            try simp only [List.append]
            go_quiet (fail)
            go_wp2_with fail
            go_meet
            exact ⟨congrArg Value.bool (by rw [unhide HDE, unhide HV]), _, rfl⟩
        · have hd : decide (q0.a < t.size) = false := decide_eq_false hlt
          have HDE : Hid (isDat t.data.toList q0.a = false) := isDat_lt (by rw [← unhide HL]; omega)
          try simp only [List.append]
          go_quiet (fail)
          go_wp2_with fail
          go_meet
          exact ⟨congrArg Value.bool (by rw [unhide HDE]), _, rfl⟩
      case rest => as_aux_lemma =>
        obtain ⟨rfl, n7, rfl⟩ := hcut
        have HI7 : Hid (OI w g o t first q0.a q0.nx (oC ⟨#[]⟩ fl st 0 0 0 0 0 q0.wd q0.pr) (W5.drewN n7)) := (unhide HI6).drewN n7
        clear HI6
        generalize W5.drewN n7 = W7 at HI7 ⊢
        cases hdt : isDat t.data.toList q0.a with
        | false => as_aux_lemma =>
          have HS : Hid (spW t.data.toList first q0 = .good q0) := by
            show spW t.data.toList first q0 = _
            unfold spW
            rw [if_neg (unhide H42), if_neg (by rw [hdt]; decide)]
          clear hdt
          go_wp2_with fail
          go_meet
          exact ⟨q0, rfl, rfl, (unhide HWD).2.1, unhide HS, ⟨qn, qa, q0x, by omega⟩, unhide HI7⟩
        | true => as_aux_lemma =>
          by_cases hn : 0 < q0.n
          · have hdn : decide ((q0.n : Int) > 0) = true := decide_eq_true (by omega)
            have HS : Hid (spOp t.data.toList first st nx = .opn) := by
              show spOp t.data.toList first st nx = _
              rw [unhide HSP]
              unfold spW
              rw [if_neg (unhide H42), if_pos hdt, if_pos hn]
              rfl
            clear hdt
            go_upto_region 15 with fail
            refine wgen (fun W => OI w g o t first q0.a q0.nx (soC ⟨⟨#[]⟩, st, 0, fl, 0, 0, 0, 0, q0.wd, q0.pr⟩) W) ?_ ?_
            · exact unhide HI7
            intro W5 hW5
            obtain ⟨Ls, hR5⟩ := ret_pack hW5
            have HR5 := hide hR5
            clear hW5 hR5
            go_wp2_with (first | (refine wpList_load_mid rfl 26 (.tmp 2) rfl o 0 rfl Ls _ (unhide HR5).rg Tryd.underlying26 rfl (unhide HR5).i1 ?_) | (refine wpList_store_mid rfl 26 (.tmp 2) _ rfl o 0 Ls.toArray rfl rfl (unhide HR5).th (unhide HR5).i2 (unhide HR5).oc ?_))
            refine bodyPost_ret (v := .tuple #[.agg (soC ⟨⟨#[]⟩, st, 0, fl, 0, 0, 0, 0, q0.wd, q0.pr⟩), .int .i64 2]) (results_blk2 Tryd.results20 _ _ _ o _ _ _ rfl rfl (unhide HR5).af.op Tryd.underlying26 rfl (unhide HR5).i3) rfl ?_
            rw [unhide HS]
            exact ⟨⟨⟨#[]⟩, st, 0, fl, 0, 0, 0, 0, q0.wd, q0.pr⟩, _, _, rfl, (unhide HR5).af.rd, (unhide HR5).af.gr⟩
          · have hn0' : q0.n = 0 := by omega
            have hdn : decide ((q0.n : Int) > 0) = false := decide_eq_false (by omega)
            have hrun := isDat_run hdt
            have HN0 := hide hn0'
            have hz : (q0.n : Int) = 0 := by omega
            have HW0 : Hid (spW t.data.toList first q0 = (spDig t.data.toList q0.a).bind fun x => .good { q0 with wd := ⟨x.1, -1, -1⟩, a := x.2 }) := by
              show spW t.data.toList first q0 = _
              unfold spW
              rw [if_neg (unhide H42), if_pos hdt, if_neg hn]
            clear hdt hn0' hz
            go_wp2_with fail
            refine (dig_any g t q0.a q0.nx first _ (unhide HI7).rd hs (by omega)).mono ?_
            cases hdg : spDig t.data.toList q0.a with
            | bad => exact absurd (spDig_bad hdg) (by omega)
            | opn => as_aux_lemma =>
              rintro e W8 ⟨rfl, b8, hB8, hg8⟩
              have HS : Hid (spOp t.data.toList first st nx = .opn) := by
                show spOp t.data.toList first st nx = _
                rw [unhide HSP, unhide HW0, hdg]
                rfl
              have hI8 := (unhide HI7).step hB8 hg8
              clear hB8 hg8 HI7 hdg
              have HI8 := hide hI8
              clear hI8
              have d8 : World.cell? W8 ⟨o, 8, none⟩ = some (.int .i64 q0.wd.fix) := (unhide HI8).op.cell 8
              have fo8 := (unhide HI8).op.frozen 8
              go_upto_region 18 with fail
              refine wgen (fun W => OI w g o t first b8 q0.nx (soC ⟨⟨#[]⟩, st, 0, fl, 0, 0, 0, 0, ⟨0, q0.wd.dyn, q0.wd.idx⟩, q0.pr⟩) W) ?_ ?_
              · exact ((unhide HI8).setOp 8 _).congr (by simp [oC, soC])
              intro W5 hW5
              obtain ⟨Ls, hR5⟩ := ret_pack hW5
              have HR5 := hide hR5
              clear hW5 hR5
              go_wp2_with (first | (refine wpList_load_mid rfl 26 (.tmp 2) rfl o 0 rfl Ls _ (unhide HR5).rg Tryd.underlying26 rfl (unhide HR5).i1 ?_) | (refine wpList_store_mid rfl 26 (.tmp 2) _ rfl o 0 Ls.toArray rfl rfl (unhide HR5).th (unhide HR5).i2 (unhide HR5).oc ?_))
              refine bodyPost_ret (v := .tuple #[.agg (soC ⟨⟨#[]⟩, st, 0, fl, 0, 0, 0, 0, ⟨0, q0.wd.dyn, q0.wd.idx⟩, q0.pr⟩), .int .i64 2]) (results_blk2 Tryd.results20 _ _ _ o _ _ _ rfl rfl (unhide HR5).af.op Tryd.underlying26 rfl (unhide HR5).i3) rfl ?_
              rw [unhide HS]
              exact ⟨⟨⟨#[]⟩, st, 0, fl, 0, 0, 0, 0, ⟨0, q0.wd.dyn, q0.wd.idx⟩, q0.pr⟩, _, _, rfl, (unhide HR5).af.rd, (unhide HR5).af.gr⟩
            | good y => as_aux_lemma =>
              rintro e W8 ⟨rfl, hB8, hg8⟩
              have HS : Hid (spW t.data.toList first q0 = .good { q0 with wd := ⟨y.1, -1, -1⟩, a := y.2 }) := by
                show spW t.data.toList first q0 = _
                rw [unhide HW0, hdg]
                rfl
              have hbd := spDig_bd qa hdg
              have hI8 := (unhide HI7).step hB8 hg8
              clear hB8 hg8 HI7 hdg
              have HI8 := hide hI8
              have HBD := hide hbd
              clear hI8 hbd
              have d8 : World.cell? W8 ⟨o, 8, none⟩ = some (.int .i64 q0.wd.fix) := (unhide HI8).op.cell 8
              have fo8 := (unhide HI8).op.frozen 8
              go_wp2_with fail
              go_meet
              refine ⟨{ q0 with wd := ⟨y.1, -1, -1⟩, a := y.2 }, rfl, rfl, (unhide HWD).2.1, unhide HS, ⟨qn, (unhide HBD).2, q0x, by show q0.nx ≤ _; omega⟩, ?_⟩
              exact ((unhide HI8).setOp 8 _).congr (by simp [oC, (unhide HWD).1, Z3.no])
  case rest => as_aux_lemma =>
    obtain ⟨q1, rfl, hfr1, hq1⟩ := hcut
    obtain ⟨hpr1, hsw, hQ1, hI⟩ := hq1
    have HSP1 : Hid (spOp t.data.toList first st nx = (spP t.data.toList first q1).bind fun s2 => (spL t.data.toList s2).bind fun s3 => spV t.data.toList first st fl s3) := by
      show spOp t.data.toList first st nx = _
      rw [unhide HSP, hsw, R3.bind_good]
    have rn := hQ1.n
    have ra := hQ1.a
    have r0x := hQ1.x0
    have r1x := hQ1.x1
    have HQ1 := hide hQ1
    have HPR := hide (And.intro hpr1 (Nat.le_trans (unhide HWD).2.2 (spW_lo hsw)))
    have HI := hide hI
    have HFR := hide hfr1
    go_step
    rw [← hfr1]
    exact h6 _ _ _ _ _ _ _ _ _ _ _ _ _ _ _ _ _ _ _ _ _ _ _ _ _ _ _ _ _ _ _ _ _ _ _ _ _ _ _ _ _ _ _ _ _ _ _ _ _ _ _ _ _ _ _ _ _ _ _ _ _ _ _ _ _ _ _ _ _ _ _ _ _ _ _ _ _ _ _ _ _ _ _ _ _ _ _ _ _ _ _ _ _ _ _ _ _ _ _ _ _ _ _ _ _ _ _ _ _ _ _ _ _ _ _ _ _ _ _ _ _ _ _ _ _ _ _ _ _ _ _ _ _ _ _ _ _ _ _ _ _ _ _ _ _ _ _ _ _ _ _ _ _ _ _ _ _ _ _ _ _ _ _ _ _ _ _ _ _ _ _ _ _ _ _ _ _ _ _ _ _ _ _ _ _ _ _ _ _ _ _ _ _ _ _ _ _ _ _ _ _ _ _ _ _ _ _ _ _ _ _ _ _ _ _ _ _ _ _ _ _ _ _ _ _ _ _ _ _ _ _ _ _ _ _ _ _ _ _ _ _ _ _ _ _ _ _ _ _ _ _ _ _ _ _ _ _ _ _ _ _ _ _ _ _ _ _ _ _ _ _ _ _ _ _ _ _ _ _ _ _ _ _ _ _ _ _ _ _ _ _ _ _ _ _ _ _ _ _ _ _ _ _ _ _ _ _ _ _ _ _ _ _ _ _ _ _ _ _ _ _ _ _ _ _ _ _ _ _ _ _ _ _ _ _ _ _ _ _ _ _ _ _ _ _ _ _ _ _ g o t fl st nx first w _ q1 hs hst hf0 hf1 hG hg4 HL HSP1 HQ1 HPR HI
end Go.Proofs.YtjbmphfgckhaeaaDoor
