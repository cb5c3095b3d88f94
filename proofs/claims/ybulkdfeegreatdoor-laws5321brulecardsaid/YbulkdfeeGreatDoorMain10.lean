import Derived.Test.YbulkdfeeGreatDoorMain9
namespace Go.Proofs.YbulkdfeeGreatDoor
open Go.ChangeShapes Go.WideShapes Go.ChangeAt Go.RowKit
set_option linter.unusedVariables false
set_option linter.unusedSimpArgs false

set_option maxHeartbeats 20000000 in
set_option maxRecDepth 100000 in
theorem part_group : st9.A := by
    intro s0 h0 ia ic its xa xc xs W HI HX HBB HM HXB nx hx HNX _ _ _ _ u8 u48 u49 u50 u51 u52 u53 u54 u55 HRD q _ _ u60 u61 u62 u63 u64 u65 u66 u67 u68 u69 u70 u71 u72 _ _ u12 u13 u15 u76 u77 u78 u79 u80 u81 u82 u83 u84 u85 u86 u87 u88 u89 u90 u91 u92 u93 u94 u95 u96 u97 u98 u99 u100 u101 u102 u103 u104 u105 u106 u107 u108 u109 u110 u111 u112 u113 u114 u115 u116 u117 u118 u119 u120 u121 u122 u123 u124 u125 u126 u127 u128 u129 u130 u131 u132 u133 u134 u135 u136 u137 u138 u139 u140 u141 u142 u143 u144 u145 u146 u147 u148 u149 u150 u151 u152 fs fw t ok b1 b2 b3 b4 hn HN _ _ _ hT1 hT2 hTz hTn L HL HLU HLL HLr hlen wT BW AT _ _ _ _ _ u17 u159 u160 u161 u162 u163 u164 u165 u166 u167 u168 u169 u170 u171 u172 u173 u174 R HRm HRl ra rc _ _ _ _ wc u20 u177 u178 u179 u180 u181 u182 u183 u184 u185 u186 u187 u188 u189 u190 u191 u192 u193 u194 u195 cs hcl HCS ca cc gr go gb gi gs F HF _ _ u23 u24 u25 u244 u245 u246 u247 u248 u249 u250 u251 u252 u253 u254 u255 u256 u257 u258 u259 u260 u261 u262 u263 u264 u265 u266 u267 u268 u269 u270 u271 u272 u273 u274 u275 u276 u277 u278 u279 u280 u281 u282 u283 u284 u285 hi hil _ _ _ _ u27 u29 u286 u287 u288 u289 u290 u291 u292 u293 u294 u295 u296 u297 u298 u299 u300 u301 u302 u303 u304 u305 u306 u307 u308 u309 u310 u311 u312 u313 u314 u315 u316 CA _ _ hs _ HKT m HMm hml h0T hTT _ _ _ nq wY AY FSY FIY RY BWY _ _ wr u6 u32 u33 u34 u35 u36 u346 u347 u348 u349 u350 u351 u352 u353 u354 u355 u356 u357 u358 u359 u360 u361 u362 u363 u364 u365 u366 u367 u368 u369 u370 u371 u372 u373 u374 u375 u376 u377 u378 u379 u380 u381 u382 u383 u384 u385 u386 u387 u388 u389 u390 u391 u392 u393 u394 u395 u396 u397 u398 u399 u400 u401 u402 u403 u404 u405 u406 u407 u408 u409 u410 u411 u412 u413 u414 u415 u416 u417 u418 u419 u420 u421 s hs2 B6 hsl
    have hsl' : (s : Int) < (t.T : Int) := by omega
    have p1 : wr.cell? ⟨gs, s, none⟩ = some (.int .i64 (pre (keys L) s : Int)) := (FB.below FSY.out B6.out FSY.out.lt).cell (by omega)
    have p2 : wr.cell? ⟨gs, s + 1, none⟩ = some (.int .i64 (pre (keys L) (s + 1) : Int)) := (FB.below FSY.out B6.out FSY.out.lt).cell (by omega)
    have hs1 : (s : Int) < ((t.T + 1 : Nat) : Int) := by omega
    have hs3 : (s : Int) + 1 < ((t.T + 1 : Nat) : Int) := by omega
    go_upto_region 76 with fail
    go_quiet (fail)
    have B7 : Hid (Below wY.heap.size wY (wr.drewN nq)) := B6.out.trans ((below_drewN wr nq).mono B6.out.size)
    generalize wr.drewN nq = w5 at B7 ⊢
    clear p1 p2 B6
    obtain ⟨a, ha⟩ : ∃ a, a = pre (keys L) s := ⟨_, rfl⟩
    obtain ⟨b, hb⟩ : ∃ b, b = pre (keys L) (s + 1) := ⟨_, rfl⟩
    rw [← ha, ← hb]
    have hab : a ≤ b := by rw [ha, hb]; exact pre_mono (by omega)
    have hbm : b ≤ m := by rw [hb, HMm.out]; exact pre_le _ _
    have HA : Hid (a = pre (keys L) s) := ha
    have hcnt : L.count (s : Int) = b - a := by rw [ha, hb, pre_succ, count_keys]; omega
    have HCnt : Hid _ := hcnt
    clear ha hb hcnt
    have q1 : w5.cell? ⟨gr, 1, none⟩ = some (.slice (some ⟨gi, 0, none⟩) m m) := (RY.out.below B7.out RY.out.lt).cell rfl
    have n1 : ¬ (a : Int) < 0 := by omega
    have n2 : ¬ (b : Int) < (a : Int) := by omega
    have n3 : ¬ (m : Int) < (b : Int) := by omega
    go_upto_region 80 with fail
    have HGot : Hid (∀ p, a + p < b → ∃ g o, (if m = a then some (⟨gi, 0, none⟩ : Addr) else some ⟨gi, a, none⟩) = some ⟨g, o, none⟩ ∧ ∀ wq, Below wY.heap.size wY wq → wq.cell? ⟨g, o + p, none⟩ = some (.int .i64 (F (a + p)))) := fun p hp => by
      rw [if_neg (by omega)]
      exact ⟨gi, a, rfl, fun wq hq => (FB.below FIY.out hq FIY.out.lt).cell (by omega)⟩
    generalize (if m = a then some (⟨gi, 0, none⟩ : Addr) else some ⟨gi, a, none⟩) = got at HGot ⊢
    obtain ⟨d, hd⟩ : ∃ d, d = b - a := ⟨_, rfl⟩
    rw [← hd]
    have HD : Hid (L.count (s : Int) = d) := by rw [hd]; exact HCnt.out
    have HDb : Hid (b = a + d) := by show b = a + d; omega
    have hd2 : d ≤ 77100 := by omega
    have kt5 : w5.cell? ⟨t.gt, 0, none⟩ = some (.slice t.ua t.U.length t.uc) := (AY.out.below B7.out).row.cell rfl
    clear hd n1 n2 n3 q1 hab hbm HCnt
    go_wp2_with fail
    clear kt5
    go_loopw [35, 36, 390] (fun v35 v36 v390 wq => ∃ (j kk : Nat), j ≤ t.U.length ∧ v390 = .int .i64 j ∧ kk = (L.take j).count (s : Int) ∧ v35 = .int .i64 kk ∧ wq = w5) (fun _ _ v390 _ => t.U.length - (intOf v390).toNat)
    case atStart => exact ⟨0, 0, by omega, rfl, by simp, rfl, rfl⟩
    case round =>
      obtain ⟨j, kk, hj, rfl, hkk, rfl, rfl⟩ := hrel
      have HKK : Hid (kk = (L.take j).count (s : Int)) := hkk
      clear hkk
      by_cases hjl : j < t.U.length
      · have hjl' : (j : Int) < (t.U.length : Int) := by omega
        obtain ⟨u, hu⟩ : ∃ u, t.U[j]? = some u := ⟨t.U[j], List.getElem?_eq_getElem hjl⟩
        obtain ⟨g, o, hua, hg, hr⟩ := (AY.out.below B7.out).uses j u hu
        have HLj : Hid (L[j]? = some u.r) := HLU.out j u hu
        have kt0 : wr.cell? ⟨t.gt, 0, none⟩ = some (.slice (some ⟨g, o, none⟩) t.U.length t.uc) := by rw [← hua]; exact (AY.out.below B7.out).row.cell rfl
        have kr : wr.cell? ⟨g, o + j * 7 + 6, none⟩ = some (.int .i64 u.r) := hr 6 _ rfl
        obtain ⟨rr, hrr⟩ : ∃ rr, u.r = rr := ⟨_, rfl⟩
        rw [hrr] at HLj kr
        clear hu hua hg hr hrr
        by_cases e1 : rr = (s : Int)
        · subst e1
          have hk1 : kk < d := by rw [HKK.out, ← HD.out]; exact count_take_int HLj.out
          obtain ⟨g2, o2, rfl, hcell⟩ := HGot.out kk (by have := HDb.out; omega)
          have kg : wr.cell? ⟨g2, o2 + kk, none⟩ = some (.int .i64 (j : Int)) := by
            rw [hcell wr B7.out]
            have h1 := HF.out _ _ (idx_at HLj.out (by omega))
            rw [pos_at HLj.out, ← HKK.out, ← HA.out] at h1
            rw [h1]
          have hk2 : decide ((d : Int) ≤ (kk : Int)) = false := decide_eq_false (by omega)
          have hk3 : (kk : Int) < (d : Int) := by omega
          have HK2 : Hid (kk + 1 = (L.take (j + 1)).count (s : Int)) := by
            show kk + 1 = (L.take (j + 1)).count (s : Int)
            rw [take_succ' HLj.out, List.count_append, ← HKK.out]; simp
          clear hcell
          go_wp2_with fail
          go_roundw
          case rel => exact ⟨j + 1, kk + 1, by omega, by simp, HK2.out, by simp, by first | rfl | trivial⟩
          case measure => simp [intOf]; omega
        · have e1' : (rr == (s : Int)) = false := by simpa using e1
          have HK2 : Hid (kk = (L.take (j + 1)).count (s : Int)) := by
            show kk = (L.take (j + 1)).count (s : Int)
            rw [take_succ' HLj.out, List.count_append, ← HKK.out]
            simp [List.count_cons, e1]
          go_wp2_with fail
          go_roundw
          case rel => exact ⟨j + 1, kk, by omega, by simp, HK2.out, rfl, by first | rfl | trivial⟩
          case measure => simp [intOf]; omega
      · obtain rfl : j = t.U.length := by omega
        have hkd : kk = d := by rw [HKK.out, ← HLL.out, List.take_length]; exact HD.out
        subst hkd
        go_wp2_with fail
        go_roundw
        case rel => exact ⟨s + 1, by omega, by simp, B7.out⟩
        case measure => simp [intOf]; omega

set_option maxHeartbeats 20000000 in
set_option maxRecDepth 100000 in
theorem part_end : st9.B := by
    intro s0 h0 ia ic its xa xc xs W HI HX HBB HM HXB nx hx HNX _ _ _ _ u8 u48 u49 u50 u51 u52 u53 u54 u55 HRD q _ _ u60 u61 u62 u63 u64 u65 u66 u67 u68 u69 u70 u71 u72 _ _ u12 u13 u15 u76 u77 u78 u79 u80 u81 u82 u83 u84 u85 u86 u87 u88 u89 u90 u91 u92 u93 u94 u95 u96 u97 u98 u99 u100 u101 u102 u103 u104 u105 u106 u107 u108 u109 u110 u111 u112 u113 u114 u115 u116 u117 u118 u119 u120 u121 u122 u123 u124 u125 u126 u127 u128 u129 u130 u131 u132 u133 u134 u135 u136 u137 u138 u139 u140 u141 u142 u143 u144 u145 u146 u147 u148 u149 u150 u151 u152 fs fw t ok b1 b2 b3 b4 hn HN _ _ _ hT1 hT2 hTz hTn L HL HLU HLL HLr hlen wT BW AT _ _ _ _ _ u17 u159 u160 u161 u162 u163 u164 u165 u166 u167 u168 u169 u170 u171 u172 u173 u174 R HRm HRl ra rc _ _ _ _ wc u20 u177 u178 u179 u180 u181 u182 u183 u184 u185 u186 u187 u188 u189 u190 u191 u192 u193 u194 u195 cs hcl HCS ca cc gr go gb gi gs F HF _ _ u23 u24 u25 u244 u245 u246 u247 u248 u249 u250 u251 u252 u253 u254 u255 u256 u257 u258 u259 u260 u261 u262 u263 u264 u265 u266 u267 u268 u269 u270 u271 u272 u273 u274 u275 u276 u277 u278 u279 u280 u281 u282 u283 u284 u285 hi hil _ _ _ _ u27 u29 u286 u287 u288 u289 u290 u291 u292 u293 u294 u295 u296 u297 u298 u299 u300 u301 u302 u303 u304 u305 u306 u307 u308 u309 u310 u311 u312 u313 u314 u315 u316 CA _ _ hs _ HKT m HMm hml h0T hTT _ _ _ nq wY AY FSY FIY RY BWY _ _ wr u6 u32 u33 u34 u35 u36 u346 u347 u348 u349 u350 u351 u352 u353 u354 u355 u356 u357 u358 u359 u360 u361 u362 u363 u364 u365 u366 u367 u368 u369 u370 u371 u372 u373 u374 u375 u376 u377 u378 u379 u380 u381 u382 u383 u384 u385 u386 u387 u388 u389 u390 u391 u392 u393 u394 u395 u396 u397 u398 u399 u400 u401 u402 u403 u404 u405 u406 u407 u408 u409 u410 u411 u412 u413 u414 u415 u416 u417 u418 u419 u420 u421 s hs2 B6 hsl
    obtain rfl : s = t.T := by omega
    go_wp2_with fail
    go_ret
    exact ⟨rfl, BWY.out.trans (B6.out.mono BWY.out.size)⟩

end Go.Proofs.YbulkdfeeGreatDoor
