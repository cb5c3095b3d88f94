import Derived.Test.YbulkdfeeGreatDoorMain6
namespace Go.Proofs.YbulkdfeeGreatDoor
open Go.ChangeShapes Go.WideShapes Go.ChangeAt Go.RowKit
set_option linter.unusedVariables false
set_option linter.unusedSimpArgs false

set_option maxHeartbeats 20000000 in
set_option maxRecDepth 100000 in
def st9 : Cut2 (st6.E) := Cut2.mk _ _ (fun hA hB => by
    intro s0 h0 ia ic its xa xc xs W HI HX HBB HM HXB nx hx HNX _ _ _ _ u8 u48 u49 u50 u51 u52 u53 u54 u55 HRD q _ _ u60 u61 u62 u63 u64 u65 u66 u67 u68 u69 u70 u71 u72 _ _ u12 u13 u15 u76 u77 u78 u79 u80 u81 u82 u83 u84 u85 u86 u87 u88 u89 u90 u91 u92 u93 u94 u95 u96 u97 u98 u99 u100 u101 u102 u103 u104 u105 u106 u107 u108 u109 u110 u111 u112 u113 u114 u115 u116 u117 u118 u119 u120 u121 u122 u123 u124 u125 u126 u127 u128 u129 u130 u131 u132 u133 u134 u135 u136 u137 u138 u139 u140 u141 u142 u143 u144 u145 u146 u147 u148 u149 u150 u151 u152 fs fw t ok b1 b2 b3 b4 hn HN _ _ _ hT1 hT2 hTz hTn L HL HLU HLL HLr hlen wT BW AT _ _ _ _ _ u17 u159 u160 u161 u162 u163 u164 u165 u166 u167 u168 u169 u170 u171 u172 u173 u174 R HRm HRl ra rc _ _ _ _ wc u20 u177 u178 u179 u180 u181 u182 u183 u184 u185 u186 u187 u188 u189 u190 u191 u192 u193 u194 u195 cs hcl HCS ca cc gr go gb gi gs F HF _ _ u23 u24 u25 u244 u245 u246 u247 u248 u249 u250 u251 u252 u253 u254 u255 u256 u257 u258 u259 u260 u261 u262 u263 u264 u265 u266 u267 u268 u269 u270 u271 u272 u273 u274 u275 u276 u277 u278 u279 u280 u281 u282 u283 u284 u285 hi hil _ _ _ wr u6 u27 u29 u286 u287 u288 u289 u290 u291 u292 u293 u294 u295 u296 u297 u298 u299 u300 u301 u302 u303 u304 u305 u306 u307 u308 u309 u310 u311 u312 u313 u314 u315 u316 s hs V FS FI AZ BZ CA r1 r2 r3 r5 kt0 kt1 _ _ hsl
    obtain rfl : s = t.T := by omega
    have HKT : Hid (∀ k ∈ keys L, k < t.T) := keys_lt fun x hx => by
      rw [HL.out] at hx
      obtain ⟨u, hu, rfl⟩ := List.mem_map.1 hx
      exact (ok.rf u hu).2
    obtain ⟨m, hm⟩ : ∃ m, m = (keys L).length := ⟨_, rfl⟩
    have HMm : Hid (m = (keys L).length) := hm
    have hml : m ≤ 77100 := by
      have := nn_le L L.length
      rw [List.take_length, HLL.out] at this
      rw [hm, len_keys]; omega
    have FI2 : Hid (FB wr gi m F) := by rw [hm]; exact FI.out
    have r1' : wr.cell? ⟨gr, 1, none⟩ = some (.slice (some ⟨gi, 0, none⟩) m m) := by rw [hm]; exact r1
    have g0 : wr.cell? ⟨gs, 0, none⟩ = some (.int .i64 0) := by
      have := FS.out.cell (i := 0) (by omega)
      rw [pre_zero] at this; exact this
    have gT : wr.cell? ⟨gs, t.T, none⟩ = some (.int .i64 (m : Int)) := by
      have := FS.out.cell (i := t.T) (by omega)
      rw [pre_top HKT.out, ← hm] at this; exact this
    have h0T : (0 : Int) < ((t.T + 1 : Nat) : Int) := by omega
    have hTT : (t.T : Int) < ((t.T + 1 : Nat) : Int) := by omega
    clear hm r1 FI
    go_upto_region 71 with fail
    go_quiet (fail)
    have BY : Hid (Below wr.heap.size wr (wr.drewN nq)) := below_drewN _ _
    obtain ⟨wY, hwY⟩ : ∃ wY, wY = wr.drewN nq := ⟨_, rfl⟩
    rw [← hwY] at BY ⊢
    have AY : Hid (t.At wY) := AZ.out.below BY.out
    have FSY : Hid (FB wY gs (t.T + 1) (fun j => (pre (keys L) j : Int))) := FB.below FS.out BY.out FS.out.lt
    have FIY : Hid (FB wY gi m F) := FB.below FI2.out BY.out FI2.out.lt
    have RY : Hid (CB wY gr 44 (rw44 t.gt go gb t.n t.T (.slice (some ⟨gi, 0, none⟩) m m) (.slice (some ⟨gs, 0, none⟩) (t.T + 1) (t.T + 1)))) := by
      rw [HMm.out]; exact V.out.row.below BY.out V.out.row.lt
    have BWY : Hid (Below W.heap.size W wY) := BZ.out.trans (BY.out.mono BZ.out.size)
    clear hwY r1' r2 r3 r5 kt0 kt1 g0 gT BY FS FI2 V AZ BZ
    go_wp2_with fail
    go_loopw [31] (fun v31 wq => ∃ s : Nat, s ≤ t.T ∧ v31 = .int .i64 s ∧ Below wY.heap.size wY wq) (fun v31 _ => t.T - (intOf v31).toNat)
    case atStart => exact ⟨0, by omega, rfl, Below.refl _ _⟩
    case round =>
      obtain ⟨s, hs2, rfl, hB⟩ := hrel
      have B6 : Hid (Below wY.heap.size wY wr) := hB
      clear hB
      by_cases hsl : s < t.T
      · rename_i zz0 zz1 zz2 zz3 zz4 zz5 zz6 zz7 zz8 zz9 zz10 zz11 zz12 zz13 zz14 zz15 zz16 zz17 zz18 zz19 zz20 zz21 zz22 zz23 zz24 zz25 zz26 zz27 zz28 zz29 zz30 zz31 zz32 zz33
        revert s0 h0 ia ic its xa xc xs W HI HX HBB HM HXB nx hx HNX zz0 zz1 zz2 zz3 u8 u48 u49 u50 u51 u52 u53 u54 u55 HRD q zz4 zz5 u60 u61 u62 u63 u64 u65 u66 u67 u68 u69 u70 u71 u72 zz6 zz7 u12 u13 u15 u76 u77 u78 u79 u80 u81 u82 u83 u84 u85 u86 u87 u88 u89 u90 u91 u92 u93 u94 u95 u96 u97 u98 u99 u100 u101 u102 u103 u104 u105 u106 u107 u108 u109 u110 u111 u112 u113 u114 u115 u116 u117 u118 u119 u120 u121 u122 u123 u124 u125 u126 u127 u128 u129 u130 u131 u132 u133 u134 u135 u136 u137 u138 u139 u140 u141 u142 u143 u144 u145 u146 u147 u148 u149 u150 u151 u152 fs fw t ok b1 b2 b3 b4 hn HN zz8 zz9 zz10 hT1 hT2 hTz hTn L HL HLU HLL HLr hlen wT BW AT zz11 zz12 zz13 zz14 zz15 u17 u159 u160 u161 u162 u163 u164 u165 u166 u167 u168 u169 u170 u171 u172 u173 u174 R HRm HRl ra rc zz16 zz17 zz18 zz19 wc u20 u177 u178 u179 u180 u181 u182 u183 u184 u185 u186 u187 u188 u189 u190 u191 u192 u193 u194 u195 cs hcl HCS ca cc gr go gb gi gs F HF zz20 zz21 u23 u24 u25 u244 u245 u246 u247 u248 u249 u250 u251 u252 u253 u254 u255 u256 u257 u258 u259 u260 u261 u262 u263 u264 u265 u266 u267 u268 u269 u270 u271 u272 u273 u274 u275 u276 u277 u278 u279 u280 u281 u282 u283 u284 u285 hi hil zz22 zz23 zz24 zz25 u27 u29 u286 u287 u288 u289 u290 u291 u292 u293 u294 u295 u296 u297 u298 u299 u300 u301 u302 u303 u304 u305 u306 u307 u308 u309 u310 u311 u312 u313 u314 u315 u316 CA zz26 zz27 hs zz28 HKT m HMm hml h0T hTT zz29 zz30 zz31 nq wY AY FSY FIY RY BWY zz32 zz33 wr u6 u32 u33 u34 u35 u36 u346 u347 u348 u349 u350 u351 u352 u353 u354 u355 u356 u357 u358 u359 u360 u361 u362 u363 u364 u365 u366 u367 u368 u369 u370 u371 u372 u373 u374 u375 u376 u377 u378 u379 u380 u381 u382 u383 u384 u385 u386 u387 u388 u389 u390 u391 u392 u393 u394 u395 u396 u397 u398 u399 u400 u401 u402 u403 u404 u405 u406 u407 u408 u409 u410 u411 u412 u413 u414 u415 u416 u417 u418 u419 u420 u421 s hs2 B6 hsl
        exact hA.out
      · rename_i zz0 zz1 zz2 zz3 zz4 zz5 zz6 zz7 zz8 zz9 zz10 zz11 zz12 zz13 zz14 zz15 zz16 zz17 zz18 zz19 zz20 zz21 zz22 zz23 zz24 zz25 zz26 zz27 zz28 zz29 zz30 zz31 zz32 zz33
        revert s0 h0 ia ic its xa xc xs W HI HX HBB HM HXB nx hx HNX zz0 zz1 zz2 zz3 u8 u48 u49 u50 u51 u52 u53 u54 u55 HRD q zz4 zz5 u60 u61 u62 u63 u64 u65 u66 u67 u68 u69 u70 u71 u72 zz6 zz7 u12 u13 u15 u76 u77 u78 u79 u80 u81 u82 u83 u84 u85 u86 u87 u88 u89 u90 u91 u92 u93 u94 u95 u96 u97 u98 u99 u100 u101 u102 u103 u104 u105 u106 u107 u108 u109 u110 u111 u112 u113 u114 u115 u116 u117 u118 u119 u120 u121 u122 u123 u124 u125 u126 u127 u128 u129 u130 u131 u132 u133 u134 u135 u136 u137 u138 u139 u140 u141 u142 u143 u144 u145 u146 u147 u148 u149 u150 u151 u152 fs fw t ok b1 b2 b3 b4 hn HN zz8 zz9 zz10 hT1 hT2 hTz hTn L HL HLU HLL HLr hlen wT BW AT zz11 zz12 zz13 zz14 zz15 u17 u159 u160 u161 u162 u163 u164 u165 u166 u167 u168 u169 u170 u171 u172 u173 u174 R HRm HRl ra rc zz16 zz17 zz18 zz19 wc u20 u177 u178 u179 u180 u181 u182 u183 u184 u185 u186 u187 u188 u189 u190 u191 u192 u193 u194 u195 cs hcl HCS ca cc gr go gb gi gs F HF zz20 zz21 u23 u24 u25 u244 u245 u246 u247 u248 u249 u250 u251 u252 u253 u254 u255 u256 u257 u258 u259 u260 u261 u262 u263 u264 u265 u266 u267 u268 u269 u270 u271 u272 u273 u274 u275 u276 u277 u278 u279 u280 u281 u282 u283 u284 u285 hi hil zz22 zz23 zz24 zz25 u27 u29 u286 u287 u288 u289 u290 u291 u292 u293 u294 u295 u296 u297 u298 u299 u300 u301 u302 u303 u304 u305 u306 u307 u308 u309 u310 u311 u312 u313 u314 u315 u316 CA zz26 zz27 hs zz28 HKT m HMm hml h0T hTT zz29 zz30 zz31 nq wY AY FSY FIY RY BWY zz32 zz33 wr u6 u32 u33 u34 u35 u36 u346 u347 u348 u349 u350 u351 u352 u353 u354 u355 u356 u357 u358 u359 u360 u361 u362 u363 u364 u365 u366 u367 u368 u369 u370 u371 u372 u373 u374 u375 u376 u377 u378 u379 u380 u381 u382 u383 u384 u385 u386 u387 u388 u389 u390 u391 u392 u393 u394 u395 u396 u397 u398 u399 u400 u401 u402 u403 u404 u405 u406 u407 u408 u409 u410 u411 u412 u413 u414 u415 u416 u417 u418 u419 u420 u421 s hs2 B6 hsl
        exact hB.out)

end Go.Proofs.YbulkdfeeGreatDoor
