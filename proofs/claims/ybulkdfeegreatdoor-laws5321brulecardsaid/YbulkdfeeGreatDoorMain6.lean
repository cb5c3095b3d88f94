import Derived.Test.YbulkdfeeGreatDoorMain2
namespace Go.Proofs.YbulkdfeeGreatDoor
open Go.ChangeShapes Go.WideShapes Go.ChangeAt Go.RowKit
set_option linter.unusedVariables false
set_option linter.unusedSimpArgs false

set_option maxHeartbeats 20000000 in
set_option maxRecDepth 100000 in
def st6 : Cut5 (st2.E) := Cut5.mk _ _ _ _ _ (fun hA hB hC hD hE => by
    intro s0 h0 ia ic its xa xc xs W HI HX HBB HM HXB n hn HN nx hx HNX _ _ _ u6 u8 u48 u49 u50 u51 u52 u53 u54 u55 _ HRD q T hT1 hT2 hTz hTn _ _ _ wc u60 u61 u62 u63 u64 u65 u66 u67 u68 u69 u70 u71 u72 gt gs gw gst b1 b2 b3 b4 _ _ wr u12 u13 u15 u76 u77 u78 u79 u80 u81 u82 u83 u84 u85 u86 u87 u88 u89 u90 u91 u92 u93 u94 u95 u96 u97 u98 u99 u100 u101 u102 u103 u104 u105 u106 u107 u108 u109 u110 u111 u112 u113 u114 u115 u116 u117 u118 u119 u120 u121 u122 u123 u124 u125 u126 u127 u128 u129 u130 u131 u132 u133 u134 u135 u136 u137 u138 u139 u140 u141 u142 u143 u144 u145 u146 u147 u148 u149 u150 u151 u152 i v U fs fw hi L1 O1 HU HFS HFW hil
    obtain rfl : n = i := by omega
    obtain ⟨ua, uc, huv, hUA, huc⟩ := O1.out.lies
    subst huv
    have HUF : Hid (U.map Us.r = FL T its) := by
      have h := HU.out
      rw [← HN.out, List.take_length] at h
      exact h
    obtain ⟨t, ht, egt, egs, egw, egst, en, eT, eU, eua, euc⟩ : ∃ t : TB, t = tab gt gs gw gst T its U ua uc ∧ gt = t.gt ∧ gs = t.gs ∧ gw = t.gw ∧ gst = t.gst ∧ n = t.n ∧ T = t.T ∧ U = t.U ∧ ua = t.ua ∧ uc = t.uc := ⟨_, rfl, rfl, rfl, rfl, rfl, HN.out.symm, rfl, rfl, rfl, rfl⟩
    have ok : t.Ok := by rw [ht]; exact tab_ok ⟨hT1, hT2⟩ (by rw [HN.out]; exact hn) HRD.out HUF.out huc
    have HUS : Hid (t.us = usF T its) := by rw [ht]; exact rfl
    have HWE : Hid (t.we = weF T its) := by rw [ht]; exact rfl
    clear ht huc hil hi
    subst egt egs egw egst en eT eU eua euc
    have AT : Hid (t.At wr) := ⟨L1.out.row, FB.congr L1.out.st (fun j hj => by rw [HUS.out]; exact HFS.out j (by omega)), FB.congr L1.out.we (fun j hj => by rw [HWE.out]; exact HFW.out j hj), hUA⟩
    have BW : Hid (Below W.heap.size W wr) := L1.out.bel
    clear hUA L1 O1 HU HFS HFW HUF HUS HWE
    obtain ⟨L, hL⟩ : ∃ L, L = t.U.map Us.r := ⟨_, rfl⟩
    have HL : Hid _ := hL
    have HLU : Hid (∀ (j : Nat) (u : Us), t.U[j]? = some u → L[j]? = some u.r) := fun j u hu => by rw [hL, List.getElem?_map, hu]; rfl
    have HLL : Hid (L.length = t.U.length) := by rw [hL]; exact List.length_map _
    have HLr : Hid (∀ (j : Nat) (x : Int), L[j]? = some x → ∃ u, t.U[j]? = some u ∧ u.r = x) := fun j x hx => by
      rw [hL, List.getElem?_map] at hx
      exact Option.map_eq_some_iff.1 hx
    clear hL
    have hlen := ok.len
    obtain ⟨wT, hwT⟩ : ∃ wT, wT = wr := ⟨_, rfl⟩
    rw [← hwT] at AT BW ⊢
    clear hwT
    have kt0 : wT.cell? ⟨t.gt, 0, none⟩ = some (.slice t.ua t.U.length t.uc) := AT.out.row.cell rfl
    go_wp2_with fail
    go_loopw [16, 17, 158] (fun v16 v17 v158 wq => ∃ j : Nat, j ≤ t.U.length ∧ v158 = .int .i64 j ∧ Below wT.heap.size wT wq ∧ OI wT.heap.size wq v16 ((idx L j).map (fun k : Nat => (k : Int)))) (fun _ _ v158 _ => t.U.length - (intOf v158).toNat)
    case atStart => exact ⟨0, by omega, rfl, Below.refl _ _, OI.nil _ _⟩
    case round =>
      obtain ⟨j, hj, rfl, hB, hO⟩ := hrel
      have B1 : Hid (Below wT.heap.size wT wr) := hB
      have O1 : Hid (OI wT.heap.size wr u16 ((idx L j).map (fun k : Nat => (k : Int)))) := hO
      clear hB hO kt0
      by_cases hjl : ¬ (j < t.U.length)
      · obtain rfl : j = t.U.length := by omega
        have O2 : Hid (OI wT.heap.size wr u16 ((idx L L.length).map (fun k : Nat => (k : Int)))) := by rw [HLL.out]; exact O1.out
        clear O1 hjl hj
        obtain ⟨R, hR⟩ : ∃ R, R = idx L L.length := ⟨_, rfl⟩
        rw [← hR] at O2
        have HRm : Hid (∀ c ∈ R, ∃ u, t.U[c]? = some u ∧ 0 ≤ u.r) := fun c hc => by
          rw [hR] at hc
          have h1 := List.mem_filter.1 hc
          have h2 : c < L.length := by simpa using h1.1
          have h3 : 0 ≤ L.getD c (-2) := by simpa using h1.2
          rw [getD_at (List.getElem?_eq_getElem h2)] at h3
          obtain ⟨u, hu, hur⟩ := HLr.out c _ (List.getElem?_eq_getElem h2)
          exact ⟨u, hu, by rw [hur]; exact h3⟩
        have HRl : Hid (R.length ≤ 77100) := by
          rw [hR]
          have := idx_le L L.length
          rw [HLL.out] at this
          show (idx L L.length).length ≤ 77100
          rw [HLL.out]
          omega
        clear hR
        obtain ⟨ra, rc, hrv, _⟩ := O2.out.lies
        rw [List.length_map] at hrv
        subst hrv
        go_upto_if 177 with fail
        go_cut [18, 20] from 177 to 195 (fun s18 s20 wx => ∃ cs : List Nat, cs.length ≤ 1024 ∧ (∀ c ∈ cs, ∃ u, t.U[c]? = some u ∧ 0 ≤ u.r) ∧ OI wT.heap.size wx s18 (cs.map (fun k : Nat => (k : Int))) ∧ Below wT.heap.size wT wx)
        case rest =>
          obtain ⟨cs, hcl, hcs, hO, hB⟩ := hcut
          have O5 : Hid (OI wT.heap.size wc u18 (cs.map (fun k : Nat => (k : Int)))) := hO
          have B5 : Hid (Below wT.heap.size wT wc) := hB
          have HCS : Hid (∀ c ∈ cs, ∃ u, t.U[c]? = some u ∧ 0 ≤ u.r) := hcs
          obtain ⟨ca, cc, hcv, hCA⟩ := O5.out.lies
          rw [List.length_map] at hcv
          subst hcv
          have HCA : Hid (IA wc ca (cs.map (fun k : Nat => (k : Int)))) := hCA
          clear hO hB hcs hCA O2 B1
          go_wp2_with fail
          refine (rule5 t ok ca cc cs hcl HCS.out wc (AT.out.below B5.out) HCA.out).mono ?_
          rintro e wz ⟨gr, go, gb, gi, gs, F, rfl, hV, hFS, hFI, hF⟩
          rw [← HL.out] at hV hFS hFI hF
          have V : Hid (NV wc t go gb gr (.slice (some ⟨gi, 0, none⟩) (keys L).length (keys L).length) (.slice (some ⟨gs, 0, none⟩) (t.T + 1) (t.T + 1)) (fun i => (cnt L (t.us i) (t.us (i + 1)) : Int)) (fun s => cs.any (fun c => decide (L.getD c (-2) = (s : Int)))) wz) := hV
          have FS : Hid (FB wz gs (t.T + 1) (fun j => (pre (keys L) j : Int))) := hFS
          have FI : Hid (FB wz gi (keys L).length F) := hFI
          have HF : Hid _ := hF
          have AZ : Hid (t.At wz) := (AT.out.below B5.out).below hV.bel
          have BZ : Hid (Below W.heap.size W wz) := (BW.out.trans (B5.out.mono BW.out.size)).trans (hV.bel.mono (Nat.le_trans BW.out.size B5.out.size))
          have CA : Hid (IA wz ca (cs.map (fun k : Nat => (k : Int)))) := HCA.out.below hV.bel
          clear hV hFS hFI hF HCA B5 O5
          have rt : wz.cell? ⟨gr, 0, none⟩ = some (.pointer (some ⟨t.gt, 0, none⟩)) := V.out.row.cell rfl
          have r1 : wz.cell? ⟨gr, 1, none⟩ = some (.slice (some ⟨gi, 0, none⟩) (keys L).length (keys L).length) := V.out.row.cell rfl
          have r2 : wz.cell? ⟨gr, 2, none⟩ = some (.slice (some ⟨gs, 0, none⟩) (t.T + 1) (t.T + 1)) := V.out.row.cell rfl
          have r3 : wz.cell? ⟨gr, 3, none⟩ = some (.slice (some ⟨go, 0, none⟩) t.n t.n) := V.out.row.cell rfl
          have r5 : wz.cell? ⟨gr, 5, none⟩ = some (.slice (some ⟨gb, 0, none⟩) t.T t.T) := V.out.row.cell rfl
          have r6 : wz.cell? ⟨gr, 6, none⟩ = some (.pointer none) := V.out.row.cell rfl
          have kt0 : wz.cell? ⟨t.gt, 0, none⟩ = some (.slice t.ua t.U.length t.uc) := AZ.out.row.cell rfl
          have kt1 : wz.cell? ⟨t.gt, 1, none⟩ = some (.slice (some ⟨t.gs, 0, none⟩) (t.n + 1) (t.n + 1)) := AZ.out.row.cell rfl
          have hneq := neq27 wz ⟨t.gt, 0, none⟩
          go_wp2_with fail
          clear hneq rt r6
          go_loopw [23, 24, 25, 243] (fun v23 v24 v25 v243 wq => ∃ i : Nat, i ≤ t.n ∧ v243 = .int .i64 i ∧ wq = wz) (fun _ _ _ v243 _ => t.n - (intOf v243).toNat)
          case atStart => exact ⟨0, by omega, rfl, rfl⟩
          case round =>
            obtain ⟨i, hi, rfl, rfl⟩ := hrel
            by_cases hil : ¬ (i < t.n)
            · obtain rfl : i = t.n := by omega
              go_wp2_with fail
              go_loopw [26] (fun v26 wq => ∃ s : Nat, s ≤ t.T ∧ v26 = .int .i64 s ∧ wq = wr) (fun v26 _ => t.T - (intOf v26).toNat)
              case atStart => exact ⟨0, by omega, rfl, rfl⟩
              case round =>
                obtain ⟨s, hs, rfl, rfl⟩ := hrel
                by_cases hsl : s < t.T
                · rename_i zz0 zz1 zz2 zz3 zz4 zz5 zz6 zz7 zz8 zz9 zz10 zz11 zz12 zz13 zz14 zz15 zz16 zz17 zz18 zz19 zz20 zz21 zz22 zz23 zz24 zz25 zz26
                  revert s0 h0 ia ic its xa xc xs W HI HX HBB HM HXB nx hx HNX zz0 zz1 zz2 zz3 u8 u48 u49 u50 u51 u52 u53 u54 u55 HRD q zz4 zz5 u60 u61 u62 u63 u64 u65 u66 u67 u68 u69 u70 u71 u72 zz6 zz7 u12 u13 u15 u76 u77 u78 u79 u80 u81 u82 u83 u84 u85 u86 u87 u88 u89 u90 u91 u92 u93 u94 u95 u96 u97 u98 u99 u100 u101 u102 u103 u104 u105 u106 u107 u108 u109 u110 u111 u112 u113 u114 u115 u116 u117 u118 u119 u120 u121 u122 u123 u124 u125 u126 u127 u128 u129 u130 u131 u132 u133 u134 u135 u136 u137 u138 u139 u140 u141 u142 u143 u144 u145 u146 u147 u148 u149 u150 u151 u152 fs fw t ok b1 b2 b3 b4 hn HN zz8 zz9 zz10 hT1 hT2 hTz hTn L HL HLU HLL HLr hlen wT BW AT zz11 zz12 zz13 zz14 zz15 u17 u159 u160 u161 u162 u163 u164 u165 u166 u167 u168 u169 u170 u171 u172 u173 u174 R HRm HRl ra rc zz16 zz17 zz18 zz19 wc u20 u177 u178 u179 u180 u181 u182 u183 u184 u185 u186 u187 u188 u189 u190 u191 u192 u193 u194 u195 cs hcl HCS ca cc gr go gb gi gs F HF zz20 zz21 u23 u24 u25 u244 u245 u246 u247 u248 u249 u250 u251 u252 u253 u254 u255 u256 u257 u258 u259 u260 u261 u262 u263 u264 u265 u266 u267 u268 u269 u270 u271 u272 u273 u274 u275 u276 u277 u278 u279 u280 u281 u282 u283 u284 u285 hi hil zz22 zz23 zz24 wr u6 u27 u29 u286 u287 u288 u289 u290 u291 u292 u293 u294 u295 u296 u297 u298 u299 u300 u301 u302 u303 u304 u305 u306 u307 u308 u309 u310 u311 u312 u313 u314 u315 u316 s hs V FS FI AZ BZ CA r1 r2 r3 r5 kt0 kt1 zz25 zz26 hsl
                  exact hD.out
                · rename_i zz0 zz1 zz2 zz3 zz4 zz5 zz6 zz7 zz8 zz9 zz10 zz11 zz12 zz13 zz14 zz15 zz16 zz17 zz18 zz19 zz20 zz21 zz22 zz23 zz24 zz25 zz26
                  revert s0 h0 ia ic its xa xc xs W HI HX HBB HM HXB nx hx HNX zz0 zz1 zz2 zz3 u8 u48 u49 u50 u51 u52 u53 u54 u55 HRD q zz4 zz5 u60 u61 u62 u63 u64 u65 u66 u67 u68 u69 u70 u71 u72 zz6 zz7 u12 u13 u15 u76 u77 u78 u79 u80 u81 u82 u83 u84 u85 u86 u87 u88 u89 u90 u91 u92 u93 u94 u95 u96 u97 u98 u99 u100 u101 u102 u103 u104 u105 u106 u107 u108 u109 u110 u111 u112 u113 u114 u115 u116 u117 u118 u119 u120 u121 u122 u123 u124 u125 u126 u127 u128 u129 u130 u131 u132 u133 u134 u135 u136 u137 u138 u139 u140 u141 u142 u143 u144 u145 u146 u147 u148 u149 u150 u151 u152 fs fw t ok b1 b2 b3 b4 hn HN zz8 zz9 zz10 hT1 hT2 hTz hTn L HL HLU HLL HLr hlen wT BW AT zz11 zz12 zz13 zz14 zz15 u17 u159 u160 u161 u162 u163 u164 u165 u166 u167 u168 u169 u170 u171 u172 u173 u174 R HRm HRl ra rc zz16 zz17 zz18 zz19 wc u20 u177 u178 u179 u180 u181 u182 u183 u184 u185 u186 u187 u188 u189 u190 u191 u192 u193 u194 u195 cs hcl HCS ca cc gr go gb gi gs F HF zz20 zz21 u23 u24 u25 u244 u245 u246 u247 u248 u249 u250 u251 u252 u253 u254 u255 u256 u257 u258 u259 u260 u261 u262 u263 u264 u265 u266 u267 u268 u269 u270 u271 u272 u273 u274 u275 u276 u277 u278 u279 u280 u281 u282 u283 u284 u285 hi hil zz22 zz23 zz24 wr u6 u27 u29 u286 u287 u288 u289 u290 u291 u292 u293 u294 u295 u296 u297 u298 u299 u300 u301 u302 u303 u304 u305 u306 u307 u308 u309 u310 u311 u312 u313 u314 u315 u316 s hs V FS FI AZ BZ CA r1 r2 r3 r5 kt0 kt1 zz25 zz26 hsl
                  exact hE.out
            · have hjk : i < t.n := by omega
              clear hil
              have hil := hjk
              clear hjk
              rename_i zz0 zz1 zz2 zz3 zz4 zz5 zz6 zz7 zz8 zz9 zz10 zz11 zz12 zz13 zz14 zz15 zz16 zz17 zz18 zz19 zz20 zz21
              revert s0 h0 ia ic its xa xc xs W HI HX HBB HM HXB nx hx HNX zz0 zz1 zz2 zz3 u8 u48 u49 u50 u51 u52 u53 u54 u55 HRD q zz4 zz5 u60 u61 u62 u63 u64 u65 u66 u67 u68 u69 u70 u71 u72 zz6 zz7 u12 u13 u15 u76 u77 u78 u79 u80 u81 u82 u83 u84 u85 u86 u87 u88 u89 u90 u91 u92 u93 u94 u95 u96 u97 u98 u99 u100 u101 u102 u103 u104 u105 u106 u107 u108 u109 u110 u111 u112 u113 u114 u115 u116 u117 u118 u119 u120 u121 u122 u123 u124 u125 u126 u127 u128 u129 u130 u131 u132 u133 u134 u135 u136 u137 u138 u139 u140 u141 u142 u143 u144 u145 u146 u147 u148 u149 u150 u151 u152 fs fw t ok b1 b2 b3 b4 hn HN zz8 zz9 zz10 hT1 hT2 hTz hTn L HL HLU HLL HLr hlen wT BW AT zz11 zz12 zz13 zz14 zz15 u17 u159 u160 u161 u162 u163 u164 u165 u166 u167 u168 u169 u170 u171 u172 u173 u174 R HRm HRl ra rc zz16 zz17 zz18 zz19 wc u20 u177 u178 u179 u180 u181 u182 u183 u184 u185 u186 u187 u188 u189 u190 u191 u192 u193 u194 u195 cs hcl HCS ca cc gr go gb gi gs F HF zz20 zz21 wr u6 u23 u24 u25 u244 u245 u246 u247 u248 u249 u250 u251 u252 u253 u254 u255 u256 u257 u258 u259 u260 u261 u262 u263 u264 u265 u266 u267 u268 u269 u270 u271 u272 u273 u274 u275 u276 u277 u278 u279 u280 u281 u282 u283 u284 u285 i hi V FS FI AZ BZ CA r1 r2 r3 r5 kt0 kt1 hil
              exact hC.out
        case first =>
          by_cases hR0 : R.length = 0
          · have hR0' : ¬ (0 : Int) < (R.length : Int) := by omega
            clear hR0
            go_wp2_with fail
            go_meet
            case rel => exact ⟨[], by simp, fun c hc => by simp at hc, OI.nil _ _, B1.out⟩
          · have hR0' : (0 : Int) < (R.length : Int) := by omega
            have hR0n : 0 < R.length := by omega
            go_wp2_with fail
            rw [show decide (0 < R.length) = true from decide_eq_true hR0n]
            go_loopw [18, 20, 180] (fun v18 v20 v180 wq => ∃ (p : Nat) (cs : List Nat), p ≤ nx ∧ v180 = .int .i64 p ∧ cs.length = p ∧ (∀ c ∈ cs, ∃ u, t.U[c]? = some u ∧ 0 ≤ u.r) ∧ OI wT.heap.size wq v18 (cs.map (fun k : Nat => (k : Int))) ∧ OI wT.heap.size wq (.slice ra R.length rc) (R.map (fun k : Nat => (k : Int))) ∧ AP (.slice ra R.length rc) v18 ∧ Below wT.heap.size wT wq) (fun _ _ v180 _ => nx - (intOf v180).toNat)
            case atStart => exact ⟨0, [], by omega, rfl, rfl, fun c hc => by simp at hc, OI.nil _ _, O2.out, AP_nil _, B1.out⟩
            case round =>
              obtain ⟨p, cs, hp, rfl, hcp, hcs, hO, hOR, hAP, hB⟩ := hrel
              have O3 : Hid (OI wT.heap.size wr u18 (cs.map (fun k : Nat => (k : Int)))) := hO
              have OR : Hid (OI wT.heap.size wr (.slice ra R.length rc) (R.map (fun k : Nat => (k : Int)))) := hOR
              have PR : Hid (AP (.slice ra R.length rc) u18) := hAP
              have B3 : Hid (Below wT.heap.size wT wr) := hB
              have HCS : Hid (∀ c ∈ cs, ∃ u, t.U[c]? = some u ∧ 0 ≤ u.r) := hcs
              clear hO hOR hAP hB hcs
              by_cases hpl : ¬ (p < nx)
              · obtain rfl : p = nx := by omega
                go_wp2_with fail
                go_meet
                case rel => exact ⟨cs, by omega, HCS.out, O3.out, B3.out⟩
              · have hjk : p < nx := by omega
                clear hpl
                have hpl := hjk
                clear hjk
                rename_i zz0 zz1 zz2 zz3 zz4 zz5 zz6 zz7 zz8 zz9 zz10 zz11 zz12 zz13 zz14 zz15 zz16 zz17 zz18 zz19 zz20 zz21 zz22 zz23 zz24
                revert s0 h0 ia ic its xa xc xs W HI HX HBB HM HXB nx hx HNX zz0 zz1 zz2 u6 u8 u48 u49 u50 u51 u52 u53 u54 u55 HRD q zz3 wc u60 u61 u62 u63 u64 u65 u66 u67 u68 u69 u70 u71 u72 zz4 zz5 u12 u13 u15 u76 u77 u78 u79 u80 u81 u82 u83 u84 u85 u86 u87 u88 u89 u90 u91 u92 u93 u94 u95 u96 u97 u98 u99 u100 u101 u102 u103 u104 u105 u106 u107 u108 u109 u110 u111 u112 u113 u114 u115 u116 u117 u118 u119 u120 u121 u122 u123 u124 u125 u126 u127 u128 u129 u130 u131 u132 u133 u134 u135 u136 u137 u138 u139 u140 u141 u142 u143 u144 u145 u146 u147 u148 u149 u150 u151 u152 fs fw t ok b1 b2 b3 b4 hn HN zz6 zz7 zz8 hT1 hT2 hTz hTn L HL HLU HLL HLr hlen wT BW AT zz9 zz10 zz11 zz12 zz13 u17 u159 u160 u161 u162 u163 u164 u165 u166 u167 u168 u169 u170 u171 u172 u173 u174 B1 R HRm HRl ra rc zz14 O2 zz15 zz16 zz17 zz18 zz19 zz20 zz21 zz22 zz23 hR0 hR0' hR0n zz24 wr u18 u20 u181 u182 u183 u184 u185 u186 u187 u188 u189 u190 u191 u192 u193 u194 u195 p cs hp hcp O3 OR PR B3 HCS hpl
                exact hB.out
      · have hjk : j < t.U.length := by omega
        clear hjl
        have hjl := hjk
        clear hjk
        rename_i zz0 zz1 zz2 zz3 zz4 zz5 zz6 zz7 zz8 zz9 zz10 zz11 zz12 zz13
        revert s0 h0 ia ic its xa xc xs W HI HX HBB HM HXB nx hx HNX zz0 zz1 zz2 u6 u8 u48 u49 u50 u51 u52 u53 u54 u55 HRD q zz3 wc u60 u61 u62 u63 u64 u65 u66 u67 u68 u69 u70 u71 u72 zz4 zz5 u12 u13 u15 u76 u77 u78 u79 u80 u81 u82 u83 u84 u85 u86 u87 u88 u89 u90 u91 u92 u93 u94 u95 u96 u97 u98 u99 u100 u101 u102 u103 u104 u105 u106 u107 u108 u109 u110 u111 u112 u113 u114 u115 u116 u117 u118 u119 u120 u121 u122 u123 u124 u125 u126 u127 u128 u129 u130 u131 u132 u133 u134 u135 u136 u137 u138 u139 u140 u141 u142 u143 u144 u145 u146 u147 u148 u149 u150 u151 u152 fs fw t ok b1 b2 b3 b4 hn HN zz6 zz7 zz8 hT1 hT2 hTz hTn L HL HLU HLL HLr hlen wT BW AT zz9 zz10 zz11 zz12 zz13 wr u16 u17 u159 u160 u161 u162 u163 u164 u165 u166 u167 u168 u169 u170 u171 u172 u173 u174 j hj B1 O1 hjl
        exact hA.out)

end Go.Proofs.YbulkdfeeGreatDoor
