import Derived.Test.YbulkdfeeGreatDoorMain6
namespace Go.Proofs.YbulkdfeeGreatDoor
open Go.ChangeShapes Go.WideShapes Go.ChangeAt Go.RowKit
set_option linter.unusedVariables false
set_option linter.unusedSimpArgs false

set_option maxHeartbeats 20000000 in
set_option maxRecDepth 100000 in
theorem part_cnt : st6.C := by
    intro s0 h0 ia ic its xa xc xs W HI HX HBB HM HXB nx hx HNX _ _ _ _ u8 u48 u49 u50 u51 u52 u53 u54 u55 HRD q _ _ u60 u61 u62 u63 u64 u65 u66 u67 u68 u69 u70 u71 u72 _ _ u12 u13 u15 u76 u77 u78 u79 u80 u81 u82 u83 u84 u85 u86 u87 u88 u89 u90 u91 u92 u93 u94 u95 u96 u97 u98 u99 u100 u101 u102 u103 u104 u105 u106 u107 u108 u109 u110 u111 u112 u113 u114 u115 u116 u117 u118 u119 u120 u121 u122 u123 u124 u125 u126 u127 u128 u129 u130 u131 u132 u133 u134 u135 u136 u137 u138 u139 u140 u141 u142 u143 u144 u145 u146 u147 u148 u149 u150 u151 u152 fs fw t ok b1 b2 b3 b4 hn HN _ _ _ hT1 hT2 hTz hTn L HL HLU HLL HLr hlen wT BW AT _ _ _ _ _ u17 u159 u160 u161 u162 u163 u164 u165 u166 u167 u168 u169 u170 u171 u172 u173 u174 R HRm HRl ra rc _ _ _ _ wc u20 u177 u178 u179 u180 u181 u182 u183 u184 u185 u186 u187 u188 u189 u190 u191 u192 u193 u194 u195 cs hcl HCS ca cc gr go gb gi gs F HF _ _ wr u6 u23 u24 u25 u244 u245 u246 u247 u248 u249 u250 u251 u252 u253 u254 u255 u256 u257 u258 u259 u260 u261 u262 u263 u264 u265 u266 u267 u268 u269 u270 u271 u272 u273 u274 u275 u276 u277 u278 u279 u280 u281 u282 u283 u284 u285 i hi V FS FI AZ BZ CA r1 r2 r3 r5 kt0 kt1 hil
    have hil' : (i : Int) < (t.n : Int) := by omega
    have hin1 : (i : Int) < ((t.n + 1 : Nat) : Int) := by omega
    have hin2 : (i : Int) + 1 < ((t.n + 1 : Nat) : Int) := by omega
    have s1 : wr.cell? ⟨t.gs, i, none⟩ = some (.int .i64 (t.us i)) := AZ.out.st.cell (by omega)
    have s2 : wr.cell? ⟨t.gs, i + 1, none⟩ = some (.int .i64 (t.us (i + 1))) := AZ.out.st.cell (by omega)
    have so : wr.cell? ⟨go, i, none⟩ = some (.int .i64 (cnt L (t.us i) (t.us (i + 1)) : Int)) := V.out.op.cell hil
    have hmo := ok.mono i hil
    have htp := ok.top (i + 1) (by omega)
    go_wp2_with fail
    go_loopw [24, 25] (fun v24 v25 wq => ∃ j : Nat, t.us i ≤ j ∧ j ≤ t.us (i + 1) ∧ v25 = .int .i64 j ∧ v24 = .int .i64 (cnt L (t.us i) j : Int) ∧ wq = wr) (fun _ v25 _ => t.us (i + 1) - (intOf v25).toNat)
    case atStart => exact ⟨t.us i, Nat.le_refl _, hmo, rfl, by rw [cnt_self]; rfl, rfl⟩
    case round =>
      obtain ⟨j, hj1, hj2, rfl, rfl, rfl⟩ := hrel
      by_cases hjl : j < t.us (i + 1)
      · have hjl' : (j : Int) < (t.us (i + 1) : Int) := by omega
        obtain ⟨u, hu⟩ : ∃ u, t.U[j]? = some u := ⟨t.U[j]'(by omega), List.getElem?_eq_getElem _⟩
        obtain ⟨g, o, hua, hg, hr⟩ := AZ.out.uses j u hu
        have HLj : Hid (L[j]? = some u.r) := HLU.out j u hu
        have kt0' : wr.cell? ⟨t.gt, 0, none⟩ = some (.slice (some ⟨g, o, none⟩) t.U.length t.uc) := by rw [← hua]; exact AZ.out.row.cell rfl
        have kr : wr.cell? ⟨g, o + j * 7 + 6, none⟩ = some (.int .i64 u.r) := hr 6 _ rfl
        have hjU : (j : Int) < (t.U.length : Int) := by omega
        obtain ⟨rr, hrr⟩ : ∃ rr, u.r = rr := ⟨_, rfl⟩
        rw [hrr] at HLj kr
        have hcl1 := cnt_le L (t.us i) j
        rw [HLL.out] at hcl1
        clear hu hua hg hr hrr kt0
        by_cases e1 : rr = -1
        · subst e1
          have ec : Hid (cnt L (t.us i) (j + 1) = cnt L (t.us i) j + 1) := cnt_one hj1 HLj.out
          go_wp2_with fail
          go_roundw
          case rel => exact ⟨j + 1, by omega, by omega, by simp, by rw [ec.out]; simp, by first | rfl | trivial⟩
          case measure => simp [intOf]; omega
        · have e1' : (rr == -1) = false := by simpa using e1
          have ec : Hid (cnt L (t.us i) (j + 1) = cnt L (t.us i) j) := cnt_no hj1 HLj.out e1
          go_wp2_with fail
          go_roundw
          case rel => exact ⟨j + 1, by omega, by omega, by simp, by rw [ec.out], by first | rfl | trivial⟩
          case measure => simp [intOf]; omega
      · obtain rfl : j = t.us (i + 1) := by omega
        go_wp2_with fail
        go_roundw
        case rel => exact ⟨i + 1, by omega, by simp, by first | rfl | trivial⟩
        case measure => simp [intOf]; omega

set_option maxHeartbeats 20000000 in
set_option maxRecDepth 100000 in
theorem part_any : st6.D := by
    intro s0 h0 ia ic its xa xc xs W HI HX HBB HM HXB nx hx HNX _ _ _ _ u8 u48 u49 u50 u51 u52 u53 u54 u55 HRD q _ _ u60 u61 u62 u63 u64 u65 u66 u67 u68 u69 u70 u71 u72 _ _ u12 u13 u15 u76 u77 u78 u79 u80 u81 u82 u83 u84 u85 u86 u87 u88 u89 u90 u91 u92 u93 u94 u95 u96 u97 u98 u99 u100 u101 u102 u103 u104 u105 u106 u107 u108 u109 u110 u111 u112 u113 u114 u115 u116 u117 u118 u119 u120 u121 u122 u123 u124 u125 u126 u127 u128 u129 u130 u131 u132 u133 u134 u135 u136 u137 u138 u139 u140 u141 u142 u143 u144 u145 u146 u147 u148 u149 u150 u151 u152 fs fw t ok b1 b2 b3 b4 hn HN _ _ _ hT1 hT2 hTz hTn L HL HLU HLL HLr hlen wT BW AT _ _ _ _ _ u17 u159 u160 u161 u162 u163 u164 u165 u166 u167 u168 u169 u170 u171 u172 u173 u174 R HRm HRl ra rc _ _ _ _ wc u20 u177 u178 u179 u180 u181 u182 u183 u184 u185 u186 u187 u188 u189 u190 u191 u192 u193 u194 u195 cs hcl HCS ca cc gr go gb gi gs F HF _ _ u23 u24 u25 u244 u245 u246 u247 u248 u249 u250 u251 u252 u253 u254 u255 u256 u257 u258 u259 u260 u261 u262 u263 u264 u265 u266 u267 u268 u269 u270 u271 u272 u273 u274 u275 u276 u277 u278 u279 u280 u281 u282 u283 u284 u285 hi hil _ _ _ wr u6 u27 u29 u286 u287 u288 u289 u290 u291 u292 u293 u294 u295 u296 u297 u298 u299 u300 u301 u302 u303 u304 u305 u306 u307 u308 u309 u310 u311 u312 u313 u314 u315 u316 s hs V FS FI AZ BZ CA r1 r2 r3 r5 kt0 kt1 _ _ hsl
    have hsl' : (s : Int) < (t.T : Int) := by omega
    obtain ⟨bb, hbb⟩ : ∃ bb, bb = cs.any (fun c => decide (L.getD c (-2) = (s : Int))) := ⟨_, rfl⟩
    have HBo : Hid _ := hbb
    have sb : wr.cell? ⟨gb, s, none⟩ = some (.bool bb) := by rw [hbb]; exact V.out.bd.cell hsl
    clear hbb
    go_wp2_with fail
    go_loopw [27, 293] (fun v27 v293 wq => ∃ p : Nat, p ≤ cs.length ∧ v293 = .int .i64 p ∧ v27 = .bool ((cs.take p).any (fun c => decide (L.getD c (-2) = (s : Int)))) ∧ wq = wr) (fun _ v293 _ => cs.length - (intOf v293).toNat)
    case atStart => exact ⟨0, by omega, rfl, rfl, rfl⟩
    case round =>
      obtain ⟨p, hp, rfl, hv, rfl⟩ := hrel
      by_cases hpl : p < cs.length
      · have hpl' : (p : Int) < (cs.length : Int) := by omega
        obtain ⟨c, hc⟩ : ∃ c, cs[p]? = some c := ⟨cs[p], List.getElem?_eq_getElem hpl⟩
        have HC1 : Hid (cs[p]? = some c) := hc
        obtain ⟨u, hu, hu0⟩ := HCS.out c (List.mem_of_getElem? hc)
        have HLc : Hid (L[c]? = some u.r) := HLU.out c u hu
        have hcU : c < t.U.length := (List.getElem?_eq_some_iff.1 hu).1
        have hcU' : (c : Int) < (t.U.length : Int) := by omega
        obtain ⟨g1, o1, rfl, hg1, hc1⟩ := CA.out p (c : Int) (by rw [List.getElem?_map, hc]; rfl)
        obtain ⟨g, o, hua, hg, hr⟩ := AZ.out.uses c u hu
        have kt0' : wr.cell? ⟨t.gt, 0, none⟩ = some (.slice (some ⟨g, o, none⟩) t.U.length t.uc) := by rw [← hua]; exact AZ.out.row.cell rfl
        have kr : wr.cell? ⟨g, o + c * 7 + 6, none⟩ = some (.int .i64 u.r) := hr 6 _ rfl
        obtain ⟨rr, hrr⟩ : ∃ rr, u.r = rr := ⟨_, rfl⟩
        rw [hrr] at HLc kr
        have HA : Hid ((cs.take (p + 1)).any (fun c => decide (L.getD c (-2) = (s : Int))) = ((cs.take p).any (fun c => decide (L.getD c (-2) = (s : Int))) || decide (rr = (s : Int)))) := by
          rw [any_succ HC1.out, getD_at HLc.out]; exact rfl
        have HV : Hid _ := hv
        clear hc hu hu0 hg1 hua hg hr hrr hv kt0
        by_cases e1 : rr = (s : Int)
        · subst e1
          go_wp2_with fail
          go_roundw
          case rel => exact ⟨p + 1, by omega, by simp, by rw [HA.out]; simp, by first | rfl | trivial⟩
          case measure => simp [intOf]; omega
        · have e1' : (rr == (s : Int)) = false := by simpa using e1
          go_wp2_with fail
          go_roundw
          case rel => exact ⟨p + 1, by omega, by simp, by rw [HA.out, HV.out]; simp [e1], by first | rfl | trivial⟩
          case measure => simp [intOf]; omega
      · obtain rfl : p = cs.length := by omega
        rw [List.take_length, ← HBo.out] at hv
        subst hv
        go_wp2_with fail
        go_roundw
        case rel => exact ⟨s + 1, by omega, by simp, by first | rfl | trivial⟩
        case measure => simp [intOf]; omega

end Go.Proofs.YbulkdfeeGreatDoor
