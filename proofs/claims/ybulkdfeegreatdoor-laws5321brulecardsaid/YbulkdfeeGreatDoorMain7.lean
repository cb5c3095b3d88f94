import Derived.Test.YbulkdfeeGreatDoorMain6
namespace Go.Proofs.YbulkdfeeGreatDoor
open Go.ChangeShapes Go.WideShapes Go.ChangeAt Go.RowKit
set_option linter.unusedVariables false
set_option linter.unusedSimpArgs false

set_option maxHeartbeats 20000000 in
set_option maxRecDepth 100000 in
theorem part_idx : st6.A := by
    intro s0 h0 ia ic its xa xc xs W HI HX HBB HM HXB nx hx HNX _ _ _ u6 u8 u48 u49 u50 u51 u52 u53 u54 u55 HRD q _ wc u60 u61 u62 u63 u64 u65 u66 u67 u68 u69 u70 u71 u72 _ _ u12 u13 u15 u76 u77 u78 u79 u80 u81 u82 u83 u84 u85 u86 u87 u88 u89 u90 u91 u92 u93 u94 u95 u96 u97 u98 u99 u100 u101 u102 u103 u104 u105 u106 u107 u108 u109 u110 u111 u112 u113 u114 u115 u116 u117 u118 u119 u120 u121 u122 u123 u124 u125 u126 u127 u128 u129 u130 u131 u132 u133 u134 u135 u136 u137 u138 u139 u140 u141 u142 u143 u144 u145 u146 u147 u148 u149 u150 u151 u152 fs fw t ok b1 b2 b3 b4 hn HN _ _ _ hT1 hT2 hTz hTn L HL HLU HLL HLr hlen wT BW AT _ _ _ _ _ wr u16 u17 u159 u160 u161 u162 u163 u164 u165 u166 u167 u168 u169 u170 u171 u172 u173 u174 j hj B1 O1 hjl
    have hjl' : (j : Int) < (t.U.length : Int) := by omega
    obtain ⟨u, hu⟩ : ∃ u, t.U[j]? = some u := ⟨t.U[j], List.getElem?_eq_getElem hjl⟩
    obtain ⟨g, o, hua, hg, hr⟩ := (AT.out.below B1.out).uses j u hu
    have HLj : Hid (L[j]? = some u.r) := HLU.out j u hu
    have hrf := ok.rf u (List.mem_of_getElem? hu)
    have kt0 : wr.cell? ⟨t.gt, 0, none⟩ = some (.slice (some ⟨g, o, none⟩) t.U.length t.uc) := by rw [← hua]; exact (AT.out.below B1.out).row.cell rfl
    have kr : wr.cell? ⟨g, o + j * 7 + 6, none⟩ = some (.int .i64 u.r) := hr 6 _ rfl
    obtain ⟨rr, hrr⟩ : ∃ rr, u.r = rr := ⟨_, rfl⟩
    rw [hrr] at HLj hrf kr
    clear hu hua hg hr hrr
    by_cases e2 : 0 ≤ rr
    · have hl2 : ((idx L j).map (fun k : Nat => (k : Int))).length ≤ 10000000 := by have := idx_le L j; rw [List.length_map]; omega
      have HL2 : Hid _ := hl2
      clear hl2
      go_wp2_with (first
        | (refine gate (some 172) rfl ?_; refine wpList_buildInt rfl (.tmp 171) rfl (j : Int) rfl ?_; simp only [Act.put, List.setIfInBounds_toArray, List.set_cons_zero, List.set_cons_succ])
        | (refine gate (some 173) rfl ?_; refine wpList_appendInt wr rfl (.tmp 170) (.tmp 172) rfl wT.heap.size u16 _ (j : Int) rfl rfl O1.out HL2.out B1.out.size ?_))
      intro v1 w7 hO hG hLo
      have O2 : Hid (OI wT.heap.size w7 v1 ((idx L (j + 1)).map (fun k : Nat => (k : Int)))) := by
        rw [idx_pos HLj.out e2, List.map_append]; exact hO
      have B2 : Hid (Below wT.heap.size wT w7) := B1.out.grown hG B1.out.size (fun k hk => (own_tag O1.out hk).1)
      clear hO hG hLo kt0 kr
      go_wp2_with fail
      go_roundw
      case rel => exact ⟨j + 1, by omega, by simp, B2.out, O2.out⟩
      case measure => simp [intOf]; omega
    · have e2' : decide (0 ≤ rr) = false := decide_eq_false e2
      have O2 : Hid (OI wT.heap.size wr u16 ((idx L (j + 1)).map (fun k : Nat => (k : Int)))) := by rw [idx_neg HLj.out e2]; exact O1.out
      go_wp2_with fail
      go_roundw
      case rel => exact ⟨j + 1, by omega, by simp, B1.out, O2.out⟩
      case measure => simp [intOf]; omega

set_option maxHeartbeats 20000000 in
set_option maxRecDepth 100000 in
theorem part_row : st6.B := by
    intro s0 h0 ia ic its xa xc xs W HI HX HBB HM HXB nx hx HNX _ _ _ u6 u8 u48 u49 u50 u51 u52 u53 u54 u55 HRD q _ wc u60 u61 u62 u63 u64 u65 u66 u67 u68 u69 u70 u71 u72 _ _ u12 u13 u15 u76 u77 u78 u79 u80 u81 u82 u83 u84 u85 u86 u87 u88 u89 u90 u91 u92 u93 u94 u95 u96 u97 u98 u99 u100 u101 u102 u103 u104 u105 u106 u107 u108 u109 u110 u111 u112 u113 u114 u115 u116 u117 u118 u119 u120 u121 u122 u123 u124 u125 u126 u127 u128 u129 u130 u131 u132 u133 u134 u135 u136 u137 u138 u139 u140 u141 u142 u143 u144 u145 u146 u147 u148 u149 u150 u151 u152 fs fw t ok b1 b2 b3 b4 hn HN _ _ _ hT1 hT2 hTz hTn L HL HLU HLL HLr hlen wT BW AT _ _ _ _ _ u17 u159 u160 u161 u162 u163 u164 u165 u166 u167 u168 u169 u170 u171 u172 u173 u174 B1 R HRm HRl ra rc _ O2 _ _ _ _ _ _ _ _ _ hR0 hR0' hR0n _ wr u18 u20 u181 u182 u183 u184 u185 u186 u187 u188 u189 u190 u191 u192 u193 u194 u195 p cs hp hcp O3 OR PR B3 HCS hpl
    have hpl' : (p : Int) < (nx : Int) := by omega
    obtain ⟨x, hx1⟩ : ∃ x, xs[p]? = some x := ⟨xs[p]'(by rw [HNX.out]; exact hpl), List.getElem?_eq_getElem _⟩
    have hx64 : x ≤ 65535 := HXB.out x (List.mem_of_getElem? hx1)
    obtain ⟨g, o, rfl, hg, hc⟩ := (HX.out.below (BW.out.trans (B3.out.mono BW.out.size))) p x hx1
    obtain ⟨q, hq⟩ : ∃ q, q = x % R.length := ⟨_, rfl⟩
    have eq1 : Int.tmod (x : Int) (R.length : Int) = (q : Int) := by rw [hq]; exact tmod_nat x R.length
    have hqR : q < R.length := by rw [hq]; exact Nat.mod_lt _ (by omega)
    have hqR' : (q : Int) < (R.length : Int) := by omega
    have hRz : ¬ ((R.length : Int) = 0) := by omega
    obtain ⟨c, hc1⟩ : ∃ c, R[q]? = some c := ⟨R[q], List.getElem?_eq_getElem hqR⟩
    obtain ⟨a9, c9, ha9, hIA⟩ := OR.out.lies
    obtain ⟨g9, o9, hga, hg9, hc9⟩ := hIA q (c : Int) (by rw [List.getElem?_map, hc1]; rfl)
    rw [hga] at ha9
    have hra : ra = some ⟨g9, o9, none⟩ := by simp only [Value.slice.injEq] at ha9; exact ha9.1
    subst hra
    have HC1 : Hid (∃ u, t.U[c]? = some u ∧ 0 ≤ u.r) := HRm.out c (List.mem_of_getElem? hc1)
    have hl2 : (cs.map (fun k : Nat => (k : Int))).length ≤ 10000000 := by rw [List.length_map]; omega
    have HL2 : Hid _ := hl2
    clear hx1 hg hq hc1 hIA hga hg9 ha9 hl2
    go_wp2_with (first
      | (refine gate (some 193) rfl ?_; refine wpList_buildInt rfl (.tmp 192) rfl (c : Int) rfl ?_; simp only [Act.put, List.setIfInBounds_toArray, List.set_cons_zero, List.set_cons_succ])
      | (refine gate (some 194) rfl ?_; refine wpList_appendInt wr rfl (.tmp 184) (.tmp 193) rfl wT.heap.size u18 _ (c : Int) rfl rfl O3.out HL2.out B3.out.size ?_))
    intro v1 w7 hO hG hLo
    have O4 : Hid (OI wT.heap.size w7 v1 ((cs ++ [c]).map (fun k : Nat => (k : Int)))) := by rw [List.map_append]; exact hO
    have B4 : Hid (Below wT.heap.size wT w7) := B3.out.grown hG B3.out.size (fun k hk => (own_tag O3.out hk).1)
    have OR4 : Hid (OI wT.heap.size w7 (.slice (some ⟨g9, o9, none⟩) R.length rc) (R.map (fun k : Nat => (k : Int)))) := own_grown OR.out hG (fun g hg e => PR.out g hg e)
    have PR4 : Hid (AP (.slice (some ⟨g9, o9, none⟩) R.length rc) v1) := PR.out.right OR.out hLo
    clear hO hG hLo
    go_wp2_with fail
    go_roundw
    case rel =>
      refine ⟨p + 1, cs ++ [c], by omega, by simp, by simp [hcp], fun d hd => ?_, O4.out, OR4.out, PR4.out, B4.out⟩
      rcases List.mem_append.1 hd with hd | hd
      · exact HCS.out d hd
      · simp only [List.mem_singleton] at hd; subst hd; exact HC1.out
    case measure => simp [intOf]; omega

end Go.Proofs.YbulkdfeeGreatDoor
