import Derived.Test.YbulkdfdcPart
namespace Go.Proofs.Ybulkdfdc
open Go.ChangeShapes Go.WideShapes Go.ChangeAt Go.RowKit
set_option linter.unusedVariables false
set_option linter.unusedSimpArgs false

set_option maxRecDepth 20000 in
set_option maxHeartbeats 2000000 in
theorem answer14 (B : Nat) (v : Value) (xs : List Value) (room : Int) (a : Option Addr) (cap : Nat) (ps : List Pt) (hps : ∀ p ∈ ps, p.Ok) (hn : ps.length ≤ 1024) (w : World) (hown : w.ownsRow B 5 1 v xs.length xs) (hlen : xs.length ≤ 1000000) (hB : B ≤ w.heap.size)
    (hR : RowsAt (AnRow B) B w a 28 ps) :
    Calls Yba.prog 14 #[v, .agg #[.int .i64 room, .slice a ps.length cap]] w fun e w' => ∃ v', e = .returned v' ∧ App B 5 w v xs w' v' (xs ++ encAns room ps) := by
  obtain ⟨i5, hi5, h5a, h5b, h5c⟩ := info_parts inf5
  have HO : Hid _ := hown
  have HP : Hid _ := hps
  have HR : Hid (RowsAt (AnRow B) B w a 28 ps) := hR
  clear hown hps hR
  obtain ⟨n, hne⟩ : ∃ n, ps.length = n := ⟨_, rfl⟩
  rw [hne] at hn ⊢
  have H0 : Hid (App B 5 w v xs (w.alloc (.cells #[.int .i64 room, .slice a n cap] 110)) v (xs ++ [])) := App.first HO.out _
  have hb0 : (w.alloc (.cells #[.int .i64 room, .slice a n cap] 110)).heap[w.heap.size]? = some (.cells [.int .i64 room, .slice a n cap].toArray 110 (0, 0)) := heap_alloc_new _ _
  have HB0 : Hid _ := hb0
  clear hb0
  go_enter Yba.func14, Yba.ntmps14
  go_wp2_with fail
  refine (u64_20 B v (xs ++ []) _ _ H0.out.own (by simp; omega) (by simp; omega) (wrap64 room).1 (wrap64 room).2).mono ?_
  rintro e w1 ⟨v1, rfl, hA⟩
  have H1 : Hid _ := App.next HO.out H0.out hA
  have HB1 : Hid _ := App.other H0.out.own hA HB0.out (by decide)
  have hz1 := H1.out.grown.size
  have c1 : w1.cell? ⟨w.heap.size, 1, none⟩ = some (.slice a n cap) := cell_of_block HB1.out rfl
  clear hA H0 HB0
  go_wp2_with fail
  refine (u32_21 B v1 _ (n : Int) w1 H1.out.own (by simp; omega) (by omega) (by omega) (by omega)).mono ?_
  rintro e w2 ⟨v2, rfl, hA⟩
  have H2 : Hid _ := App.next HO.out H1.out hA
  have HB2 : Hid _ := App.other H1.out.own hA HB1.out (by decide)
  have hz2 := H2.out.grown.size
  have c2 : w2.cell? ⟨w.heap.size, 1, none⟩ = some (.slice a n cap) := cell_of_block HB2.out rfl
  clear hA H1 HB1 c1 hz1
  go_wp2_with fail
  clear c2 HB2
  obtain ⟨hd, hhd⟩ : ∃ hd, hd = bytesBE 8 (IntKind.u64.wrap room) ++ bytesBE 4 (n : Int) := ⟨_, rfl⟩
  have hdl : hd.length = 12 := by rw [hhd]; simp
  have HHD : Hid _ := hhd
  clear hhd
  go_loopw [0, 25] (fun vv i wr => ∃ (k : Nat), k ≤ n ∧ i = .int .i64 k ∧ App B 5 w v xs wr vv (xs ++ (hd ++ (ps.take k).flatMap Pt.enc))) (fun _ i _ => n - (intOf i).toNat)
  case atStart => exact ⟨0, by omega, rfl, by rw [HHD.out]; simpa using H2.out⟩
  case round =>
    obtain ⟨k, hk, rfl, hA⟩ := hrel
    have HA : Hid (App B 5 w v xs wr u0 (xs ++ (hd ++ (ps.take k).flatMap Pt.enc))) := hA
    have hz := hA.grown.size
    have hlk := len_pts_take HP.out k
    rw [hne] at hlk
    clear hA hz2 H2
    by_cases hlt : k < n
    · have hlt' : (k : Int) < (n : Int) := by omega
      obtain ⟨p, hp⟩ : ∃ p, ps[k]? = some p := ⟨ps[k], List.getElem?_eq_getElem (by omega)⟩
      have HX : Hid _ := hp
      have hpo : p.Ok := HP.out p (List.mem_of_getElem? hp)
      obtain ⟨b, o, rfl, hfx, hrd⟩ := RowsAt.app HO.out HA.out (fun p cs h => AnRow.app HO.out HA.out h) HR.out (by intro h0; rw [h0] at hne; simp at hne; omega)
      obtain ⟨cs, ⟨spV, stA, stC, rfl, hsp1, hsp0, hst⟩, hcs⟩ := hrd k p hp
      have HRd : Hid (wr.rangeAt b (o + k * 28) (anCells p spV (.slice stA p.st.length stC))) := hcs
      have HXO : Hid _ := hpo
      have ho1 : spV.oneCell' = true := by
        rcases hh : p.has with _ | _
        · rw [hsp0 hh]; rfl
        · obtain ⟨ad, spC, e1, _⟩ := hsp1 hh; rw [e1]; rfl
      have HCL : Hid ((anCells p spV (.slice stA p.st.length stC)).length = 28) := len_anCells hpo _ _
      have HC1 : Hid (∀ u ∈ anCells p spV (.slice stA p.st.length stC), u.oneCell' = true) := one_anCells hpo ho1 rfl
      have HS1 : Hid _ := hsp1
      have HS0 : Hid _ := hsp0
      have HST : Hid (Reads B wr stA 43 (p.st.map Sm.cells)) := hst
      obtain ⟨ys, hys⟩ : ∃ ys, ys = xs ++ (hd ++ (ps.take k).flatMap Pt.enc) := ⟨_, rfl⟩
      have hyl : ys.length ≤ 100000000 := by rw [hys]; simp only [List.length_append]; omega
      have HY : Hid (wr.ownsRow B 5 1 u0 ys.length ys) := by rw [hys]; exact HA.out.own
      have FIN : Hid (∀ w' v', App B 5 wr u0 ys w' v' (ys ++ p.enc) → App B 5 w v xs w' v' (xs ++ (hd ++ (ps.take (k + 1)).flatMap Pt.enc))) := by
        intro w' v' h
        rw [hys] at h
        rw [flatMap_take_succ hp]
        have := App.trans HO.out HA.out h
        simpa [List.append_assoc] using this
      clear hp hpo hfx hrd hcs ho1 hsp1 hsp0 hst hys HA
      have cc : (wr.alloc (.cells (anCells p spV (.slice stA p.st.length stC)).toArray 116)).cell? ⟨wr.heap.size, 0, none⟩ = some (.bool p.ins) := cell_of_block (heap_alloc_new _ _) (an_0 _ _ _)
      go_wp2_with (first
        | (refine wpList_load_mid rfl 116 (.tmp 27) rfl b (o + k * 28) rfl (anCells p spV (.slice stA p.st.length stC)) _ HRd.out Yba.underlying116 rfl (by rw [sz116, HCL.out]) ?_)
        | (refine wpList_alloc_store rfl rfl 116 6 (.tmp 28) rfl rfl rfl rfl anZero 28 info116 rfl (anCells p spV (.slice stA p.st.length stC)).toArray (by simpa using HCL.out) (all_oneCell_toArray HC1.out) rfl rfl ?_))
      clear cc
      refine (flag22 B u0 ys p.ins _ (World.ownsRow.alloc HY.out _) (by omega) (by simp; omega)).mono ?_
      rintro e w3 ⟨v3, rfl, hA⟩
      have H3 : Hid (App B 5 wr u0 ys w3 v3 (ys ++ [flagV p.ins])) := App.behind HY.out hA
      have HG3 : Hid _ := App.other (World.ownsRow.alloc HY.out _) hA (heap_alloc_new _ _) (by decide)
      have hz3 := H3.out.grown.size
      have c0 : w3.cell? ⟨wr.heap.size, 0, none⟩ = some (.bool p.ins) := cell_of_block HG3.out (an_0 _ _ _)
      clear hA
      rcases hins : p.ins with _ | _
      · rw [hins] at c0
        rcases hhas : p.has with _ | _
        · -- Through and stamps
          obtain rfl := HS0.out hhas
          have c6 : w3.cell? ⟨wr.heap.size, 6, none⟩ = some (.slice none 0 0) := cell_of_block HG3.out (an_6 _ _ _)
          go_wp2_with (refine wpList_load_mid rfl 111 (.tmp 34) rfl wr.heap.size 1 rfl p.dg.cells _ (range_of_block HG3.out (an_dg _ _ _)) Yba.underlying111 rfl (by rw [sz111]; rfl) ?_)
          clear c0 c6
          refine (digest23 B v3 _ p.dg HXO.out.dg w3 H3.out.own (by simp; omega) (by omega)).mono ?_
          rintro e w4 ⟨v4, rfl, hA⟩
          have H4 : Hid _ := App.next HY.out H3.out hA
          have HG4 : Hid _ := App.other H3.out.own hA HG3.out (by decide)
          have hz4 := H4.out.grown.size
          clear hA
          go_wp2_with fail
          refine (flag22 B v4 _ false w4 H4.out.own (by simp; omega) (by omega)).mono ?_
          rintro e w5 ⟨v5, rfl, hA⟩
          have H5 : Hid (App B 5 wr u0 ys w5.drew v5 _) := (App.next HY.out H4.out hA).drew
          have HG5 : Hid (w5.drew.heap[wr.heap.size]? = some (.cells (anCells p (.slice none 0 0) (.slice stA p.st.length stC)).toArray 116 (0, 0))) := App.other H4.out.own hA HG4.out (by decide)
          have hz5 := H5.out.grown.size
          clear hA H3 HG3 hz3 H4 HG4 hz4
          go_wp2_with fail
          refine wp_region_held_drew (S := fun W => W.heap[wr.heap.size]? = some (.cells (anCells p (.slice none 0 0) (.slice stA p.st.length stC)).toArray 116 (0, 0))) (by kernel_rfl) HG5.out (fun _ => ?_)
          refine wpAnyH_take (i := 0) (v := v5) rfl (by kernel_rfl) (by kernel_rfl) (by kernel_rfl) (fun _ _ _ h => h) (Or.inl ⟨by rfl, fun W hW => by go_simp⟩) HG5.out ?_
          simp only [Act.put, List.setIfInBounds_toArray, List.set_cons_zero, List.set_cons_succ]
          refine wpAnyH_take (i := 1) (v := .pointer (some ⟨wr.heap.size, 7, none⟩)) rfl (by kernel_rfl) (by kernel_rfl) (by kernel_rfl) (fun _ _ _ h => h) (Or.inl ⟨by rfl, fun W hW => by go_simp⟩) HG5.out ?_
          simp only [Act.put, List.setIfInBounds_toArray, List.set_cons_zero, List.set_cons_succ]
          refine wpAnyH_take (i := 2) (v := .slice (some ⟨wr.heap.size, 7, none⟩) 20 20) rfl (by kernel_rfl) (by kernel_rfl) (by kernel_rfl) (fun _ _ _ h => h) (Or.inl ⟨by rfl, fun W hW => by go_simp⟩) HG5.out ?_
          simp only [Act.put, List.setIfInBounds_toArray, List.set_cons_zero, List.set_cons_succ]
          refine wpAnyH_take (i := 4) (v := .pointer (some ⟨wr.heap.size, 27, none⟩)) rfl (by kernel_rfl) (by kernel_rfl) (by kernel_rfl) (fun _ _ _ h => h) (Or.inl ⟨by rfl, fun W hW => by go_simp⟩) HG5.out ?_
          simp only [Act.put, List.setIfInBounds_toArray, List.set_cons_zero, List.set_cons_succ]
          refine wpAnyH_take (i := 5) (v := .slice stA p.st.length stC) rfl (by kernel_rfl) (by kernel_rfl) (by kernel_rfl) (fun _ _ _ h => h) (Or.inl ⟨by rfl, fun W hW => by have hd := cell_of_block hW (an_27 HXO.out _ _); go_simp⟩) HG5.out ?_
          simp only [Act.put, List.setIfInBounds_toArray, List.set_cons_zero, List.set_cons_succ]
          refine wpAnyH_ready (rs := [3]) (by kernel_rfl) (by simp) ?_
          refine AllReadyH.cons rfl (fun K hK => ?_) AllReadyH.nil
          refine step_append_app rfl (.tmp 38) (.tmp 40) 23 rfl B 5 i5 (.int .u8 0) 1 Yba.underlying23 hi5 h5a h5b h5c rfl v5 _ rfl H5.out.own ⟨wr.heap.size, 7, none⟩ 20 20 p.th rfl HXO.out.th.len.symm (news_block HG5.out (an_th _ _ _)) HXO.out.th.one (by rw [HXO.out.th.len]; simp; unfold maxLen; omega) (by rw [HXO.out.th.len]; simp; omega) (by simp at hz5 ⊢; omega) ?_
          intro v6 w6 hA
          have H6 : Hid _ := App.next HY.out H5.out hA
          have HG6 : Hid _ := App.other H5.out.own hA HG5.out (by decide)
          have hz6 := H6.out.grown.size
          refine hK.out _ _ HG6.out (fun _ => ?_)
          simp only [Act.put, List.setIfInBounds_toArray, List.set_cons_zero, List.set_cons_succ]
          clear hA hK K H5 HG5 hz5
          refine wpAnyH_ready (rs := [6]) (by kernel_rfl) (by simp) ?_
          refine AllReadyH.cons rfl (fun K hK => ?_) AllReadyH.nil
          rw [if_pos (by rfl)]
          go_simp
          refine (stamps24 B v6 _ stA stC p.st HXO.out.st HXO.out.stn w6 H6.out.own (by simp [HXO.out.th.len]; omega) (by omega) (Reads.app HY.out H6.out HST.out)).mono ?_
          rintro e w7 ⟨v7, rfl, hA⟩
          have H7 : Hid _ := App.next HY.out H6.out hA
          have HG7 : Hid _ := App.other H6.out.own hA HG6.out (by decide)
          refine hK.out _ _ HG7.out (fun _ => ?_)
          clear hA hK K HG6
          refine wpAnyH_take (i := 7) (v := v7) rfl (by kernel_rfl) (by kernel_rfl) (by kernel_rfl) (fun _ _ _ h => h) (Or.inl ⟨by rfl, fun W hW => by go_simp⟩) HG7.out ?_
          simp only [Act.put, List.setIfInBounds_toArray, List.set_cons_zero, List.set_cons_succ]
          refine wpAnyH_done (by kernel_rfl) ?_ _
          clear HG7 HST
          have R := FIN.out w7 v7 (by have := H7.out; rw [hins] at this; simpa [Pt.enc, Pt.body, hins, hhas] using this)
          clear H6 H7
          go_wp2_with fail
          go_roundw
          case rel => exact ⟨k + 1, by omega, by simp, R⟩
          case measure => simp [intOf]; omega
        · -- the split
          obtain ⟨ad, spC, rfl, hsr⟩ := HS1.out hhas
          have HSR : Hid (Reads B wr (some ad) 5 (p.sp.map Dg.cells)) := hsr
          have hspn := HXO.out.spn
          clear hsr
          have c6 : w3.cell? ⟨wr.heap.size, 6, none⟩ = some (.slice (some ad) p.sp.length spC) := cell_of_block HG3.out (an_6 _ _ _)
          go_wp2_with (refine wpList_load_mid rfl 111 (.tmp 53) rfl wr.heap.size 1 rfl p.dg.cells _ (range_of_block HG3.out (an_dg _ _ _)) Yba.underlying111 rfl (by rw [sz111]; rfl) ?_)
          clear c0 c6
          refine (digest23 B v3 _ p.dg HXO.out.dg w3 H3.out.own (by simp; omega) (by omega)).mono ?_
          rintro e w4 ⟨v4, rfl, hA⟩
          have H4 : Hid _ := App.next HY.out H3.out hA
          have HG4 : Hid _ := App.other H3.out.own hA HG3.out (by decide)
          have hz4 := H4.out.grown.size
          clear hA
          go_wp2_with fail
          refine (flag22 B v4 _ true w4 H4.out.own (by simp; omega) (by omega)).mono ?_
          rintro e w5 ⟨v5, rfl, hA⟩
          have H5 : Hid (App B 5 wr u0 ys w5 v5 _) := App.next HY.out H4.out hA
          have HG5 : Hid _ := App.other H4.out.own hA HG4.out (by decide)
          have hz5 := H5.out.grown.size
          have c6 : w5.cell? ⟨wr.heap.size, 6, none⟩ = some (.slice (some ad) p.sp.length spC) := cell_of_block HG5.out (an_6 _ _ _)
          clear hA H3 HG3 hz3 H4 HG4 hz4
          go_wp2_with fail
          clear c6 HG5
          obtain ⟨m, hm⟩ : ∃ m, p.sp.length = m := ⟨_, rfl⟩
          rw [hm] at hspn ⊢
          obtain ⟨mid, hmid⟩ : ∃ mid, mid = ([flagV p.ins] ++ p.dg.enc) ++ [flagV true] := ⟨_, rfl⟩
          have hml : mid.length = 42 := by rw [hmid]; simp
          rw [← hmid] at H5
          have HM : Hid _ := hmid
          clear hmid
          go_loopw [0, 60] (fun vv i wx => ∃ (j : Nat), j ≤ m ∧ i = .int .i64 j ∧ App B 5 wr u0 ys wx vv (ys ++ (mid ++ (p.sp.take j).flatMap Dg.enc))) (fun _ i _ => m - (intOf i).toNat)
          case atStart => exact ⟨0, by omega, rfl, by simpa using H5.out⟩
          case round =>
            obtain ⟨j, hj, rfl, hA⟩ := hrel
            have HA : Hid _ := hA
            have hzx := hA.grown.size
            have hlj := len_dgs_take p.sp j
            rw [hm] at hlj
            clear hA
            by_cases hltj : j < m
            · have hltj' : (j : Int) < (m : Int) := by omega
              obtain ⟨x, hx⟩ : ∃ x, p.sp[j]? = some x := ⟨p.sp[j], List.getElem?_eq_getElem (by omega)⟩
              have HX2 : Hid _ := hx
              have HXO2 : Hid _ := HXO.out.sp x (List.mem_of_getElem? hx)
              obtain ⟨b2, o2, e2, hfx, hrd⟩ := Reads.app HY.out HA.out HSR.out (map_ne (by omega))
              obtain rfl := Option.some.inj e2
              have HRd2 : Hid _ := hrd j x.cells (by simp [hx])
              clear hx hfx hrd e2
              go_wp2_with (first
                | (refine wpList_load_mid rfl 111 (.tmp 62) rfl b2 (o2 + j * 5) rfl x.cells _ HRd2.out Yba.underlying111 rfl (by rw [sz111]; rfl) ?_)
                | (refine wpList_alloc_store rfl rfl 111 8 (.tmp 63) rfl rfl rfl rfl dgZero 5 info111 rfl x.cells.toArray rfl (all_oneCell_toArray (one_dg x)) rfl rfl ?_)
                | (refine wpList_load_mid rfl 111 (.tmp 8) rfl _ 0 rfl x.cells _ (range_new x.cells 111) Yba.underlying111 rfl (by rw [sz111]; rfl) ?_))
              refine (digest23 B _ _ x HXO2.out _ (World.ownsRow.alloc HA.out.own _) (by simp only [List.length_append]; omega) (by simp; omega)).mono ?_
              rintro e w8 ⟨v8, rfl, hA⟩
              have R := App.next HY.out HA.out (App.behind HA.out.own hA)
              clear hA
              go_wp2_with fail
              go_roundw
              case rel => exact ⟨j + 1, by omega, by simp, by rw [flatMap_take_succ HX2.out]; simpa [List.append_assoc] using R⟩
              case measure => simp [intOf]; omega
            · obtain rfl : j = m := by omega
              have R := FIN.out _ _ (by
                have := HA.out
                rw [List.take_of_length_le (by omega), HM.out, hins] at this
                simpa [Pt.enc, Pt.body, hins, hhas] using this)
              go_wp2_with fail
              go_roundw
              case rel => exact ⟨k + 1, by omega, by simp, R⟩
              case measure => simp [intOf]; omega
      · go_wp2_with fail
        have R := FIN.out w3 v3 (by have := H3.out; rw [hins] at this; simpa [Pt.enc, Pt.body, hins] using this)
        go_roundw
        case rel => exact ⟨k + 1, by omega, by simp, R⟩
        case measure => simp [intOf]; omega
    · obtain rfl : k = n := by omega
      go_wp2_with fail
      go_ret
      refine ⟨u0, rfl, ?_⟩
      have := HA.out
      rw [List.take_of_length_le (by omega), HHD.out] at this
      rw [encAns, hne]
      exact this
end Go.Proofs.Ybulkdfdc
