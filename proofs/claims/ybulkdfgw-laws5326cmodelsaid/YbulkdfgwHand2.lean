import Derived.Test.YbulkdfgwHand
namespace Go.Proofs.Ybulkdfgw
open Go.ChangeShapes Go.WideShapes Go.ChangeAt Go.RowKit
set_option linter.unusedVariables false
set_option linter.unusedSimpArgs false

/-- Inside takingHandover: the two boxes, the result's row. -/
structure TH (W0 : World) (pred st : Pr) (w : World) : Prop where
  bel : Below W0.heap.size W0 w
  p : w.rangeAt W0.heap.size 0 pred.cells
  s : w.rangeAt (W0.heap.size + 1) 0 st.cells
  r : w.heap[W0.heap.size + 2]? = some (.cells Z87 87 (0, 0))
  sz : W0.heap.size + 3 ≤ w.heap.size
theorem TH.under {W0 : World} {pred st : Pr} {w w' : World} (h : TH W0 pred st w) (hB : Below (W0.heap.size + 3) w w') : TH W0 pred st w' := by
  have := h.sz
  have := hB.size
  exact ⟨h.bel.trans (hB.mono (by omega)), rangeAt_blk (hB.block _ (by omega)) h.p, rangeAt_blk (hB.block _ (by omega)) h.s, by rw [hB.block _ (by omega)]; exact h.r, by omega⟩
theorem TH.below {W0 : World} {pred st : Pr} {w w' : World} (h : TH W0 pred st w) (hB : Below w.heap.size w w') : TH W0 pred st w' := h.under (hB.mono h.sz)
theorem th_made (w : World) (pred st : Pr) : ∀ w3, w3 = ((w.alloc (.cells pred.cells.toArray 67)).alloc (.cells st.cells.toArray 67)).alloc (.cells Z87 87) → TH w pred st w3 := by
  intro w3 hw
  subst hw
  have e1 : (w.alloc (.cells pred.cells.toArray 67)).heap.size = w.heap.size + 1 := by simp
  have e2 : ((w.alloc (.cells pred.cells.toArray 67)).alloc (.cells st.cells.toArray 67)).heap.size = w.heap.size + 2 := by simp
  have n1 := heap_alloc_new w (.cells pred.cells.toArray 67)
  have n2 := heap_alloc_new (w.alloc (.cells pred.cells.toArray 67)) (.cells st.cells.toArray 67)
  have n3 := heap_alloc_new ((w.alloc (.cells pred.cells.toArray 67)).alloc (.cells st.cells.toArray 67)) (.cells Z87 87)
  rw [e1] at n2
  rw [e2] at n3
  refine ⟨(((Below.refl _ w).alloc (Nat.le_refl _) _).alloc (by omega) _).alloc (by omega) _, range_of_blk (t := 67) (fr := (0, 0)) ?_, range_of_blk (t := 67) (fr := (0, 0)) ?_, n3, by simp⟩
  · rw [Below.heap_alloc _ _ _ (by omega), Below.heap_alloc _ _ _ (by omega)]; exact n1
  · rw [Below.heap_alloc _ _ _ (by omega)]; exact n2
/-- .. and the row in the making. -/
def THR (W0 : World) (pred st : Pr) (g9 : Nat) (row : List Value) (w : World) : Prop := TH W0 pred st w ∧ w.heap[g9]? = some (.cells row.toArray 87 (0, 0)) ∧ W0.heap.size + 3 ≤ g9
theorem THR.below {W0 : World} {pred st : Pr} {g9 : Nat} {row : List Value} {w w' : World} (h : THR W0 pred st g9 row w) (hB : Below w.heap.size w w') : THR W0 pred st g9 row w' :=
  ⟨h.1.below hB, by rw [hB.block _ (Array.getElem?_eq_some_iff.1 h.2.1).1]; exact h.2.1, h.2.2⟩
theorem one_tk (ns : List Int) : ∀ u ∈ tk16 ns, u.oneCell' = true := by
  intro u hu
  rcases List.mem_append.1 hu with h | h
  · obtain ⟨q, _, rfl⟩ := List.mem_map.1 h; rfl
  · rw [(List.mem_replicate.1 h).2]; rfl
theorem len_zb : zb.length = 45 := rfl
theorem there_blk {w : World} {g : Nat} {cs : List Value} {t : TypeId} (h : w.heap[g]? = some (.cells cs.toArray t (0, 0))) {o n : Nat} (hl : o + n ≤ cs.length) : w.there g o n := fun j hj => by
  refine ⟨?_, by simp [World.frozen?, h]⟩
  simp only [World.cell?, h]
  simp
  omega

set_option maxHeartbeats 4000000 in
set_option maxRecDepth 20000 in
theorem hand15 (gr : Nat) (me own rs : Pr) (ta : Option Addr) (tc : Nat) (ns : List Int) (pred st : Pr) (z : Int) (hs : me.Ok) (ho : own.Ok) (hr : rs.Ok) (hp : pred.Ok) (hst : st.Ok) (hn : ns.length ≤ 1024) (w : World) (h : RngAt gr me own rs (.slice ta ns.length tc) w) (hN : NumsAt w ta ns) :
    Calls Yba.prog 15 #[.pointer (some ⟨gr, 0, none⟩), .agg pred.cells.toArray, .agg st.cells.toArray, .int .u64 z] w fun e w' => e = .returned (.agg (thV me own rs pred st ns z).toArray) ∧ Below w.heap.size w w' := by
  have HR : Hid (RngAt gr me own rs (.slice ta ns.length tc) w) := h
  have HNS : Hid (NumsAt w ta ns) := hN
  obtain ⟨w3, hw3⟩ : ∃ w3, w3 = ((w.alloc (.cells pred.cells.toArray 67)).alloc (.cells st.cells.toArray 67)).alloc (.cells Z87 87) := ⟨_, rfl⟩
  have T0 : Hid (TH w pred st w3) := th_made w pred st w3 hw3
  unfold Z87 at hw3
  clear h hN
  go_enter Yba.func15, Yba.ntmps15
  go_wp2_with fail
  rw [← hw3]
  clear hw3
  go_cut [9] from 10 to 26 (fun s9 wx => ∃ g9, s9 = .pointer (some ⟨g9, 0, none⟩) ∧ THR w pred st g9 (rowTH (eqP own zeroP) (agV ns z) zb zt) wx)
  case first =>
    have SA : Hid (TH w pred st w3.drew) := ⟨T0.out.bel.drew, T0.out.p, T0.out.s, T0.out.r, T0.out.sz⟩
    have hz3 : w.heap.size + 3 ≤ w3.heap.size := SA.out.sz
    clear T0
    refine wp_region_noPanic ?_
    refine wp_region_held_drew (S := TH w pred st) (by kernel_rfl) SA.out (fun _ => ?_)
    refine wpAnyH_take (i := 0) (oi := { dst := some 10, op := _, type := _, pos := _, after := _, guard := _ }) (v := .pointer (some ⟨gr, 0, none⟩)) rfl (by kernel_rfl) (by kernel_rfl) (by kernel_rfl) (fun _ _ _ h => h) (Or.inl ⟨by rfl, fun W hW => by clear hW; go_simp⟩) SA.out ?_
    simp only [Act.put, List.setIfInBounds_toArray, List.set_cons_zero, List.set_cons_succ]
    refine wpAnyH_take (i := 1) (oi := { dst := some 11, op := _, type := _, pos := _, after := _, guard := _ }) (v := .pointer (some ⟨gr, 0, none⟩)) rfl (by kernel_rfl) (by kernel_rfl) (by kernel_rfl) (fun _ _ _ h => h) (Or.inl ⟨by rfl, fun W hW => by clear hW; go_simp⟩) SA.out ?_
    simp only [Act.put, List.setIfInBounds_toArray, List.set_cons_zero, List.set_cons_succ]
    refine wpAnyH_take (i := 2) (oi := { dst := some 12, op := _, type := _, pos := _, after := _, guard := _ }) (v := .pointer (some ⟨gr, 23, none⟩)) rfl (by kernel_rfl) (by kernel_rfl) (by kernel_rfl) (fun _ _ _ h => h) (Or.inl ⟨by rfl, fun W hW => by clear hW; go_simp⟩) SA.out ?_
    simp only [Act.put, List.setIfInBounds_toArray, List.set_cons_zero, List.set_cons_succ]
    refine wpAnyH_take (i := 3) (oi := { dst := some 13, op := _, type := _, pos := _, after := _, guard := _ }) (v := .agg own.cells.toArray) rfl (by kernel_rfl) (by kernel_rfl) (by kernel_rfl) (fun _ _ _ h => h) (yieldsIf_load_mid (by rfl) 67 (.tmp 12) rfl gr 23 rfl _ _ (fun W hW => (HR.out.below hW.bel).2.2.1) Yba.underlying67 rfl (by rw [sz67, ho.cells])) SA.out ?_
    simp only [Act.put, List.setIfInBounds_toArray, List.set_cons_zero, List.set_cons_succ]
    refine wpAnyH_take (i := 4) (oi := { dst := some 14, op := _, type := _, pos := _, after := _, guard := _ }) (v := .agg zeroP.cells.toArray) rfl (by kernel_rfl) (by kernel_rfl) (by kernel_rfl) (fun _ _ _ h => h) (Or.inl ⟨by rfl, fun W hW => exec_build0 rfl W⟩) SA.out ?_
    simp only [Act.put, List.setIfInBounds_toArray, List.set_cons_zero, List.set_cons_succ]
    refine wpAnyH_take (i := 5) (oi := { dst := some 15, op := _, type := _, pos := _, after := _, guard := _ }) (v := .bool (eqP own zeroP)) rfl (by kernel_rfl) (by kernel_rfl) (by kernel_rfl) (fun _ _ _ h => h) (Or.inl ⟨by rfl, fun W hW => (show eqP own zeroP = eqP own zeroP from rfl) ▸ exec_eql67 (x := .tmp 13) (y := .tmp 14) rfl rfl rfl ho zeroP_ok W⟩) SA.out ?_
    simp only [Act.put, List.setIfInBounds_toArray, List.set_cons_zero, List.set_cons_succ]
    refine wpAnyH_take (i := 6) (oi := { dst := some 16, op := _, type := _, pos := _, after := _, guard := _ }) (v := .int .u64 z) rfl (by kernel_rfl) (by kernel_rfl) (by kernel_rfl) (fun _ _ _ h => h) (Or.inl ⟨by rfl, fun W hW => by clear hW; go_simp⟩) SA.out ?_
    simp only [Act.put, List.setIfInBounds_toArray, List.set_cons_zero, List.set_cons_succ]
    by_cases hz0 : z = 0
    · have hb0 : (z == 0) = true := by simp [hz0]
      have hag : agV ns z = false := by unfold agV; rw [hb0]; rfl
      have HNZ : Hid (z = 0) := hz0
      clear hz0 hb0
      refine wpAnyH_take (i := 7) (oi := { dst := some 17, op := _, type := _, pos := _, after := _, guard := _ }) (v := .bool false) rfl (by kernel_rfl) (by kernel_rfl) (by kernel_rfl) (fun _ _ _ h => h) (Or.inl ⟨by rfl, fun W hW => by have hd : z = 0 := HNZ.out; clear hW; subst hd; go_simp⟩) SA.out ?_
      simp only [Act.put, List.setIfInBounds_toArray, List.set_cons_zero, List.set_cons_succ]
      refine wpAnyH_take (i := 8) (oi := { dst := some 18, op := _, type := _, pos := _, after := _, guard := _ }) (v := .bool false) rfl (by kernel_rfl) (by kernel_rfl) (by kernel_rfl) (fun _ _ _ h => h) (Or.inl ⟨by rfl, fun W hW => by clear hW; go_simp⟩) SA.out ?_
      simp only [Act.put, List.setIfInBounds_toArray, List.set_cons_zero, List.set_cons_succ]
      refine wpAnyH_take (i := 9) (oi := { dst := some 19, op := _, type := _, pos := _, after := _, guard := _ }) (v := undef) rfl (by kernel_rfl) (by kernel_rfl) (by kernel_rfl) (fun _ _ _ h => h) (Or.inr ⟨by rfl, rfl⟩) SA.out ?_
      simp only [Act.put, List.setIfInBounds_toArray, List.set_cons_zero, List.set_cons_succ]
      refine wpAnyH_take (i := 10) (oi := { dst := some 20, op := _, type := _, pos := _, after := _, guard := _ }) (v := undef) rfl (by kernel_rfl) (by kernel_rfl) (by kernel_rfl) (fun _ _ _ h => h) (Or.inr ⟨by rfl, rfl⟩) SA.out ?_
      simp only [Act.put, List.setIfInBounds_toArray, List.set_cons_zero, List.set_cons_succ]
      refine wpAnyH_take (i := 11) (oi := { dst := some 21, op := _, type := _, pos := _, after := _, guard := _ }) (v := undef) rfl (by kernel_rfl) (by kernel_rfl) (by kernel_rfl) (fun _ _ _ h => h) (Or.inr ⟨by rfl, rfl⟩) SA.out ?_
      simp only [Act.put, List.setIfInBounds_toArray, List.set_cons_zero, List.set_cons_succ]
      refine wpAnyH_take (i := 12) (oi := { dst := some 22, op := _, type := _, pos := _, after := _, guard := _ }) (v := undef) rfl (by kernel_rfl) (by kernel_rfl) (by kernel_rfl) (fun _ _ _ h => h) (Or.inr ⟨by rfl, rfl⟩) SA.out ?_
      simp only [Act.put, List.setIfInBounds_toArray, List.set_cons_zero, List.set_cons_succ]
      refine wpAnyH_take (i := 13) (oi := { dst := some 23, op := _, type := _, pos := _, after := _, guard := _ }) (v := undef) rfl (by kernel_rfl) (by kernel_rfl) (by kernel_rfl) (fun _ _ _ h => h) (Or.inr ⟨by rfl, rfl⟩) SA.out ?_
      simp only [Act.put, List.setIfInBounds_toArray, List.set_cons_zero, List.set_cons_succ]
      refine wpAnyH_ready (rs := [14, 17]) (by kernel_rfl) (by simp) ?_
      refine AllReadyH.cons rfl (fun K hK => ?_) (AllReadyH.cons rfl (fun K hK => ?_) AllReadyH.nil)
      · refine ite_skip (fun h0 => Bool.false_ne_true h0) ?_
        go_simp
        refine hK.out _ _ SA.out (fun _ => ?_)
        clear hK K
        refine wpAnyH_take (i := 15) (oi := { dst := some 25, op := _, type := _, pos := _, after := _, guard := _ }) (v := .bool false) rfl (by kernel_rfl) (by kernel_rfl) (by kernel_rfl) (fun _ _ _ h => h) (Or.inl ⟨by rfl, fun W hW => by clear hW; go_simp⟩) SA.out ?_
        simp only [Act.put, List.setIfInBounds_toArray, List.set_cons_zero, List.set_cons_succ]
        refine wpAnyH_take (i := 16) (oi := { dst := some 26, op := _, type := _, pos := _, after := _, guard := _ }) (v := .agg (rowTH (eqP own zeroP) false zb zt).toArray) rfl (by kernel_rfl) (by kernel_rfl) (by kernel_rfl) (fun _ _ _ h => h) (Or.inl ⟨by rfl, fun W hW => exec_build87 rfl rfl rfl W⟩) SA.out ?_
        simp only [Act.put, List.setIfInBounds_toArray, List.set_cons_zero, List.set_cons_succ]
        refine wpAnyH_ready (rs := [17]) (by kernel_rfl) (by simp) ?_
        refine AllReadyH.cons rfl (fun K hK => ?_) AllReadyH.nil
        rw [if_pos (by rfl)]
        go_simp
        have SC : Hid (TH w pred st (w3.drew.alloc (.cells Z87 87))) := SA.out.below ((Below.refl _ _).alloc (Nat.le_refl _) _)
        have HN9 : Hid ((w3.drew.alloc (.cells Z87 87)).heap[w3.heap.size]? = some (.cells Z87 87 (0, 0))) := heap_alloc_new w3.drew _
        refine hK.out _ _ SC.out (fun _ => ?_)
        clear hK K
        refine wpAnyH_ready (rs := [18]) (by kernel_rfl) (by simp) ?_
        refine AllReadyH.cons rfl (fun K hK => ?_) AllReadyH.nil
        refine step_store_row rfl 87 (.tmp 9) (.tmp 26) rfl w3.heap.size (rowTH (eqP own zeroP) false zb zt).toArray rfl rfl 87 _ HN9.out sz87 rfl (all_oneCell_toArray (one_row (one_tb _ _ _ _ _) one_zt)) ?_
        have SD : Hid (TH w pred st ((w3.drew.alloc (.cells Z87 87)).setRow w3.heap.size (rowTH (eqP own zeroP) false zb zt).toArray)) := SC.out.under (below_row' (Below.refl _ _) hz3 _)
        have HF : Hid (((w3.drew.alloc (.cells Z87 87)).setRow w3.heap.size (rowTH (eqP own zeroP) false zb zt).toArray).heap[w3.heap.size]? = some (.cells (rowTH (eqP own zeroP) false zb zt).toArray 87 (0, 0))) := setRow_heap _ _ _ _ _ _ HN9.out
        refine hK.out _ _ SD.out (fun _ => ?_)
        clear hK K
        refine wpAnyH_done (by kernel_rfl) ?_ _
        refine NoPanic.normal ?_
        go_wp2_with fail
        go_meet
        case rel => exact ⟨_, rfl, SD.out, by rw [hag]; exact HF.out, hz3⟩
      · rw [if_pos (by rfl)]
        go_simp
        have SC : Hid (TH w pred st (w3.drew.alloc (.cells Z87 87))) := SA.out.below ((Below.refl _ _).alloc (Nat.le_refl _) _)
        have HN9 : Hid ((w3.drew.alloc (.cells Z87 87)).heap[w3.heap.size]? = some (.cells Z87 87 (0, 0))) := heap_alloc_new w3.drew _
        refine hK.out _ _ SC.out (fun _ => ?_)
        clear hK K
        refine wpAnyH_ready (rs := [14]) (by kernel_rfl) (by simp) ?_
        refine AllReadyH.cons rfl (fun K hK => ?_) AllReadyH.nil
        refine ite_skip (fun h0 => Bool.false_ne_true h0) ?_
        go_simp
        refine hK.out _ _ SC.out (fun _ => ?_)
        clear hK K
        refine wpAnyH_take (i := 15) (oi := { dst := some 25, op := _, type := _, pos := _, after := _, guard := _ }) (v := .bool false) rfl (by kernel_rfl) (by kernel_rfl) (by kernel_rfl) (fun _ _ _ h => h) (Or.inl ⟨by rfl, fun W hW => by clear hW; go_simp⟩) SC.out ?_
        simp only [Act.put, List.setIfInBounds_toArray, List.set_cons_zero, List.set_cons_succ]
        refine wpAnyH_take (i := 16) (oi := { dst := some 26, op := _, type := _, pos := _, after := _, guard := _ }) (v := .agg (rowTH (eqP own zeroP) false zb zt).toArray) rfl (by kernel_rfl) (by kernel_rfl) (by kernel_rfl) (fun _ _ _ h => h) (Or.inl ⟨by rfl, fun W hW => exec_build87 rfl rfl rfl W⟩) SC.out ?_
        simp only [Act.put, List.setIfInBounds_toArray, List.set_cons_zero, List.set_cons_succ]
        refine wpAnyH_ready (rs := [18]) (by kernel_rfl) (by simp) ?_
        refine AllReadyH.cons rfl (fun K hK => ?_) AllReadyH.nil
        refine step_store_row rfl 87 (.tmp 9) (.tmp 26) rfl w3.heap.size (rowTH (eqP own zeroP) false zb zt).toArray rfl rfl 87 _ HN9.out sz87 rfl (all_oneCell_toArray (one_row (one_tb _ _ _ _ _) one_zt)) ?_
        have SD : Hid (TH w pred st ((w3.drew.alloc (.cells Z87 87)).setRow w3.heap.size (rowTH (eqP own zeroP) false zb zt).toArray)) := SC.out.under (below_row' (Below.refl _ _) hz3 _)
        have HF : Hid (((w3.drew.alloc (.cells Z87 87)).setRow w3.heap.size (rowTH (eqP own zeroP) false zb zt).toArray).heap[w3.heap.size]? = some (.cells (rowTH (eqP own zeroP) false zb zt).toArray 87 (0, 0))) := setRow_heap _ _ _ _ _ _ HN9.out
        refine hK.out _ _ SD.out (fun _ => ?_)
        clear hK K
        refine wpAnyH_done (by kernel_rfl) ?_ _
        refine NoPanic.normal ?_
        go_wp2_with fail
        go_meet
        case rel => exact ⟨_, rfl, SD.out, by rw [hag]; exact HF.out, hz3⟩
    · have hb0 : (z == 0) = false := by simpa using hz0
      have hag : agV ns z = decide (z ∈ ns) := by unfold agV; rw [hb0]; simp
      have hnz : (z != 0) = true := by simpa using hz0
      refine wpAnyH_take (i := 7) (oi := { dst := some 17, op := _, type := _, pos := _, after := _, guard := _ }) (v := .bool true) rfl (by kernel_rfl) (by kernel_rfl) (by kernel_rfl) (fun _ _ _ h => h) (Or.inl ⟨by rfl, fun W hW => by clear hW; go_simp⟩) SA.out ?_
      simp only [Act.put, List.setIfInBounds_toArray, List.set_cons_zero, List.set_cons_succ]
      refine wpAnyH_take (i := 8) (oi := { dst := some 18, op := _, type := _, pos := _, after := _, guard := _ }) (v := .bool true) rfl (by kernel_rfl) (by kernel_rfl) (by kernel_rfl) (fun _ _ _ h => h) (Or.inl ⟨by rfl, fun W hW => by clear hW; go_simp⟩) SA.out ?_
      simp only [Act.put, List.setIfInBounds_toArray, List.set_cons_zero, List.set_cons_succ]
      refine wpAnyH_take (i := 9) (oi := { dst := some 19, op := _, type := _, pos := _, after := _, guard := _ }) (v := .pointer (some ⟨gr, 0, none⟩)) rfl (by kernel_rfl) (by kernel_rfl) (by kernel_rfl) (fun _ _ _ h => h) (Or.inl ⟨by rfl, fun W hW => by clear hW; go_simp⟩) SA.out ?_
      simp only [Act.put, List.setIfInBounds_toArray, List.set_cons_zero, List.set_cons_succ]
      refine wpAnyH_take (i := 10) (oi := { dst := some 20, op := _, type := _, pos := _, after := _, guard := _ }) (v := .pointer (some ⟨gr, 0, none⟩)) rfl (by kernel_rfl) (by kernel_rfl) (by kernel_rfl) (fun _ _ _ h => h) (Or.inl ⟨by rfl, fun W hW => by clear hW; go_simp⟩) SA.out ?_
      simp only [Act.put, List.setIfInBounds_toArray, List.set_cons_zero, List.set_cons_succ]
      refine wpAnyH_take (i := 11) (oi := { dst := some 21, op := _, type := _, pos := _, after := _, guard := _ }) (v := .pointer (some ⟨gr, 87, none⟩)) rfl (by kernel_rfl) (by kernel_rfl) (by kernel_rfl) (fun _ _ _ h => h) (Or.inl ⟨by rfl, fun W hW => by clear hW; go_simp⟩) SA.out ?_
      simp only [Act.put, List.setIfInBounds_toArray, List.set_cons_zero, List.set_cons_succ]
      refine wpAnyH_take (i := 12) (oi := { dst := some 22, op := _, type := _, pos := _, after := _, guard := _ }) (v := .slice ta ns.length tc) rfl (by kernel_rfl) (by kernel_rfl) (by kernel_rfl) (fun _ _ _ h => h) (Or.inl ⟨by rfl, fun W hW => by have hd := (HR.out.below hW.bel).2.2.2.2; clear hW; go_simp⟩) SA.out ?_
      simp only [Act.put, List.setIfInBounds_toArray, List.set_cons_zero, List.set_cons_succ]
      refine wpAnyH_take (i := 13) (oi := { dst := some 23, op := _, type := _, pos := _, after := _, guard := _ }) (v := .int .u64 z) rfl (by kernel_rfl) (by kernel_rfl) (by kernel_rfl) (fun _ _ _ h => h) (Or.inl ⟨by rfl, fun W hW => by clear hW; go_simp⟩) SA.out ?_
      simp only [Act.put, List.setIfInBounds_toArray, List.set_cons_zero, List.set_cons_succ]
      refine wpAnyH_ready (rs := [14, 17]) (by kernel_rfl) (by simp) ?_
      refine AllReadyH.cons rfl (fun K hK => ?_) (AllReadyH.cons rfl (fun K hK => ?_) AllReadyH.nil)
      · rw [if_pos (by rfl)]
        go_simp
        refine (contains24 ta ns tc z hn w3.drew (HNS.out.below SA.out.bel)).mono ?_
        rintro e w5 ⟨rfl, rfl⟩
        refine hK.out _ _ SA.out (fun _ => ?_)
        clear hK K
        refine wpAnyH_take (i := 15) (oi := { dst := some 25, op := _, type := _, pos := _, after := _, guard := _ }) (v := .bool (decide (z ∈ ns))) rfl (by kernel_rfl) (by kernel_rfl) (by kernel_rfl) (fun _ _ _ h => h) (Or.inl ⟨by rfl, fun W hW => by clear hW; go_simp⟩) SA.out ?_
        simp only [Act.put, List.setIfInBounds_toArray, List.set_cons_zero, List.set_cons_succ]
        refine wpAnyH_take (i := 16) (oi := { dst := some 26, op := _, type := _, pos := _, after := _, guard := _ }) (v := .agg (rowTH (eqP own zeroP) (decide (z ∈ ns)) zb zt).toArray) rfl (by kernel_rfl) (by kernel_rfl) (by kernel_rfl) (fun _ _ _ h => h) (Or.inl ⟨by rfl, fun W hW => exec_build87 rfl rfl rfl W⟩) SA.out ?_
        simp only [Act.put, List.setIfInBounds_toArray, List.set_cons_zero, List.set_cons_succ]
        refine wpAnyH_ready (rs := [17]) (by kernel_rfl) (by simp) ?_
        refine AllReadyH.cons rfl (fun K hK => ?_) AllReadyH.nil
        rw [if_pos (by rfl)]
        go_simp
        have SC : Hid (TH w pred st (w3.drew.alloc (.cells Z87 87))) := SA.out.below ((Below.refl _ _).alloc (Nat.le_refl _) _)
        have HN9 : Hid ((w3.drew.alloc (.cells Z87 87)).heap[w3.heap.size]? = some (.cells Z87 87 (0, 0))) := heap_alloc_new w3.drew _
        refine hK.out _ _ SC.out (fun _ => ?_)
        clear hK K
        refine wpAnyH_ready (rs := [18]) (by kernel_rfl) (by simp) ?_
        refine AllReadyH.cons rfl (fun K hK => ?_) AllReadyH.nil
        refine step_store_row rfl 87 (.tmp 9) (.tmp 26) rfl w3.heap.size (rowTH (eqP own zeroP) (decide (z ∈ ns)) zb zt).toArray rfl rfl 87 _ HN9.out sz87 rfl (all_oneCell_toArray (one_row (one_tb _ _ _ _ _) one_zt)) ?_
        have SD : Hid (TH w pred st ((w3.drew.alloc (.cells Z87 87)).setRow w3.heap.size (rowTH (eqP own zeroP) (decide (z ∈ ns)) zb zt).toArray)) := SC.out.under (below_row' (Below.refl _ _) hz3 _)
        have HF : Hid (((w3.drew.alloc (.cells Z87 87)).setRow w3.heap.size (rowTH (eqP own zeroP) (decide (z ∈ ns)) zb zt).toArray).heap[w3.heap.size]? = some (.cells (rowTH (eqP own zeroP) (decide (z ∈ ns)) zb zt).toArray 87 (0, 0))) := setRow_heap _ _ _ _ _ _ HN9.out
        refine hK.out _ _ SD.out (fun _ => ?_)
        clear hK K
        refine wpAnyH_done (by kernel_rfl) ?_ _
        refine NoPanic.normal ?_
        go_wp2_with fail
        go_meet
        case rel => exact ⟨_, rfl, SD.out, by rw [hag]; exact HF.out, hz3⟩
      · rw [if_pos (by rfl)]
        go_simp
        have SC : Hid (TH w pred st (w3.drew.alloc (.cells Z87 87))) := SA.out.below ((Below.refl _ _).alloc (Nat.le_refl _) _)
        have HN9 : Hid ((w3.drew.alloc (.cells Z87 87)).heap[w3.heap.size]? = some (.cells Z87 87 (0, 0))) := heap_alloc_new w3.drew _
        refine hK.out _ _ SC.out (fun _ => ?_)
        clear hK K
        refine wpAnyH_ready (rs := [14]) (by kernel_rfl) (by simp) ?_
        refine AllReadyH.cons rfl (fun K hK => ?_) AllReadyH.nil
        rw [if_pos (by rfl)]
        go_simp
        refine (contains24 ta ns tc z hn _ (HNS.out.below SC.out.bel)).mono ?_
        rintro e w5 ⟨rfl, rfl⟩
        refine hK.out _ _ SC.out (fun _ => ?_)
        clear hK K
        refine wpAnyH_take (i := 15) (oi := { dst := some 25, op := _, type := _, pos := _, after := _, guard := _ }) (v := .bool (decide (z ∈ ns))) rfl (by kernel_rfl) (by kernel_rfl) (by kernel_rfl) (fun _ _ _ h => h) (Or.inl ⟨by rfl, fun W hW => by clear hW; go_simp⟩) SC.out ?_
        simp only [Act.put, List.setIfInBounds_toArray, List.set_cons_zero, List.set_cons_succ]
        refine wpAnyH_take (i := 16) (oi := { dst := some 26, op := _, type := _, pos := _, after := _, guard := _ }) (v := .agg (rowTH (eqP own zeroP) (decide (z ∈ ns)) zb zt).toArray) rfl (by kernel_rfl) (by kernel_rfl) (by kernel_rfl) (fun _ _ _ h => h) (Or.inl ⟨by rfl, fun W hW => exec_build87 rfl rfl rfl W⟩) SC.out ?_
        simp only [Act.put, List.setIfInBounds_toArray, List.set_cons_zero, List.set_cons_succ]
        refine wpAnyH_ready (rs := [18]) (by kernel_rfl) (by simp) ?_
        refine AllReadyH.cons rfl (fun K hK => ?_) AllReadyH.nil
        refine step_store_row rfl 87 (.tmp 9) (.tmp 26) rfl w3.heap.size (rowTH (eqP own zeroP) (decide (z ∈ ns)) zb zt).toArray rfl rfl 87 _ HN9.out sz87 rfl (all_oneCell_toArray (one_row (one_tb _ _ _ _ _) one_zt)) ?_
        have SD : Hid (TH w pred st ((w3.drew.alloc (.cells Z87 87)).setRow w3.heap.size (rowTH (eqP own zeroP) (decide (z ∈ ns)) zb zt).toArray)) := SC.out.under (below_row' (Below.refl _ _) hz3 _)
        have HF : Hid (((w3.drew.alloc (.cells Z87 87)).setRow w3.heap.size (rowTH (eqP own zeroP) (decide (z ∈ ns)) zb zt).toArray).heap[w3.heap.size]? = some (.cells (rowTH (eqP own zeroP) (decide (z ∈ ns)) zb zt).toArray 87 (0, 0))) := setRow_heap _ _ _ _ _ _ HN9.out
        refine hK.out _ _ SD.out (fun _ => ?_)
        clear hK K
        refine wpAnyH_done (by kernel_rfl) ?_ _
        refine NoPanic.normal ?_
        go_wp2_with fail
        go_meet
        case rel => exact ⟨_, rfl, SD.out, by rw [hag]; exact HF.out, hz3⟩
  case rest =>
    obtain ⟨g9, rfl, hT⟩ := hcut
    have T1 : Hid (THR w pred st g9 (rowTH (eqP own zeroP) (agV ns z) zb zt) wc) := hT
    have c0 : wc.cell? ⟨g9, 0, none⟩ = some (.bool (eqP own zeroP)) := by simp [World.cell?, hT.2.1, rowTH]
    clear hT T0
    cases hf : eqP own zeroP
    · rw [hf] at T1 c0
      go_wp2_with (first
        | (refine gate (some 31) rfl ?_; refine wpList_val rfl (.agg pred.cells.toArray) (exec_load 67 (.tmp 5) rfl w.heap.size 0 rfl pred.cells _ T1.out.1.p Yba.underlying67 rfl (by rw [sz67, hp.cells])) ?_; simp only [Act.put, List.setIfInBounds_toArray, List.set_cons_zero, List.set_cons_succ])
        | (refine gate (some 32) rfl ?_; refine wpList_val rfl (.agg st.cells.toArray) (exec_load 67 (.tmp 6) rfl (w.heap.size + 1) 0 rfl st.cells _ T1.out.1.s Yba.underlying67 rfl (by rw [sz67, hst.cells])) ?_; simp only [Act.put, List.setIfInBounds_toArray, List.set_cons_zero, List.set_cons_succ]))
      refine (tb25 gr me own rs (.slice ta ns.length tc) pred st hs ho hr hp hst _ (HR.out.below T1.out.1.bel)).mono ?_
      rintro e w5 ⟨rfl, hB5⟩
      have T2 : Hid (THR w pred st g9 (rowTH false (agV ns z) zb zt) w5) := T1.out.below hB5
      clear hB5 c0 T1
      have hTB : (tbV me own rs pred st).length = 45 := len_tb hp ho _ _ _
      have T3 : Hid (THR w pred st g9 (rowTH false (agV ns z) (tbV me own rs pred st) zt) (w5.setCells g9 2 (tbV me own rs pred st))) := ⟨T2.out.1.under (below_setCells _ (Below.refl _ _) T2.out.2.2), by
        have h0 := blk_setCells (tbV me own rs pred st) w5 g9 2 _ 87 T2.out.2.1 (by rw [len_row rfl rfl, hTB]; omega)
        rw [splice_back _ _ _ _ _ rfl hTB] at h0
        exact h0, T2.out.2.2⟩
      go_wp2_with (first
        | (refine gate none rfl ?_; refine wpList_store_mid rfl 84 (.tmp 34) (.tmp 33) rfl g9 2 (tbV me own rs pred st).toArray rfl rfl (there_blk T2.out.2.1 (by rw [len_row rfl rfl]; simp [hTB])) (by rw [sz84]; simp [hTB]) (all_oneCell_toArray (one_tb _ _ _ _ _)) ?_))
      clear T2
      have SA : Hid (THR w pred st g9 (rowTH false (agV ns z) (tbV me own rs pred st) zt) (w5.setCells g9 2 (tbV me own rs pred st)).drew) := ⟨⟨T3.out.1.bel.drew, T3.out.1.p, T3.out.1.s, T3.out.1.r, T3.out.1.sz⟩, T3.out.2.1, T3.out.2.2⟩
      refine wp_region_noPanic ?_
      refine wp_region_held_drew (S := TH w pred st) (by kernel_rfl) SA.out.1 (fun _ => ?_)
      have SX : Hid (TH w pred st (w5.setCells g9 2 (tbV me own rs pred st)).drew) := SA.out.1
      refine wpAnyH_take (i := 0) (oi := { dst := some 35, op := _, type := _, pos := _, after := _, guard := _ }) (v := .pointer (some ⟨g9, 47, none⟩)) rfl (by kernel_rfl) (by kernel_rfl) (by kernel_rfl) (fun _ _ _ h => h) (Or.inl ⟨by rfl, fun W hW => by clear hW; go_simp⟩) SX.out ?_
      simp only [Act.put, List.setIfInBounds_toArray, List.set_cons_zero, List.set_cons_succ]
      refine wpAnyH_take (i := 1) (oi := { dst := some 36, op := _, type := _, pos := _, after := _, guard := _ }) (v := .slice (some ⟨g9, 47, none⟩) 16 16) rfl (by kernel_rfl) (by kernel_rfl) (by kernel_rfl) (fun _ _ _ h => h) (Or.inl ⟨by rfl, fun W hW => by clear hW; go_simp⟩) SX.out ?_
      simp only [Act.put, List.setIfInBounds_toArray, List.set_cons_zero, List.set_cons_succ]
      refine wpAnyH_take (i := 2) (oi := { dst := some 37, op := _, type := _, pos := _, after := _, guard := _ }) (v := .pointer (some ⟨gr, 0, none⟩)) rfl (by kernel_rfl) (by kernel_rfl) (by kernel_rfl) (fun _ _ _ h => h) (Or.inl ⟨by rfl, fun W hW => by clear hW; go_simp⟩) SX.out ?_
      simp only [Act.put, List.setIfInBounds_toArray, List.set_cons_zero, List.set_cons_succ]
      refine wpAnyH_take (i := 3) (oi := { dst := some 38, op := _, type := _, pos := _, after := _, guard := _ }) (v := .pointer (some ⟨gr, 0, none⟩)) rfl (by kernel_rfl) (by kernel_rfl) (by kernel_rfl) (fun _ _ _ h => h) (Or.inl ⟨by rfl, fun W hW => by clear hW; go_simp⟩) SX.out ?_
      simp only [Act.put, List.setIfInBounds_toArray, List.set_cons_zero, List.set_cons_succ]
      refine wpAnyH_take (i := 4) (oi := { dst := some 39, op := _, type := _, pos := _, after := _, guard := _ }) (v := .pointer (some ⟨gr, 87, none⟩)) rfl (by kernel_rfl) (by kernel_rfl) (by kernel_rfl) (fun _ _ _ h => h) (Or.inl ⟨by rfl, fun W hW => by clear hW; go_simp⟩) SX.out ?_
      simp only [Act.put, List.setIfInBounds_toArray, List.set_cons_zero, List.set_cons_succ]
      refine wpAnyH_take (i := 5) (oi := { dst := some 40, op := _, type := _, pos := _, after := _, guard := _ }) (v := .slice ta ns.length tc) rfl (by kernel_rfl) (by kernel_rfl) (by kernel_rfl) (fun _ _ _ h => h) (Or.inl ⟨by rfl, fun W hW => by have hd := (HR.out.below hW.bel).2.2.2.2; clear hW; go_simp⟩) SX.out ?_
      simp only [Act.put, List.setIfInBounds_toArray, List.set_cons_zero, List.set_cons_succ]
      refine wpAnyH_ready (rs := [6]) (by kernel_rfl) (by simp) ?_
      refine AllReadyH.cons rfl (fun K hK => ?_) AllReadyH.nil
      refine step_copy_splice rfl (.tmp 36) (.tmp 40) 75 75 rfl 27 Yba.underlying75 sz27 (some ⟨g9, 47, none⟩) ta 16 16 ns.length tc rfl rfl g9 47 (rowTH false (agV ns z) (tbV me own rs pred st) zt) 87 SA.out.2.1 ((ns.take 16).map (Value.int .u64)) (by rw [List.length_map, List.length_take]; exact Nat.min_comm _ _) (fun h0 => ⟨rfl, ?_⟩) (by rw [len_row hTB rfl, List.length_map, List.length_take]; omega) (fun u hu => by obtain ⟨q, _, rfl⟩ := List.mem_map.1 hu; rfl) (w.heap.size + 3) (w5.setCells g9 2 (tbV me own rs pred st)).drew (Below.refl _ _) SA.out.2.2 ?_
      · cases hns : ns with
        | nil => rw [hns] at h0; simp at h0
        | cons q0 qs =>
          obtain ⟨g, o, ha, _, _⟩ := (HNS.out.below SX.out.bel) 0 q0 (by rw [hns]; rfl)
          refine ⟨⟨g, o, none⟩, ha, fun j v hv => ?_⟩
          rw [← hns, List.getElem?_map] at hv
          obtain ⟨q, hq, rfl⟩ := Option.map_eq_some_iff.1 hv
          rw [List.getElem?_take] at hq
          split at hq
          · obtain ⟨g', o', ha', _, hc'⟩ := (HNS.out.below SX.out.bel) j q hq
            rw [ha] at ha'
            simp only [Option.some.injEq, Addr.mk.injEq, and_true] at ha'
            obtain ⟨rfl, rfl⟩ := ha'
            rw [Addr.add_mid]; exact hc'
          · cases hq
      intro w6 hg6 hb6
      have HG6 : Hid (w6.heap[g9]? = some (.cells (rowTH false (agV ns z) (tbV me own rs pred st) (tk16 ns)).toArray 87 (0, 0))) := by
        have := hg6.out
        rw [splice_tk _ _ _ _ hTB] at this
        exact this
      have SY : Hid (TH w pred st w6) := SX.out.under hb6
      have HL : Hid ((rowTH false (agV ns z) (tbV me own rs pred st) (tk16 ns)).length = 63) := len_row hTB (len_tk ns)
      have HS1 : Hid ((Yba.prog.info? 87).map (·.size) = some (rowTH false (agV ns z) (tbV me own rs pred st) (tk16 ns)).toArray.size) := by show _ = _; rw [sz87, show (rowTH false (agV ns z) (tbV me own rs pred st) (tk16 ns)).toArray.size = 63 from by rw [List.size_toArray]; exact HL.out]
      have HS2 : Hid (Z87.size = (rowTH false (agV ns z) (tbV me own rs pred st) (tk16 ns)).toArray.size) := by show _ = _; rw [show (rowTH false (agV ns z) (tbV me own rs pred st) (tk16 ns)).toArray.size = 63 from by rw [List.size_toArray]; exact HL.out]; rfl
      have HS3 : Hid ((rowTH false (agV ns z) (tbV me own rs pred st) (tk16 ns)).toArray.all (·.oneCell') = true) := all_oneCell_toArray (one_row (one_tb _ _ _ _ _) (one_tk ns))
      clear hg6 hb6
      go_simp
      refine hK.out _ _ SY.out (fun _ => ?_)
      clear hK K
      refine wpAnyH_done (by kernel_rfl) ?_ _
      refine NoPanic.normal ?_
      go_wp2_with (first
        | (refine gate (some 42) rfl ?_; refine wpList_val rfl (.agg (rowTH false (agV ns z) (tbV me own rs pred st) (tk16 ns)).toArray) (exec_load 87 (.tmp 9) rfl g9 0 rfl (rowTH false (agV ns z) (tbV me own rs pred st) (tk16 ns)) _ (range_of_blk HG6.out) Yba.underlying87 rfl (by rw [sz87, len_row hTB (len_tk ns)])) ?_; simp only [Act.put, List.setIfInBounds_toArray, List.set_cons_zero, List.set_cons_succ])
        | (refine gate none rfl ?_; refine wpList_store_rowTo rfl 87 (.tmp 8) (.tmp 42) rfl rfl (w.heap.size + 2) (rowTH false (agV ns z) (tbV me own rs pred st) (tk16 ns)).toArray rfl rfl 87 _ SY.out.r HS1.out HS2.out HS3.out ?_))
      refine bodyPost_ret (v := .agg (rowTH false (agV ns z) (tbV me own rs pred st) (tk16 ns)).toArray) (results_cell_row rfl _ _ (w.heap.size + 2) 87 _ (0, 0) _ rfl (setRow_heap _ _ _ _ _ _ SY.out.r) Yba.underlying87 rfl HS1.out) rfl ?_
      exact ⟨by unfold thV bkV; rw [hf]; rfl, below_row' SY.out.bel (by omega) _⟩
    · rw [hf] at T1 c0
      go_wp2_with fail
      have SA : Hid (THR w pred st g9 (rowTH true (agV ns z) zb zt) wc.drew) := ⟨⟨T1.out.1.bel.drew, T1.out.1.p, T1.out.1.s, T1.out.1.r, T1.out.1.sz⟩, T1.out.2.1, T1.out.2.2⟩
      refine wp_region_noPanic ?_
      refine wp_region_held_drew (S := TH w pred st) (by kernel_rfl) SA.out.1 (fun _ => ?_)
      have SX : Hid (TH w pred st wc.drew) := SA.out.1
      refine wpAnyH_take (i := 0) (oi := { dst := some 35, op := _, type := _, pos := _, after := _, guard := _ }) (v := .pointer (some ⟨g9, 47, none⟩)) rfl (by kernel_rfl) (by kernel_rfl) (by kernel_rfl) (fun _ _ _ h => h) (Or.inl ⟨by rfl, fun W hW => by clear hW; go_simp⟩) SX.out ?_
      simp only [Act.put, List.setIfInBounds_toArray, List.set_cons_zero, List.set_cons_succ]
      refine wpAnyH_take (i := 1) (oi := { dst := some 36, op := _, type := _, pos := _, after := _, guard := _ }) (v := .slice (some ⟨g9, 47, none⟩) 16 16) rfl (by kernel_rfl) (by kernel_rfl) (by kernel_rfl) (fun _ _ _ h => h) (Or.inl ⟨by rfl, fun W hW => by clear hW; go_simp⟩) SX.out ?_
      simp only [Act.put, List.setIfInBounds_toArray, List.set_cons_zero, List.set_cons_succ]
      refine wpAnyH_take (i := 2) (oi := { dst := some 37, op := _, type := _, pos := _, after := _, guard := _ }) (v := .pointer (some ⟨gr, 0, none⟩)) rfl (by kernel_rfl) (by kernel_rfl) (by kernel_rfl) (fun _ _ _ h => h) (Or.inl ⟨by rfl, fun W hW => by clear hW; go_simp⟩) SX.out ?_
      simp only [Act.put, List.setIfInBounds_toArray, List.set_cons_zero, List.set_cons_succ]
      refine wpAnyH_take (i := 3) (oi := { dst := some 38, op := _, type := _, pos := _, after := _, guard := _ }) (v := .pointer (some ⟨gr, 0, none⟩)) rfl (by kernel_rfl) (by kernel_rfl) (by kernel_rfl) (fun _ _ _ h => h) (Or.inl ⟨by rfl, fun W hW => by clear hW; go_simp⟩) SX.out ?_
      simp only [Act.put, List.setIfInBounds_toArray, List.set_cons_zero, List.set_cons_succ]
      refine wpAnyH_take (i := 4) (oi := { dst := some 39, op := _, type := _, pos := _, after := _, guard := _ }) (v := .pointer (some ⟨gr, 87, none⟩)) rfl (by kernel_rfl) (by kernel_rfl) (by kernel_rfl) (fun _ _ _ h => h) (Or.inl ⟨by rfl, fun W hW => by clear hW; go_simp⟩) SX.out ?_
      simp only [Act.put, List.setIfInBounds_toArray, List.set_cons_zero, List.set_cons_succ]
      refine wpAnyH_take (i := 5) (oi := { dst := some 40, op := _, type := _, pos := _, after := _, guard := _ }) (v := .slice ta ns.length tc) rfl (by kernel_rfl) (by kernel_rfl) (by kernel_rfl) (fun _ _ _ h => h) (Or.inl ⟨by rfl, fun W hW => by have hd := (HR.out.below hW.bel).2.2.2.2; clear hW; go_simp⟩) SX.out ?_
      simp only [Act.put, List.setIfInBounds_toArray, List.set_cons_zero, List.set_cons_succ]
      refine wpAnyH_ready (rs := [6]) (by kernel_rfl) (by simp) ?_
      refine AllReadyH.cons rfl (fun K hK => ?_) AllReadyH.nil
      refine step_copy_splice rfl (.tmp 36) (.tmp 40) 75 75 rfl 27 Yba.underlying75 sz27 (some ⟨g9, 47, none⟩) ta 16 16 ns.length tc rfl rfl g9 47 (rowTH true (agV ns z) zb zt) 87 SA.out.2.1 ((ns.take 16).map (Value.int .u64)) (by rw [List.length_map, List.length_take]; exact Nat.min_comm _ _) (fun h0 => ⟨rfl, ?_⟩) (by rw [len_row len_zb rfl, List.length_map, List.length_take]; omega) (fun u hu => by obtain ⟨q, _, rfl⟩ := List.mem_map.1 hu; rfl) (w.heap.size + 3) wc.drew (Below.refl _ _) SA.out.2.2 ?_
      · cases hns : ns with
        | nil => rw [hns] at h0; simp at h0
        | cons q0 qs =>
          obtain ⟨g, o, ha, _, _⟩ := (HNS.out.below SX.out.bel) 0 q0 (by rw [hns]; rfl)
          refine ⟨⟨g, o, none⟩, ha, fun j v hv => ?_⟩
          rw [← hns, List.getElem?_map] at hv
          obtain ⟨q, hq, rfl⟩ := Option.map_eq_some_iff.1 hv
          rw [List.getElem?_take] at hq
          split at hq
          · obtain ⟨g', o', ha', _, hc'⟩ := (HNS.out.below SX.out.bel) j q hq
            rw [ha] at ha'
            simp only [Option.some.injEq, Addr.mk.injEq, and_true] at ha'
            obtain ⟨rfl, rfl⟩ := ha'
            rw [Addr.add_mid]; exact hc'
          · cases hq
      intro w6 hg6 hb6
      have HG6 : Hid (w6.heap[g9]? = some (.cells (rowTH true (agV ns z) zb (tk16 ns)).toArray 87 (0, 0))) := by
        have := hg6.out
        rw [splice_tk _ _ _ _ len_zb] at this
        exact this
      have SY : Hid (TH w pred st w6) := SX.out.under hb6
      have HL : Hid ((rowTH true (agV ns z) zb (tk16 ns)).length = 63) := len_row len_zb (len_tk ns)
      have HS1 : Hid ((Yba.prog.info? 87).map (·.size) = some (rowTH true (agV ns z) zb (tk16 ns)).toArray.size) := by show _ = _; rw [sz87, show (rowTH true (agV ns z) zb (tk16 ns)).toArray.size = 63 from by rw [List.size_toArray]; exact HL.out]
      have HS2 : Hid (Z87.size = (rowTH true (agV ns z) zb (tk16 ns)).toArray.size) := by show _ = _; rw [show (rowTH true (agV ns z) zb (tk16 ns)).toArray.size = 63 from by rw [List.size_toArray]; exact HL.out]; rfl
      have HS3 : Hid ((rowTH true (agV ns z) zb (tk16 ns)).toArray.all (·.oneCell') = true) := all_oneCell_toArray (one_row (one_tb _ _ _ _ _) (one_tk ns))
      clear hg6 hb6
      go_simp
      refine hK.out _ _ SY.out (fun _ => ?_)
      clear hK K
      refine wpAnyH_done (by kernel_rfl) ?_ _
      refine NoPanic.normal ?_
      go_wp2_with (first
        | (refine gate (some 42) rfl ?_; refine wpList_val rfl (.agg (rowTH true (agV ns z) zb (tk16 ns)).toArray) (exec_load 87 (.tmp 9) rfl g9 0 rfl (rowTH true (agV ns z) zb (tk16 ns)) _ (range_of_blk HG6.out) Yba.underlying87 rfl (by rw [sz87, len_row len_zb (len_tk ns)])) ?_; simp only [Act.put, List.setIfInBounds_toArray, List.set_cons_zero, List.set_cons_succ])
        | (refine gate none rfl ?_; refine wpList_store_rowTo rfl 87 (.tmp 8) (.tmp 42) rfl rfl (w.heap.size + 2) (rowTH true (agV ns z) zb (tk16 ns)).toArray rfl rfl 87 _ SY.out.r HS1.out HS2.out HS3.out ?_))
      refine bodyPost_ret (v := .agg (rowTH true (agV ns z) zb (tk16 ns)).toArray) (results_cell_row rfl _ _ (w.heap.size + 2) 87 _ (0, 0) _ rfl (setRow_heap _ _ _ _ _ _ SY.out.r) Yba.underlying87 rfl HS1.out) rfl ?_
      exact ⟨by unfold thV bkV; rw [hf]; rfl, below_row' SY.out.bel (by omega) _⟩
end Go.Proofs.Ybulkdfgw
