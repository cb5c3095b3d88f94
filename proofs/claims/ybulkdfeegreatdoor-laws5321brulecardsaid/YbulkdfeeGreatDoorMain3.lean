import Derived.Test.YbulkdfeeGreatDoorMain2
namespace Go.Proofs.YbulkdfeeGreatDoor
open Go.ChangeShapes Go.WideShapes Go.ChangeAt Go.RowKit
set_option linter.unusedVariables false
set_option linter.unusedSimpArgs false

set_option maxHeartbeats 20000000 in
set_option maxRecDepth 100000 in
theorem part_tab : st2.A := by
    intro s0 h0 ia ic its xa xc xs W HI HX HBB HM HXB n hn HN nx hx HNX _ _ wr u6 u8 u48 u49 u50 u51 u52 u53 u54 u55 HB0 hi HRD q T hT1 hT2 hTz hTn _ _ _ _ _ wn1 wT1 _ _ _ _
    have SA : Hid (Below W.heap.size W wr.drew) := HB0.out.drew
    refine wp_region_noPanic ?_
    refine wp_region_held_drew (S := Below W.heap.size W) (by kernel_rfl) SA.out (fun _ => ?_)
    refine wpAnyH_take (i := 0) (oi := { dst := some 60, op := _, type := _, pos := _, after := _, guard := _ }) (v := .slice ia n ic) rfl (by kernel_rfl) (by kernel_rfl) (by kernel_rfl) (fun _ _ _ h => h) (Or.inl ⟨by rfl, fun W hW => by clear hW; go_simp⟩) SA.out ?_
    simp only [Act.put, List.setIfInBounds_toArray, List.set_cons_zero, List.set_cons_succ]
    refine wpAnyH_take (i := 1) (oi := { dst := some 61, op := _, type := _, pos := _, after := _, guard := _ }) (v := .int .i64 (n : Int)) rfl (by kernel_rfl) (by kernel_rfl) (by kernel_rfl) (fun _ _ _ h => h) (Or.inl ⟨by rfl, fun W hW => by clear hW; go_simp⟩) SA.out ?_
    simp only [Act.put, List.setIfInBounds_toArray, List.set_cons_zero, List.set_cons_succ]
    refine wpAnyH_take (i := 2) (oi := { dst := some 62, op := _, type := _, pos := _, after := _, guard := _ }) (v := .int .i64 ((n : Int) + 1)) rfl (by kernel_rfl) (by kernel_rfl) (by kernel_rfl) (fun _ _ _ h => h) (Or.inl ⟨by rfl, fun W hW => by clear hW; go_simp⟩) SA.out ?_
    simp only [Act.put, List.setIfInBounds_toArray, List.set_cons_zero, List.set_cons_succ]
    refine wpAnyH_take (i := 4) (oi := { dst := some 64, op := _, type := _, pos := _, after := _, guard := _ }) (v := .slice ia n ic) rfl (by kernel_rfl) (by kernel_rfl) (by kernel_rfl) (fun _ _ _ h => h) (Or.inl ⟨by rfl, fun W hW => by clear hW; go_simp⟩) SA.out ?_
    simp only [Act.put, List.setIfInBounds_toArray, List.set_cons_zero, List.set_cons_succ]
    refine wpAnyH_take (i := 5) (oi := { dst := some 65, op := _, type := _, pos := _, after := _, guard := _ }) (v := .int .i64 (n : Int)) rfl (by kernel_rfl) (by kernel_rfl) (by kernel_rfl) (fun _ _ _ h => h) (Or.inl ⟨by rfl, fun W hW => by clear hW; go_simp⟩) SA.out ?_
    simp only [Act.put, List.setIfInBounds_toArray, List.set_cons_zero, List.set_cons_succ]
    refine wpAnyH_take (i := 7) (oi := { dst := some 67, op := _, type := _, pos := _, after := _, guard := _ }) (v := .int .i64 (T : Int)) rfl (by kernel_rfl) (by kernel_rfl) (by kernel_rfl) (fun _ _ _ h => h) (Or.inl ⟨by rfl, fun W hW => by clear hW; go_simp⟩) SA.out ?_
    simp only [Act.put, List.setIfInBounds_toArray, List.set_cons_zero, List.set_cons_succ]
    refine wpAnyH_take (i := 8) (oi := { dst := some 68, op := _, type := _, pos := _, after := _, guard := _ }) (v := .int .i64 ((T : Int) + 1)) rfl (by kernel_rfl) (by kernel_rfl) (by kernel_rfl) (fun _ _ _ h => h) (Or.inl ⟨by rfl, fun W hW => by clear hW; go_simp⟩) SA.out ?_
    simp only [Act.put, List.setIfInBounds_toArray, List.set_cons_zero, List.set_cons_succ]
    refine wpAnyH_ready (rs := [3, 6, 9]) (by kernel_rfl) (by simp) ?_
    refine AllReadyH.cons rfl (fun K hK => ?_) (AllReadyH.cons rfl (fun K hK => ?_) (AllReadyH.cons rfl (fun K hK => ?_) AllReadyH.nil))
    · refine step_make28 rfl (.tmp 62) (.tmp 62) rfl (n + 1) (by omega) rfl rfl ?_
      simp only [Act.put, List.setIfInBounds_toArray, List.set_cons_zero, List.set_cons_succ]
      obtain ⟨y1, hy1⟩ : ∃ y, y = wr.drew.alloc (.cells (fcells (n + 1) (fun _ => 0)).toArray 3) := ⟨_, rfl⟩
      have Sy1 : Hid (Below W.heap.size W y1) := by rw [hy1]; exact SA.out.alloc SA.out.size _
      have Ay13 : Hid (FB y1 wr.heap.size (n + 1) (fun _ => 0)) := by rw [hy1]; exact CB.new wr.drew
      rw [← hy1]
      clear hy1
      refine hK.out _ _ Sy1.out (fun _ => ?_)
      clear hK K
      refine wpAnyH_ready (rs := [6, 9]) (by kernel_rfl) (by simp) ?_
      refine AllReadyH.cons rfl (fun K hK => ?_) (AllReadyH.cons rfl (fun K hK => ?_) AllReadyH.nil)
      · refine step_make28 rfl (.tmp 65) (.tmp 65) rfl n (by omega) rfl rfl ?_
        simp only [Act.put, List.setIfInBounds_toArray, List.set_cons_zero, List.set_cons_succ]
        obtain ⟨y2, hy2⟩ : ∃ y, y = y1.alloc (.cells (fcells n (fun _ => 0)).toArray 3) := ⟨_, rfl⟩
        have Sy2 : Hid (Below W.heap.size W y2) := by rw [hy2]; exact Sy1.out.alloc Sy1.out.size _
        have Ay26 : Hid (FB y2 y1.heap.size n (fun _ => 0)) := by rw [hy2]; exact CB.new y1
        have Ay23 : Hid (FB y2 wr.heap.size (n + 1) (fun _ => 0)) := by rw [hy2]; exact CB.alloc Ay13.out _
        have NLT : wr.heap.size < y1.heap.size := CB.lt Ay13.out
        rw [← hy2]
        clear hy2
        refine hK.out _ _ Sy2.out (fun _ => ?_)
        clear hK K
        refine wpAnyH_ready (rs := [9]) (by kernel_rfl) (by simp) ?_
        refine AllReadyH.cons rfl (fun K hK => ?_) AllReadyH.nil
        refine step_make28 rfl (.tmp 68) (.tmp 68) rfl (T + 1) (by omega) rfl rfl ?_
        simp only [Act.put, List.setIfInBounds_toArray, List.set_cons_zero, List.set_cons_succ]
        obtain ⟨y3, hy3⟩ : ∃ y, y = y2.alloc (.cells (fcells (T + 1) (fun _ => 0)).toArray 3) := ⟨_, rfl⟩
        have Sy3 : Hid (Below W.heap.size W y3) := by rw [hy3]; exact Sy2.out.alloc Sy2.out.size _
        have Ay39 : Hid (FB y3 y2.heap.size (T + 1) (fun _ => 0)) := by rw [hy3]; exact CB.new y2
        have Ay33 : Hid (FB y3 wr.heap.size (n + 1) (fun _ => 0)) := by rw [hy3]; exact CB.alloc Ay23.out _
        have Ay36 : Hid (FB y3 y1.heap.size n (fun _ => 0)) := by rw [hy3]; exact CB.alloc Ay26.out _
        rw [← hy3]
        clear hy3
        refine hK.out _ _ Sy3.out (fun _ => ?_)
        clear hK K
        refine wpAnyH_take (i := 10) (oi := { dst := some 70, op := _, type := _, pos := _, after := _, guard := _ }) (v := .agg #[.slice none 0 0, .slice (some ⟨y2.heap.size, 0, none⟩) (T + 1) (T + 1)]) rfl (by kernel_rfl) (by kernel_rfl) (by kernel_rfl) (fun _ _ _ h => h) (Or.inl ⟨by rfl, fun W hW => by clear hW; go_simp⟩) Sy3.out ?_
        simp only [Act.put, List.setIfInBounds_toArray, List.set_cons_zero, List.set_cons_succ]
        refine wpAnyH_take (i := 11) (oi := { dst := some 71, op := _, type := _, pos := _, after := _, guard := _ }) (v := .agg (rw33 (.slice none 0 0) wr.heap.size y1.heap.size y2.heap.size n T).toArray) rfl (by kernel_rfl) (by kernel_rfl) (by kernel_rfl) (fun _ _ _ h => h) (Or.inl ⟨by rfl, fun W hW => exec_build33 rfl rfl rfl rfl W⟩) Sy3.out ?_
        simp only [Act.put, List.setIfInBounds_toArray, List.set_cons_zero, List.set_cons_succ]
        refine wpAnyH_ready (rs := [12]) (by kernel_rfl) (by simp) ?_
        refine AllReadyH.cons rfl (fun K hK => ?_) AllReadyH.nil
        rw [if_pos (by rfl)]
        go_simp
        obtain ⟨y9, hy9⟩ : ∃ y, y = y3.alloc (.cells (rw33 (.slice none 0 0) wr.heap.size y1.heap.size y2.heap.size n T).toArray 33) := ⟨_, rfl⟩
        have Q9 : Hid (LB W n T y3.heap.size wr.heap.size y1.heap.size y2.heap.size (.slice none 0 0) (fun _ => 0) (fun _ => 0) y9) := by rw [hy9]; exact ⟨Sy3.out.alloc Sy3.out.size _, CB.new y3, CB.alloc Ay33.out _, CB.alloc Ay36.out _⟩
        have SY9 : Hid (Below W.heap.size W y9) := Q9.out.bel
        rw [← hy9]
        clear hy9
        refine hK.out _ _ SY9.out (fun _ => ?_)
        clear hK K
        refine wpAnyH_take (i := 13) (oi := { dst := some 10, op := _, type := _, pos := _, after := _, guard := _ }) (v := .pointer (some ⟨y3.heap.size, 0, none⟩)) rfl (by kernel_rfl) (by kernel_rfl) (by kernel_rfl) (fun _ _ _ h => h) (Or.inl ⟨by rfl, fun W hW => by clear hW; go_simp⟩) SY9.out ?_
        simp only [Act.put, List.setIfInBounds_toArray, List.set_cons_zero, List.set_cons_succ]
        refine wpAnyH_done (by kernel_rfl) ?_ _
        refine NoPanic.normal ?_
        go_wp2_with fail
        go_meet
        case rel => exact ⟨_, _, _, _, rfl, Q9.out, Sy3.out.size, SA.out.size, Sy1.out.size, Nat.ne_of_lt NLT⟩
      · refine step_make28 rfl (.tmp 68) (.tmp 68) rfl (T + 1) (by omega) rfl rfl ?_
        simp only [Act.put, List.setIfInBounds_toArray, List.set_cons_zero, List.set_cons_succ]
        obtain ⟨y2, hy2⟩ : ∃ y, y = y1.alloc (.cells (fcells (T + 1) (fun _ => 0)).toArray 3) := ⟨_, rfl⟩
        have Sy2 : Hid (Below W.heap.size W y2) := by rw [hy2]; exact Sy1.out.alloc Sy1.out.size _
        have Ay29 : Hid (FB y2 y1.heap.size (T + 1) (fun _ => 0)) := by rw [hy2]; exact CB.new y1
        have Ay23 : Hid (FB y2 wr.heap.size (n + 1) (fun _ => 0)) := by rw [hy2]; exact CB.alloc Ay13.out _
        rw [← hy2]
        clear hy2
        refine hK.out _ _ Sy2.out (fun _ => ?_)
        clear hK K
        refine wpAnyH_take (i := 10) (oi := { dst := some 70, op := _, type := _, pos := _, after := _, guard := _ }) (v := .agg #[.slice none 0 0, .slice (some ⟨y1.heap.size, 0, none⟩) (T + 1) (T + 1)]) rfl (by kernel_rfl) (by kernel_rfl) (by kernel_rfl) (fun _ _ _ h => h) (Or.inl ⟨by rfl, fun W hW => by clear hW; go_simp⟩) Sy2.out ?_
        simp only [Act.put, List.setIfInBounds_toArray, List.set_cons_zero, List.set_cons_succ]
        refine wpAnyH_ready (rs := [6]) (by kernel_rfl) (by simp) ?_
        refine AllReadyH.cons rfl (fun K hK => ?_) AllReadyH.nil
        refine step_make28 rfl (.tmp 65) (.tmp 65) rfl n (by omega) rfl rfl ?_
        simp only [Act.put, List.setIfInBounds_toArray, List.set_cons_zero, List.set_cons_succ]
        obtain ⟨y3, hy3⟩ : ∃ y, y = y2.alloc (.cells (fcells n (fun _ => 0)).toArray 3) := ⟨_, rfl⟩
        have Sy3 : Hid (Below W.heap.size W y3) := by rw [hy3]; exact Sy2.out.alloc Sy2.out.size _
        have Ay36 : Hid (FB y3 y2.heap.size n (fun _ => 0)) := by rw [hy3]; exact CB.new y2
        have Ay33 : Hid (FB y3 wr.heap.size (n + 1) (fun _ => 0)) := by rw [hy3]; exact CB.alloc Ay23.out _
        have Ay39 : Hid (FB y3 y1.heap.size (T + 1) (fun _ => 0)) := by rw [hy3]; exact CB.alloc Ay29.out _
        have NLT : wr.heap.size < y2.heap.size := CB.lt Ay23.out
        rw [← hy3]
        clear hy3
        refine hK.out _ _ Sy3.out (fun _ => ?_)
        clear hK K
        refine wpAnyH_take (i := 11) (oi := { dst := some 71, op := _, type := _, pos := _, after := _, guard := _ }) (v := .agg (rw33 (.slice none 0 0) wr.heap.size y2.heap.size y1.heap.size n T).toArray) rfl (by kernel_rfl) (by kernel_rfl) (by kernel_rfl) (fun _ _ _ h => h) (Or.inl ⟨by rfl, fun W hW => exec_build33 rfl rfl rfl rfl W⟩) Sy3.out ?_
        simp only [Act.put, List.setIfInBounds_toArray, List.set_cons_zero, List.set_cons_succ]
        refine wpAnyH_ready (rs := [12]) (by kernel_rfl) (by simp) ?_
        refine AllReadyH.cons rfl (fun K hK => ?_) AllReadyH.nil
        rw [if_pos (by rfl)]
        go_simp
        obtain ⟨y9, hy9⟩ : ∃ y, y = y3.alloc (.cells (rw33 (.slice none 0 0) wr.heap.size y2.heap.size y1.heap.size n T).toArray 33) := ⟨_, rfl⟩
        have Q9 : Hid (LB W n T y3.heap.size wr.heap.size y2.heap.size y1.heap.size (.slice none 0 0) (fun _ => 0) (fun _ => 0) y9) := by rw [hy9]; exact ⟨Sy3.out.alloc Sy3.out.size _, CB.new y3, CB.alloc Ay33.out _, CB.alloc Ay36.out _⟩
        have SY9 : Hid (Below W.heap.size W y9) := Q9.out.bel
        rw [← hy9]
        clear hy9
        refine hK.out _ _ SY9.out (fun _ => ?_)
        clear hK K
        refine wpAnyH_take (i := 13) (oi := { dst := some 10, op := _, type := _, pos := _, after := _, guard := _ }) (v := .pointer (some ⟨y3.heap.size, 0, none⟩)) rfl (by kernel_rfl) (by kernel_rfl) (by kernel_rfl) (fun _ _ _ h => h) (Or.inl ⟨by rfl, fun W hW => by clear hW; go_simp⟩) SY9.out ?_
        simp only [Act.put, List.setIfInBounds_toArray, List.set_cons_zero, List.set_cons_succ]
        refine wpAnyH_done (by kernel_rfl) ?_ _
        refine NoPanic.normal ?_
        go_wp2_with fail
        go_meet
        case rel => exact ⟨_, _, _, _, rfl, Q9.out, Sy3.out.size, SA.out.size, Sy2.out.size, Nat.ne_of_lt NLT⟩
    · refine step_make28 rfl (.tmp 65) (.tmp 65) rfl n (by omega) rfl rfl ?_
      simp only [Act.put, List.setIfInBounds_toArray, List.set_cons_zero, List.set_cons_succ]
      obtain ⟨y1, hy1⟩ : ∃ y, y = wr.drew.alloc (.cells (fcells n (fun _ => 0)).toArray 3) := ⟨_, rfl⟩
      have Sy1 : Hid (Below W.heap.size W y1) := by rw [hy1]; exact SA.out.alloc SA.out.size _
      have Ay16 : Hid (FB y1 wr.heap.size n (fun _ => 0)) := by rw [hy1]; exact CB.new wr.drew
      rw [← hy1]
      clear hy1
      refine hK.out _ _ Sy1.out (fun _ => ?_)
      clear hK K
      refine wpAnyH_ready (rs := [3, 9]) (by kernel_rfl) (by simp) ?_
      refine AllReadyH.cons rfl (fun K hK => ?_) (AllReadyH.cons rfl (fun K hK => ?_) AllReadyH.nil)
      · refine step_make28 rfl (.tmp 62) (.tmp 62) rfl (n + 1) (by omega) rfl rfl ?_
        simp only [Act.put, List.setIfInBounds_toArray, List.set_cons_zero, List.set_cons_succ]
        obtain ⟨y2, hy2⟩ : ∃ y, y = y1.alloc (.cells (fcells (n + 1) (fun _ => 0)).toArray 3) := ⟨_, rfl⟩
        have Sy2 : Hid (Below W.heap.size W y2) := by rw [hy2]; exact Sy1.out.alloc Sy1.out.size _
        have Ay23 : Hid (FB y2 y1.heap.size (n + 1) (fun _ => 0)) := by rw [hy2]; exact CB.new y1
        have Ay26 : Hid (FB y2 wr.heap.size n (fun _ => 0)) := by rw [hy2]; exact CB.alloc Ay16.out _
        have NLT : wr.heap.size < y1.heap.size := CB.lt Ay16.out
        rw [← hy2]
        clear hy2
        refine hK.out _ _ Sy2.out (fun _ => ?_)
        clear hK K
        refine wpAnyH_ready (rs := [9]) (by kernel_rfl) (by simp) ?_
        refine AllReadyH.cons rfl (fun K hK => ?_) AllReadyH.nil
        refine step_make28 rfl (.tmp 68) (.tmp 68) rfl (T + 1) (by omega) rfl rfl ?_
        simp only [Act.put, List.setIfInBounds_toArray, List.set_cons_zero, List.set_cons_succ]
        obtain ⟨y3, hy3⟩ : ∃ y, y = y2.alloc (.cells (fcells (T + 1) (fun _ => 0)).toArray 3) := ⟨_, rfl⟩
        have Sy3 : Hid (Below W.heap.size W y3) := by rw [hy3]; exact Sy2.out.alloc Sy2.out.size _
        have Ay39 : Hid (FB y3 y2.heap.size (T + 1) (fun _ => 0)) := by rw [hy3]; exact CB.new y2
        have Ay36 : Hid (FB y3 wr.heap.size n (fun _ => 0)) := by rw [hy3]; exact CB.alloc Ay26.out _
        have Ay33 : Hid (FB y3 y1.heap.size (n + 1) (fun _ => 0)) := by rw [hy3]; exact CB.alloc Ay23.out _
        rw [← hy3]
        clear hy3
        refine hK.out _ _ Sy3.out (fun _ => ?_)
        clear hK K
        refine wpAnyH_take (i := 10) (oi := { dst := some 70, op := _, type := _, pos := _, after := _, guard := _ }) (v := .agg #[.slice none 0 0, .slice (some ⟨y2.heap.size, 0, none⟩) (T + 1) (T + 1)]) rfl (by kernel_rfl) (by kernel_rfl) (by kernel_rfl) (fun _ _ _ h => h) (Or.inl ⟨by rfl, fun W hW => by clear hW; go_simp⟩) Sy3.out ?_
        simp only [Act.put, List.setIfInBounds_toArray, List.set_cons_zero, List.set_cons_succ]
        refine wpAnyH_take (i := 11) (oi := { dst := some 71, op := _, type := _, pos := _, after := _, guard := _ }) (v := .agg (rw33 (.slice none 0 0) y1.heap.size wr.heap.size y2.heap.size n T).toArray) rfl (by kernel_rfl) (by kernel_rfl) (by kernel_rfl) (fun _ _ _ h => h) (Or.inl ⟨by rfl, fun W hW => exec_build33 rfl rfl rfl rfl W⟩) Sy3.out ?_
        simp only [Act.put, List.setIfInBounds_toArray, List.set_cons_zero, List.set_cons_succ]
        refine wpAnyH_ready (rs := [12]) (by kernel_rfl) (by simp) ?_
        refine AllReadyH.cons rfl (fun K hK => ?_) AllReadyH.nil
        rw [if_pos (by rfl)]
        go_simp
        obtain ⟨y9, hy9⟩ : ∃ y, y = y3.alloc (.cells (rw33 (.slice none 0 0) y1.heap.size wr.heap.size y2.heap.size n T).toArray 33) := ⟨_, rfl⟩
        have Q9 : Hid (LB W n T y3.heap.size y1.heap.size wr.heap.size y2.heap.size (.slice none 0 0) (fun _ => 0) (fun _ => 0) y9) := by rw [hy9]; exact ⟨Sy3.out.alloc Sy3.out.size _, CB.new y3, CB.alloc Ay33.out _, CB.alloc Ay36.out _⟩
        have SY9 : Hid (Below W.heap.size W y9) := Q9.out.bel
        rw [← hy9]
        clear hy9
        refine hK.out _ _ SY9.out (fun _ => ?_)
        clear hK K
        refine wpAnyH_take (i := 13) (oi := { dst := some 10, op := _, type := _, pos := _, after := _, guard := _ }) (v := .pointer (some ⟨y3.heap.size, 0, none⟩)) rfl (by kernel_rfl) (by kernel_rfl) (by kernel_rfl) (fun _ _ _ h => h) (Or.inl ⟨by rfl, fun W hW => by clear hW; go_simp⟩) SY9.out ?_
        simp only [Act.put, List.setIfInBounds_toArray, List.set_cons_zero, List.set_cons_succ]
        refine wpAnyH_done (by kernel_rfl) ?_ _
        refine NoPanic.normal ?_
        go_wp2_with fail
        go_meet
        case rel => exact ⟨_, _, _, _, rfl, Q9.out, Sy3.out.size, Sy1.out.size, SA.out.size, Nat.ne_of_gt NLT⟩
      · refine step_make28 rfl (.tmp 68) (.tmp 68) rfl (T + 1) (by omega) rfl rfl ?_
        simp only [Act.put, List.setIfInBounds_toArray, List.set_cons_zero, List.set_cons_succ]
        obtain ⟨y2, hy2⟩ : ∃ y, y = y1.alloc (.cells (fcells (T + 1) (fun _ => 0)).toArray 3) := ⟨_, rfl⟩
        have Sy2 : Hid (Below W.heap.size W y2) := by rw [hy2]; exact Sy1.out.alloc Sy1.out.size _
        have Ay29 : Hid (FB y2 y1.heap.size (T + 1) (fun _ => 0)) := by rw [hy2]; exact CB.new y1
        have Ay26 : Hid (FB y2 wr.heap.size n (fun _ => 0)) := by rw [hy2]; exact CB.alloc Ay16.out _
        rw [← hy2]
        clear hy2
        refine hK.out _ _ Sy2.out (fun _ => ?_)
        clear hK K
        refine wpAnyH_take (i := 10) (oi := { dst := some 70, op := _, type := _, pos := _, after := _, guard := _ }) (v := .agg #[.slice none 0 0, .slice (some ⟨y1.heap.size, 0, none⟩) (T + 1) (T + 1)]) rfl (by kernel_rfl) (by kernel_rfl) (by kernel_rfl) (fun _ _ _ h => h) (Or.inl ⟨by rfl, fun W hW => by clear hW; go_simp⟩) Sy2.out ?_
        simp only [Act.put, List.setIfInBounds_toArray, List.set_cons_zero, List.set_cons_succ]
        refine wpAnyH_ready (rs := [3]) (by kernel_rfl) (by simp) ?_
        refine AllReadyH.cons rfl (fun K hK => ?_) AllReadyH.nil
        refine step_make28 rfl (.tmp 62) (.tmp 62) rfl (n + 1) (by omega) rfl rfl ?_
        simp only [Act.put, List.setIfInBounds_toArray, List.set_cons_zero, List.set_cons_succ]
        obtain ⟨y3, hy3⟩ : ∃ y, y = y2.alloc (.cells (fcells (n + 1) (fun _ => 0)).toArray 3) := ⟨_, rfl⟩
        have Sy3 : Hid (Below W.heap.size W y3) := by rw [hy3]; exact Sy2.out.alloc Sy2.out.size _
        have Ay33 : Hid (FB y3 y2.heap.size (n + 1) (fun _ => 0)) := by rw [hy3]; exact CB.new y2
        have Ay36 : Hid (FB y3 wr.heap.size n (fun _ => 0)) := by rw [hy3]; exact CB.alloc Ay26.out _
        have Ay39 : Hid (FB y3 y1.heap.size (T + 1) (fun _ => 0)) := by rw [hy3]; exact CB.alloc Ay29.out _
        have NLT : wr.heap.size < y2.heap.size := CB.lt Ay26.out
        rw [← hy3]
        clear hy3
        refine hK.out _ _ Sy3.out (fun _ => ?_)
        clear hK K
        refine wpAnyH_take (i := 11) (oi := { dst := some 71, op := _, type := _, pos := _, after := _, guard := _ }) (v := .agg (rw33 (.slice none 0 0) y2.heap.size wr.heap.size y1.heap.size n T).toArray) rfl (by kernel_rfl) (by kernel_rfl) (by kernel_rfl) (fun _ _ _ h => h) (Or.inl ⟨by rfl, fun W hW => exec_build33 rfl rfl rfl rfl W⟩) Sy3.out ?_
        simp only [Act.put, List.setIfInBounds_toArray, List.set_cons_zero, List.set_cons_succ]
        refine wpAnyH_ready (rs := [12]) (by kernel_rfl) (by simp) ?_
        refine AllReadyH.cons rfl (fun K hK => ?_) AllReadyH.nil
        rw [if_pos (by rfl)]
        go_simp
        obtain ⟨y9, hy9⟩ : ∃ y, y = y3.alloc (.cells (rw33 (.slice none 0 0) y2.heap.size wr.heap.size y1.heap.size n T).toArray 33) := ⟨_, rfl⟩
        have Q9 : Hid (LB W n T y3.heap.size y2.heap.size wr.heap.size y1.heap.size (.slice none 0 0) (fun _ => 0) (fun _ => 0) y9) := by rw [hy9]; exact ⟨Sy3.out.alloc Sy3.out.size _, CB.new y3, CB.alloc Ay33.out _, CB.alloc Ay36.out _⟩
        have SY9 : Hid (Below W.heap.size W y9) := Q9.out.bel
        rw [← hy9]
        clear hy9
        refine hK.out _ _ SY9.out (fun _ => ?_)
        clear hK K
        refine wpAnyH_take (i := 13) (oi := { dst := some 10, op := _, type := _, pos := _, after := _, guard := _ }) (v := .pointer (some ⟨y3.heap.size, 0, none⟩)) rfl (by kernel_rfl) (by kernel_rfl) (by kernel_rfl) (fun _ _ _ h => h) (Or.inl ⟨by rfl, fun W hW => by clear hW; go_simp⟩) SY9.out ?_
        simp only [Act.put, List.setIfInBounds_toArray, List.set_cons_zero, List.set_cons_succ]
        refine wpAnyH_done (by kernel_rfl) ?_ _
        refine NoPanic.normal ?_
        go_wp2_with fail
        go_meet
        case rel => exact ⟨_, _, _, _, rfl, Q9.out, Sy3.out.size, Sy2.out.size, SA.out.size, Nat.ne_of_gt NLT⟩
    · refine step_make28 rfl (.tmp 68) (.tmp 68) rfl (T + 1) (by omega) rfl rfl ?_
      simp only [Act.put, List.setIfInBounds_toArray, List.set_cons_zero, List.set_cons_succ]
      obtain ⟨y1, hy1⟩ : ∃ y, y = wr.drew.alloc (.cells (fcells (T + 1) (fun _ => 0)).toArray 3) := ⟨_, rfl⟩
      have Sy1 : Hid (Below W.heap.size W y1) := by rw [hy1]; exact SA.out.alloc SA.out.size _
      have Ay19 : Hid (FB y1 wr.heap.size (T + 1) (fun _ => 0)) := by rw [hy1]; exact CB.new wr.drew
      rw [← hy1]
      clear hy1
      refine hK.out _ _ Sy1.out (fun _ => ?_)
      clear hK K
      refine wpAnyH_take (i := 10) (oi := { dst := some 70, op := _, type := _, pos := _, after := _, guard := _ }) (v := .agg #[.slice none 0 0, .slice (some ⟨wr.heap.size, 0, none⟩) (T + 1) (T + 1)]) rfl (by kernel_rfl) (by kernel_rfl) (by kernel_rfl) (fun _ _ _ h => h) (Or.inl ⟨by rfl, fun W hW => by clear hW; go_simp⟩) Sy1.out ?_
      simp only [Act.put, List.setIfInBounds_toArray, List.set_cons_zero, List.set_cons_succ]
      refine wpAnyH_ready (rs := [3, 6]) (by kernel_rfl) (by simp) ?_
      refine AllReadyH.cons rfl (fun K hK => ?_) (AllReadyH.cons rfl (fun K hK => ?_) AllReadyH.nil)
      · refine step_make28 rfl (.tmp 62) (.tmp 62) rfl (n + 1) (by omega) rfl rfl ?_
        simp only [Act.put, List.setIfInBounds_toArray, List.set_cons_zero, List.set_cons_succ]
        obtain ⟨y2, hy2⟩ : ∃ y, y = y1.alloc (.cells (fcells (n + 1) (fun _ => 0)).toArray 3) := ⟨_, rfl⟩
        have Sy2 : Hid (Below W.heap.size W y2) := by rw [hy2]; exact Sy1.out.alloc Sy1.out.size _
        have Ay23 : Hid (FB y2 y1.heap.size (n + 1) (fun _ => 0)) := by rw [hy2]; exact CB.new y1
        have Ay29 : Hid (FB y2 wr.heap.size (T + 1) (fun _ => 0)) := by rw [hy2]; exact CB.alloc Ay19.out _
        rw [← hy2]
        clear hy2
        refine hK.out _ _ Sy2.out (fun _ => ?_)
        clear hK K
        refine wpAnyH_ready (rs := [6]) (by kernel_rfl) (by simp) ?_
        refine AllReadyH.cons rfl (fun K hK => ?_) AllReadyH.nil
        refine step_make28 rfl (.tmp 65) (.tmp 65) rfl n (by omega) rfl rfl ?_
        simp only [Act.put, List.setIfInBounds_toArray, List.set_cons_zero, List.set_cons_succ]
        obtain ⟨y3, hy3⟩ : ∃ y, y = y2.alloc (.cells (fcells n (fun _ => 0)).toArray 3) := ⟨_, rfl⟩
        have Sy3 : Hid (Below W.heap.size W y3) := by rw [hy3]; exact Sy2.out.alloc Sy2.out.size _
        have Ay36 : Hid (FB y3 y2.heap.size n (fun _ => 0)) := by rw [hy3]; exact CB.new y2
        have Ay39 : Hid (FB y3 wr.heap.size (T + 1) (fun _ => 0)) := by rw [hy3]; exact CB.alloc Ay29.out _
        have Ay33 : Hid (FB y3 y1.heap.size (n + 1) (fun _ => 0)) := by rw [hy3]; exact CB.alloc Ay23.out _
        have NLT : y1.heap.size < y2.heap.size := CB.lt Ay23.out
        rw [← hy3]
        clear hy3
        refine hK.out _ _ Sy3.out (fun _ => ?_)
        clear hK K
        refine wpAnyH_take (i := 11) (oi := { dst := some 71, op := _, type := _, pos := _, after := _, guard := _ }) (v := .agg (rw33 (.slice none 0 0) y1.heap.size y2.heap.size wr.heap.size n T).toArray) rfl (by kernel_rfl) (by kernel_rfl) (by kernel_rfl) (fun _ _ _ h => h) (Or.inl ⟨by rfl, fun W hW => exec_build33 rfl rfl rfl rfl W⟩) Sy3.out ?_
        simp only [Act.put, List.setIfInBounds_toArray, List.set_cons_zero, List.set_cons_succ]
        refine wpAnyH_ready (rs := [12]) (by kernel_rfl) (by simp) ?_
        refine AllReadyH.cons rfl (fun K hK => ?_) AllReadyH.nil
        rw [if_pos (by rfl)]
        go_simp
        obtain ⟨y9, hy9⟩ : ∃ y, y = y3.alloc (.cells (rw33 (.slice none 0 0) y1.heap.size y2.heap.size wr.heap.size n T).toArray 33) := ⟨_, rfl⟩
        have Q9 : Hid (LB W n T y3.heap.size y1.heap.size y2.heap.size wr.heap.size (.slice none 0 0) (fun _ => 0) (fun _ => 0) y9) := by rw [hy9]; exact ⟨Sy3.out.alloc Sy3.out.size _, CB.new y3, CB.alloc Ay33.out _, CB.alloc Ay36.out _⟩
        have SY9 : Hid (Below W.heap.size W y9) := Q9.out.bel
        rw [← hy9]
        clear hy9
        refine hK.out _ _ SY9.out (fun _ => ?_)
        clear hK K
        refine wpAnyH_take (i := 13) (oi := { dst := some 10, op := _, type := _, pos := _, after := _, guard := _ }) (v := .pointer (some ⟨y3.heap.size, 0, none⟩)) rfl (by kernel_rfl) (by kernel_rfl) (by kernel_rfl) (fun _ _ _ h => h) (Or.inl ⟨by rfl, fun W hW => by clear hW; go_simp⟩) SY9.out ?_
        simp only [Act.put, List.setIfInBounds_toArray, List.set_cons_zero, List.set_cons_succ]
        refine wpAnyH_done (by kernel_rfl) ?_ _
        refine NoPanic.normal ?_
        go_wp2_with fail
        go_meet
        case rel => exact ⟨_, _, _, _, rfl, Q9.out, Sy3.out.size, Sy1.out.size, Sy2.out.size, Nat.ne_of_lt NLT⟩
      · refine step_make28 rfl (.tmp 65) (.tmp 65) rfl n (by omega) rfl rfl ?_
        simp only [Act.put, List.setIfInBounds_toArray, List.set_cons_zero, List.set_cons_succ]
        obtain ⟨y2, hy2⟩ : ∃ y, y = y1.alloc (.cells (fcells n (fun _ => 0)).toArray 3) := ⟨_, rfl⟩
        have Sy2 : Hid (Below W.heap.size W y2) := by rw [hy2]; exact Sy1.out.alloc Sy1.out.size _
        have Ay26 : Hid (FB y2 y1.heap.size n (fun _ => 0)) := by rw [hy2]; exact CB.new y1
        have Ay29 : Hid (FB y2 wr.heap.size (T + 1) (fun _ => 0)) := by rw [hy2]; exact CB.alloc Ay19.out _
        rw [← hy2]
        clear hy2
        refine hK.out _ _ Sy2.out (fun _ => ?_)
        clear hK K
        refine wpAnyH_ready (rs := [3]) (by kernel_rfl) (by simp) ?_
        refine AllReadyH.cons rfl (fun K hK => ?_) AllReadyH.nil
        refine step_make28 rfl (.tmp 62) (.tmp 62) rfl (n + 1) (by omega) rfl rfl ?_
        simp only [Act.put, List.setIfInBounds_toArray, List.set_cons_zero, List.set_cons_succ]
        obtain ⟨y3, hy3⟩ : ∃ y, y = y2.alloc (.cells (fcells (n + 1) (fun _ => 0)).toArray 3) := ⟨_, rfl⟩
        have Sy3 : Hid (Below W.heap.size W y3) := by rw [hy3]; exact Sy2.out.alloc Sy2.out.size _
        have Ay33 : Hid (FB y3 y2.heap.size (n + 1) (fun _ => 0)) := by rw [hy3]; exact CB.new y2
        have Ay39 : Hid (FB y3 wr.heap.size (T + 1) (fun _ => 0)) := by rw [hy3]; exact CB.alloc Ay29.out _
        have Ay36 : Hid (FB y3 y1.heap.size n (fun _ => 0)) := by rw [hy3]; exact CB.alloc Ay26.out _
        have NLT : y1.heap.size < y2.heap.size := CB.lt Ay26.out
        rw [← hy3]
        clear hy3
        refine hK.out _ _ Sy3.out (fun _ => ?_)
        clear hK K
        refine wpAnyH_take (i := 11) (oi := { dst := some 71, op := _, type := _, pos := _, after := _, guard := _ }) (v := .agg (rw33 (.slice none 0 0) y2.heap.size y1.heap.size wr.heap.size n T).toArray) rfl (by kernel_rfl) (by kernel_rfl) (by kernel_rfl) (fun _ _ _ h => h) (Or.inl ⟨by rfl, fun W hW => exec_build33 rfl rfl rfl rfl W⟩) Sy3.out ?_
        simp only [Act.put, List.setIfInBounds_toArray, List.set_cons_zero, List.set_cons_succ]
        refine wpAnyH_ready (rs := [12]) (by kernel_rfl) (by simp) ?_
        refine AllReadyH.cons rfl (fun K hK => ?_) AllReadyH.nil
        rw [if_pos (by rfl)]
        go_simp
        obtain ⟨y9, hy9⟩ : ∃ y, y = y3.alloc (.cells (rw33 (.slice none 0 0) y2.heap.size y1.heap.size wr.heap.size n T).toArray 33) := ⟨_, rfl⟩
        have Q9 : Hid (LB W n T y3.heap.size y2.heap.size y1.heap.size wr.heap.size (.slice none 0 0) (fun _ => 0) (fun _ => 0) y9) := by rw [hy9]; exact ⟨Sy3.out.alloc Sy3.out.size _, CB.new y3, CB.alloc Ay33.out _, CB.alloc Ay36.out _⟩
        have SY9 : Hid (Below W.heap.size W y9) := Q9.out.bel
        rw [← hy9]
        clear hy9
        refine hK.out _ _ SY9.out (fun _ => ?_)
        clear hK K
        refine wpAnyH_take (i := 13) (oi := { dst := some 10, op := _, type := _, pos := _, after := _, guard := _ }) (v := .pointer (some ⟨y3.heap.size, 0, none⟩)) rfl (by kernel_rfl) (by kernel_rfl) (by kernel_rfl) (fun _ _ _ h => h) (Or.inl ⟨by rfl, fun W hW => by clear hW; go_simp⟩) SY9.out ?_
        simp only [Act.put, List.setIfInBounds_toArray, List.set_cons_zero, List.set_cons_succ]
        refine wpAnyH_done (by kernel_rfl) ?_ _
        refine NoPanic.normal ?_
        go_wp2_with fail
        go_meet
        case rel => exact ⟨_, _, _, _, rfl, Q9.out, Sy3.out.size, Sy2.out.size, Sy1.out.size, Nat.ne_of_gt NLT⟩

end Go.Proofs.YbulkdfeeGreatDoor
