import Derived.Test.YbulkdfeeGreatDoorMain2
namespace Go.Proofs.YbulkdfeeGreatDoor
open Go.ChangeShapes Go.WideShapes Go.ChangeAt Go.RowKit
set_option linter.unusedVariables false
set_option linter.unusedSimpArgs false

set_option maxHeartbeats 20000000 in
set_option maxRecDepth 100000 in
theorem part_read : st2.C := by
    intro s0 h0 ic its xa xc xs W HX HBB HM HXB n hn HN nx hx HNX _ _ _ u6 u8 u48 u49 u50 u51 u52 u53 u54 u55 _ HRD q T hT1 hT2 hTz hTn _ _ u60 u61 u62 u63 u64 u65 u66 u67 u68 u69 u70 u71 u72 gt gs gw gst b1 b2 b3 b4 _ _ _ u12 u13 _ u76 u77 u78 u79 u80 _ _ _ _ _ _ _ _ _ _ _ _ _ _ _ _ _ _ _ _ _ u102 u103 u104 u105 u106 u107 u108 u109 u110 u111 u112 u113 u114 u115 u116 _ _ _ _ _ _ _ _ _ _ _ _ _ _ _ _ _ _ _ _ _ _ _ u140 u141 u142 u143 u144 u145 u146 u147 u148 u149 u150 u151 u152 i v _ fs fw hi HU HFS hil hil' g o HI _ _ HFI HUI wb wv rd ra rc HX1 hwv hrl HRB HR8 gx w2 bgx _ _ _ wc u81 u82 u83 u84 u85 u86 u87 u88 u89 u90 u91 u92 u93 u94 u95 u96 u97 u98 u99 u100 u101 U2 P1 HP1 HP1L HP1B HU2 HU2L ua uc _ _ fw2 HFW2 w4 _ _ wr u15 u117 u118 u119 u120 u121 u122 u123 u124 u125 u126 u127 u128 u129 u130 u131 u132 u133 u134 u135 u136 u137 u138 u139 k v5 U hk L2 O2 HU5 X2 HUL hkl
    have hkl' : (k : Int) < (rd.length : Int) := by omega
    obtain ⟨y, hy⟩ : ∃ y, rd[k]? = some y := ⟨rd[k], List.getElem?_eq_getElem hkl⟩
    have hy255 : y ≤ 255 := HRB.out y (List.mem_of_getElem? hy)
    have HY : Hid (rd[k]? = some y) := hy
    obtain ⟨g2, o2, rfl, hg2, hc2⟩ := (HR8.out.below L2.out.bel) k y hy
    obtain ⟨wq0, hwq0⟩ : ∃ wq0, wq0 = wr := ⟨_, rfl⟩
    rw [← hwq0] at L2 O2 X2 hc2 ⊢
    clear hwq0 hy hg2
    obtain ⟨ua, uc, huv, _, _⟩ := O2.out.lies
    subst huv
    obtain ⟨rm, hrm⟩ : ∃ rm, rm = U.length % T := ⟨_, rfl⟩
    have er : Int.tmod (U.length : Int) (T : Int) = (rm : Int) := by rw [hrm]; exact tmod_nat U.length T
    have wrm : IntKind.i64.wrap (rm : Int) = (rm : Int) := i64w _ (by have : rm < T := (by rw [hrm]; exact Nat.mod_lt _ (by omega)); omega)
    clear hrm
    go_upto_region 22 with fail
    have SA : Hid (SU gx [.bool wb, .int .u8 wv, .slice (some ⟨g2, o2, none⟩) rd.length rc] wq0.drew) := X2.out
    refine wp_region_noPanic ?_
    refine wp_region_held_drew (S := SU gx [.bool wb, .int .u8 wv, .slice (some ⟨g2, o2, none⟩) rd.length rc]) (by kernel_rfl) SA.out (fun _ => ?_)
    refine wpAnyH_take (i := 0) (oi := { dst := some 120, op := _, type := _, pos := _, after := _, guard := _ }) (v := .pointer (some ⟨gt, 0, none⟩)) rfl (by kernel_rfl) (by kernel_rfl) (by kernel_rfl) (fun _ _ _ h => h) (Or.inl ⟨by rfl, fun W hW => by clear hW; go_simp⟩) SA.out ?_
    simp only [Act.put, List.setIfInBounds_toArray, List.set_cons_zero, List.set_cons_succ]
    refine wpAnyH_take (i := 1) (oi := { dst := some 121, op := _, type := _, pos := _, after := _, guard := _ }) (v := .pointer (some ⟨gt, 0, none⟩)) rfl (by kernel_rfl) (by kernel_rfl) (by kernel_rfl) (fun _ _ _ h => h) (Or.inl ⟨by rfl, fun W hW => by clear hW; go_simp⟩) SA.out ?_
    simp only [Act.put, List.setIfInBounds_toArray, List.set_cons_zero, List.set_cons_succ]
    refine wpAnyH_take (i := 2) (oi := { dst := some 122, op := _, type := _, pos := _, after := _, guard := _ }) (v := .pointer (some ⟨gt, 0, none⟩)) rfl (by kernel_rfl) (by kernel_rfl) (by kernel_rfl) (fun _ _ _ h => h) (Or.inl ⟨by rfl, fun W hW => by clear hW; go_simp⟩) SA.out ?_
    simp only [Act.put, List.setIfInBounds_toArray, List.set_cons_zero, List.set_cons_succ]
    refine wpAnyH_take (i := 3) (oi := { dst := some 123, op := _, type := _, pos := _, after := _, guard := _ }) (v := .pointer (some ⟨gt, 0, none⟩)) rfl (by kernel_rfl) (by kernel_rfl) (by kernel_rfl) (fun _ _ _ h => h) (Or.inl ⟨by rfl, fun W hW => by clear hW; go_simp⟩) SA.out ?_
    simp only [Act.put, List.setIfInBounds_toArray, List.set_cons_zero, List.set_cons_succ]
    refine wpAnyH_take (i := 5) (oi := { dst := some 125, op := _, type := _, pos := _, after := _, guard := _ }) (v := .int .i64 (U.length : Int)) rfl (by kernel_rfl) (by kernel_rfl) (by kernel_rfl) (fun _ _ _ h => h) (Or.inl ⟨by rfl, fun W hW => by clear hW; go_simp⟩) SA.out ?_
    simp only [Act.put, List.setIfInBounds_toArray, List.set_cons_zero, List.set_cons_succ]
    refine wpAnyH_take (i := 6) (oi := { dst := some 126, op := _, type := _, pos := _, after := _, guard := _ }) (v := .int .i64 (T : Int)) rfl (by kernel_rfl) (by kernel_rfl) (by kernel_rfl) (fun _ _ _ h => h) (Or.inl ⟨by rfl, fun W hW => by clear hW; go_simp⟩) SA.out ?_
    simp only [Act.put, List.setIfInBounds_toArray, List.set_cons_zero, List.set_cons_succ]
    refine wpAnyH_take (i := 7) (oi := { dst := some 127, op := _, type := _, pos := _, after := _, guard := _ }) (v := .int .i64 (rm : Int)) rfl (by kernel_rfl) (by kernel_rfl) (by kernel_rfl) (fun _ _ _ h => h) (Or.inl ⟨by rfl, fun W hW => by clear hW; go_simp⟩) SA.out ?_
    simp only [Act.put, List.setIfInBounds_toArray, List.set_cons_zero, List.set_cons_succ]
    refine wpAnyH_take (i := 8) (oi := { dst := some 128, op := _, type := _, pos := _, after := _, guard := _ }) (v := .int .i64 (i : Int)) rfl (by kernel_rfl) (by kernel_rfl) (by kernel_rfl) (fun _ _ _ h => h) (Or.inl ⟨by rfl, fun W hW => by clear hW; go_simp⟩) SA.out ?_
    simp only [Act.put, List.setIfInBounds_toArray, List.set_cons_zero, List.set_cons_succ]
    refine wpAnyH_take (i := 9) (oi := { dst := some 129, op := _, type := _, pos := _, after := _, guard := _ }) (v := .int .u8 (y : Int)) rfl (by kernel_rfl) (by kernel_rfl) (by kernel_rfl) (fun _ _ _ h => h) (Or.inl ⟨by rfl, fun W hW => by clear hW; go_simp⟩) SA.out ?_
    simp only [Act.put, List.setIfInBounds_toArray, List.set_cons_zero, List.set_cons_succ]
    refine wpAnyH_take (i := 10) (oi := { dst := some 130, op := _, type := _, pos := _, after := _, guard := _ }) (v := .int .i64 (T : Int)) rfl (by kernel_rfl) (by kernel_rfl) (by kernel_rfl) (fun _ _ _ h => h) (Or.inl ⟨by rfl, fun W hW => by clear hW; go_simp⟩) SA.out ?_
    simp only [Act.put, List.setIfInBounds_toArray, List.set_cons_zero, List.set_cons_succ]
    refine wpAnyH_ready (rs := [4, 11]) (by kernel_rfl) (by simp) ?_
    refine AllReadyH.cons rfl (fun K hK => ?_) (AllReadyH.cons rfl (fun K hK => ?_) AllReadyH.nil)
    · have hd : wq0.drew.cell? ⟨gt, 0, none⟩ = some (.slice ua U.length uc) := CB.cell (w := wq0.drew) (i := 0) L2.out.row rfl
      rw [if_pos (by rfl)]
      go_simp
      refine hK.out _ _ SA.out (fun _ => ?_)
      clear hK K hd
      refine wpAnyH_ready (rs := [11]) (by kernel_rfl) (by simp) ?_
      refine AllReadyH.cons rfl (fun K hK => ?_) AllReadyH.nil
      rw [if_pos (by rfl)]
      go_simp
      refine (from4 y T hy255 ⟨hT1, hT2⟩ wq0.drew).mono ?_
      rintro e wt ⟨rfl, hwt⟩
      rw [hwt]
      clear hwt wt
      refine hK.out _ _ SA.out (fun _ => ?_)
      clear hK K
      refine wpAnyH_take (i := 12) (oi := { dst := some 132, op := _, type := _, pos := _, after := _, guard := _ }) (v := .agg (Us.cells (⟨(rm : Int), (i : Int), 0, 0, 9223372036854775807, (-1), frm T y⟩ : Us)).toArray) rfl (by kernel_rfl) (by kernel_rfl) (by kernel_rfl) (fun _ _ _ h => h) (Or.inl ⟨by rfl, fun W hW => exec_build36 rfl rfl rfl rfl W⟩) SA.out ?_
      simp only [Act.put, List.setIfInBounds_toArray, List.set_cons_zero, List.set_cons_succ]
      refine wpAnyH_ready (rs := [13]) (by kernel_rfl) (by simp) ?_
      refine AllReadyH.cons rfl (fun K hK => ?_) AllReadyH.nil
      refine step_buildUs rfl (.tmp 132) rfl (⟨(rm : Int), (i : Int), 0, 0, 9223372036854775807, (-1), frm T y⟩ : Us) rfl ?_
      simp only [Act.put, List.setIfInBounds_toArray, List.set_cons_zero, List.set_cons_succ]
      have SB : Hid (SU gx [.bool wb, .int .u8 wv, .slice (some ⟨g2, o2, none⟩) rd.length rc] (wq0.drew.alloc (.cells (Us.cells (⟨(rm : Int), (i : Int), 0, 0, 9223372036854775807, (-1), frm T y⟩ : Us)).toArray 36))) := CB.alloc (w := wq0.drew) X2.out _
      refine hK.out _ _ SB.out (fun _ => ?_)
      clear hK K
      refine wpAnyH_ready (rs := [14]) (by kernel_rfl) (by simp) ?_
      refine AllReadyH.cons rfl (fun K hK => ?_) AllReadyH.nil
      refine step_appendUs wq0.drew rfl (.tmp 124) (.tmp 133) rfl W.heap.size (.slice ua U.length uc) U (⟨(rm : Int), (i : Int), 0, 0, 9223372036854775807, (-1), frm T y⟩ : Us) rfl rfl O2.out.drew (by have := HUL.out; omega) L2.out.bel.drew.size ?_
      intro v3 w3 hO3 hG3
      have L3 : Hid (LB W n T gt gs gw gst (.slice ua U.length uc) fs fw2 w3) := L2.out.drew.grown O2.out.drew hG3
      have X3 : Hid (CB w3 gx 26 [.bool wb, .int .u8 wv, .slice (some ⟨g2, o2, none⟩) rd.length rc]) := CB.grown (w := wq0.drew) X2.out hG3 (own_ne O2.out.drew X2.out (by decide))
      obtain ⟨U3, hU3⟩ : ∃ U3, U3 = U ++ [(⟨(rm : Int), (i : Int), 0, 0, 9223372036854775807, (-1), frm T y⟩ : Us)] := ⟨_, rfl⟩
      rw [← hU3] at hO3
      have HU3 : Hid (U3.map Us.r = U.map Us.r ++ [frm T y]) := by rw [hU3, List.map_append]; rfl
      have HU3L : Hid (U3.length = U.length + 1) := by rw [hU3, List.length_append]; rfl
      obtain ⟨va, vc, hv3, hUA3, hvc3⟩ := hO3.lies
      subst hv3
      clear hU3 hUA3 hvc3
      have O3 : Hid (OU W.heap.size w3 (.slice va U3.length vc) U3) := hO3
      have SC : Hid (SU gx [.bool wb, .int .u8 wv, .slice (some ⟨g2, o2, none⟩) rd.length rc] w3) := X3.out
      clear hO3 hG3 SB
      simp only [Act.put, List.setIfInBounds_toArray, List.set_cons_zero, List.set_cons_succ]
      refine hK.out _ _ SC.out (fun _ => ?_)
      clear hK K
      refine wpAnyH_take (i := 15) (oi := { dst := some 135, op := _, type := _, pos := _, after := _, guard := _ }) (v := .pointer (some ⟨gt, 0, none⟩)) rfl (by kernel_rfl) (by kernel_rfl) (by kernel_rfl) (fun _ _ _ h => h) (Or.inl ⟨by rfl, fun W hW => by clear hW; go_simp⟩) SC.out ?_
      simp only [Act.put, List.setIfInBounds_toArray, List.set_cons_zero, List.set_cons_succ]
      refine wpAnyH_take (i := 16) (oi := { dst := some 136, op := _, type := _, pos := _, after := _, guard := _ }) (v := .pointer (some ⟨gt, 0, none⟩)) rfl (by kernel_rfl) (by kernel_rfl) (by kernel_rfl) (fun _ _ _ h => h) (Or.inl ⟨by rfl, fun W hW => by clear hW; go_simp⟩) SC.out ?_
      simp only [Act.put, List.setIfInBounds_toArray, List.set_cons_zero, List.set_cons_succ]
      refine wpAnyH_ready (rs := [17]) (by kernel_rfl) (by simp) ?_
      refine AllReadyH.cons rfl (fun K hK => ?_) AllReadyH.nil
      have k0 : w3.cell? ⟨gt, 0, none⟩ = some (.slice ua U.length uc) := L3.out.row.cell rfl
      have q0 : w3.frozen? ⟨gt, 0, none⟩ = false := L3.out.row.froz
      rw [if_pos (by rfl)]
      go_simp
      have L4 : Hid (LB W n T gt gs gw gst (.slice va U3.length vc) fs fw2 (w3.setCell ⟨gt, 0, none⟩ (.slice va U3.length vc))) := L3.out.put b1
      have O4 : Hid (OU W.heap.size (w3.setCell ⟨gt, 0, none⟩ (.slice va U3.length vc)) (.slice va U3.length vc) U3) := O3.out.set L3.out.row (by decide)
      have X4 : Hid (CB (w3.setCell ⟨gt, 0, none⟩ (.slice va U3.length vc)) gx 26 [.bool wb, .int .u8 wv, .slice (some ⟨g2, o2, none⟩) rd.length rc]) := X3.out.other (CB.apart L3.out.row X3.out (by decide))
      have SD : Hid (SU gx [.bool wb, .int .u8 wv, .slice (some ⟨g2, o2, none⟩) rd.length rc] (w3.setCell ⟨gt, 0, none⟩ (.slice va U3.length vc))) := X4.out
      clear k0 q0
      refine hK.out _ _ SD.out (fun _ => ?_)
      clear hK K
      refine wpAnyH_done (by kernel_rfl) ?_ _
      refine NoPanic.normal ?_
      have hul : U.length ≤ 77200 := HUL.out
      go_wp2_with fail
      go_roundw
      case rel => exact ⟨k + 1, _, U3, by omega, by simp, by rw [HU3L.out]; rfl, L4.out, O4.out, by rw [HU3.out, HU5.out, List.take_add_one, HY.out]; simp, X4.out⟩
      case measure => simp [intOf]; omega
    · rw [if_pos (by rfl)]
      go_simp
      refine (from4 y T hy255 ⟨hT1, hT2⟩ wq0.drew).mono ?_
      rintro e wt ⟨rfl, hwt⟩
      rw [hwt]
      clear hwt wt
      refine hK.out _ _ SA.out (fun _ => ?_)
      clear hK K
      refine wpAnyH_take (i := 12) (oi := { dst := some 132, op := _, type := _, pos := _, after := _, guard := _ }) (v := .agg (Us.cells (⟨(rm : Int), (i : Int), 0, 0, 9223372036854775807, (-1), frm T y⟩ : Us)).toArray) rfl (by kernel_rfl) (by kernel_rfl) (by kernel_rfl) (fun _ _ _ h => h) (Or.inl ⟨by rfl, fun W hW => exec_build36 rfl rfl rfl rfl W⟩) SA.out ?_
      simp only [Act.put, List.setIfInBounds_toArray, List.set_cons_zero, List.set_cons_succ]
      refine wpAnyH_ready (rs := [4, 13]) (by kernel_rfl) (by simp) ?_
      refine AllReadyH.cons rfl (fun K hK => ?_) (AllReadyH.cons rfl (fun K hK => ?_) AllReadyH.nil)
      · have hd : wq0.drew.cell? ⟨gt, 0, none⟩ = some (.slice ua U.length uc) := CB.cell (w := wq0.drew) (i := 0) L2.out.row rfl
        rw [if_pos (by rfl)]
        go_simp
        refine hK.out _ _ SA.out (fun _ => ?_)
        clear hK K hd
        refine wpAnyH_ready (rs := [13]) (by kernel_rfl) (by simp) ?_
        refine AllReadyH.cons rfl (fun K hK => ?_) AllReadyH.nil
        refine step_buildUs rfl (.tmp 132) rfl (⟨(rm : Int), (i : Int), 0, 0, 9223372036854775807, (-1), frm T y⟩ : Us) rfl ?_
        simp only [Act.put, List.setIfInBounds_toArray, List.set_cons_zero, List.set_cons_succ]
        have SB : Hid (SU gx [.bool wb, .int .u8 wv, .slice (some ⟨g2, o2, none⟩) rd.length rc] (wq0.drew.alloc (.cells (Us.cells (⟨(rm : Int), (i : Int), 0, 0, 9223372036854775807, (-1), frm T y⟩ : Us)).toArray 36))) := CB.alloc (w := wq0.drew) X2.out _
        refine hK.out _ _ SB.out (fun _ => ?_)
        clear hK K
        refine wpAnyH_ready (rs := [14]) (by kernel_rfl) (by simp) ?_
        refine AllReadyH.cons rfl (fun K hK => ?_) AllReadyH.nil
        refine step_appendUs wq0.drew rfl (.tmp 124) (.tmp 133) rfl W.heap.size (.slice ua U.length uc) U (⟨(rm : Int), (i : Int), 0, 0, 9223372036854775807, (-1), frm T y⟩ : Us) rfl rfl O2.out.drew (by have := HUL.out; omega) L2.out.bel.drew.size ?_
        intro v3 w3 hO3 hG3
        have L3 : Hid (LB W n T gt gs gw gst (.slice ua U.length uc) fs fw2 w3) := L2.out.drew.grown O2.out.drew hG3
        have X3 : Hid (CB w3 gx 26 [.bool wb, .int .u8 wv, .slice (some ⟨g2, o2, none⟩) rd.length rc]) := CB.grown (w := wq0.drew) X2.out hG3 (own_ne O2.out.drew X2.out (by decide))
        obtain ⟨U3, hU3⟩ : ∃ U3, U3 = U ++ [(⟨(rm : Int), (i : Int), 0, 0, 9223372036854775807, (-1), frm T y⟩ : Us)] := ⟨_, rfl⟩
        rw [← hU3] at hO3
        have HU3 : Hid (U3.map Us.r = U.map Us.r ++ [frm T y]) := by rw [hU3, List.map_append]; rfl
        have HU3L : Hid (U3.length = U.length + 1) := by rw [hU3, List.length_append]; rfl
        obtain ⟨va, vc, hv3, hUA3, hvc3⟩ := hO3.lies
        subst hv3
        clear hU3 hUA3 hvc3
        have O3 : Hid (OU W.heap.size w3 (.slice va U3.length vc) U3) := hO3
        have SC : Hid (SU gx [.bool wb, .int .u8 wv, .slice (some ⟨g2, o2, none⟩) rd.length rc] w3) := X3.out
        clear hO3 hG3 SB
        simp only [Act.put, List.setIfInBounds_toArray, List.set_cons_zero, List.set_cons_succ]
        refine hK.out _ _ SC.out (fun _ => ?_)
        clear hK K
        refine wpAnyH_take (i := 15) (oi := { dst := some 135, op := _, type := _, pos := _, after := _, guard := _ }) (v := .pointer (some ⟨gt, 0, none⟩)) rfl (by kernel_rfl) (by kernel_rfl) (by kernel_rfl) (fun _ _ _ h => h) (Or.inl ⟨by rfl, fun W hW => by clear hW; go_simp⟩) SC.out ?_
        simp only [Act.put, List.setIfInBounds_toArray, List.set_cons_zero, List.set_cons_succ]
        refine wpAnyH_take (i := 16) (oi := { dst := some 136, op := _, type := _, pos := _, after := _, guard := _ }) (v := .pointer (some ⟨gt, 0, none⟩)) rfl (by kernel_rfl) (by kernel_rfl) (by kernel_rfl) (fun _ _ _ h => h) (Or.inl ⟨by rfl, fun W hW => by clear hW; go_simp⟩) SC.out ?_
        simp only [Act.put, List.setIfInBounds_toArray, List.set_cons_zero, List.set_cons_succ]
        refine wpAnyH_ready (rs := [17]) (by kernel_rfl) (by simp) ?_
        refine AllReadyH.cons rfl (fun K hK => ?_) AllReadyH.nil
        have k0 : w3.cell? ⟨gt, 0, none⟩ = some (.slice ua U.length uc) := L3.out.row.cell rfl
        have q0 : w3.frozen? ⟨gt, 0, none⟩ = false := L3.out.row.froz
        rw [if_pos (by rfl)]
        go_simp
        have L4 : Hid (LB W n T gt gs gw gst (.slice va U3.length vc) fs fw2 (w3.setCell ⟨gt, 0, none⟩ (.slice va U3.length vc))) := L3.out.put b1
        have O4 : Hid (OU W.heap.size (w3.setCell ⟨gt, 0, none⟩ (.slice va U3.length vc)) (.slice va U3.length vc) U3) := O3.out.set L3.out.row (by decide)
        have X4 : Hid (CB (w3.setCell ⟨gt, 0, none⟩ (.slice va U3.length vc)) gx 26 [.bool wb, .int .u8 wv, .slice (some ⟨g2, o2, none⟩) rd.length rc]) := X3.out.other (CB.apart L3.out.row X3.out (by decide))
        have SD : Hid (SU gx [.bool wb, .int .u8 wv, .slice (some ⟨g2, o2, none⟩) rd.length rc] (w3.setCell ⟨gt, 0, none⟩ (.slice va U3.length vc))) := X4.out
        clear k0 q0
        refine hK.out _ _ SD.out (fun _ => ?_)
        clear hK K
        refine wpAnyH_done (by kernel_rfl) ?_ _
        refine NoPanic.normal ?_
        have hul : U.length ≤ 77200 := HUL.out
        go_wp2_with fail
        go_roundw
        case rel => exact ⟨k + 1, _, U3, by omega, by simp, by rw [HU3L.out]; rfl, L4.out, O4.out, by rw [HU3.out, HU5.out, List.take_add_one, HY.out]; simp, X4.out⟩
        case measure => simp [intOf]; omega
      · refine step_buildUs rfl (.tmp 132) rfl (⟨(rm : Int), (i : Int), 0, 0, 9223372036854775807, (-1), frm T y⟩ : Us) rfl ?_
        simp only [Act.put, List.setIfInBounds_toArray, List.set_cons_zero, List.set_cons_succ]
        have SB : Hid (SU gx [.bool wb, .int .u8 wv, .slice (some ⟨g2, o2, none⟩) rd.length rc] (wq0.drew.alloc (.cells (Us.cells (⟨(rm : Int), (i : Int), 0, 0, 9223372036854775807, (-1), frm T y⟩ : Us)).toArray 36))) := CB.alloc (w := wq0.drew) X2.out _
        refine hK.out _ _ SB.out (fun _ => ?_)
        clear hK K
        refine wpAnyH_ready (rs := [4]) (by kernel_rfl) (by simp) ?_
        refine AllReadyH.cons rfl (fun K hK => ?_) AllReadyH.nil
        have hd : (wq0.alloc (.cells (Us.cells (⟨(rm : Int), (i : Int), 0, 0, 9223372036854775807, (-1), frm T y⟩ : Us)).toArray 36)).cell? ⟨gt, 0, none⟩ = some (.slice ua U.length uc) := CB.cell (i := 0) (CB.alloc (w := wq0) L2.out.row _) rfl
        rw [if_pos (by rfl)]
        go_simp
        refine hK.out _ _ SB.out (fun _ => ?_)
        clear hK K hd
        refine wpAnyH_ready (rs := [14]) (by kernel_rfl) (by simp) ?_
        refine AllReadyH.cons rfl (fun K hK => ?_) AllReadyH.nil
        refine step_appendUs wq0.drew rfl (.tmp 124) (.tmp 133) rfl W.heap.size (.slice ua U.length uc) U (⟨(rm : Int), (i : Int), 0, 0, 9223372036854775807, (-1), frm T y⟩ : Us) rfl rfl O2.out.drew (by have := HUL.out; omega) L2.out.bel.drew.size ?_
        intro v3 w3 hO3 hG3
        have L3 : Hid (LB W n T gt gs gw gst (.slice ua U.length uc) fs fw2 w3) := L2.out.drew.grown O2.out.drew hG3
        have X3 : Hid (CB w3 gx 26 [.bool wb, .int .u8 wv, .slice (some ⟨g2, o2, none⟩) rd.length rc]) := CB.grown (w := wq0.drew) X2.out hG3 (own_ne O2.out.drew X2.out (by decide))
        obtain ⟨U3, hU3⟩ : ∃ U3, U3 = U ++ [(⟨(rm : Int), (i : Int), 0, 0, 9223372036854775807, (-1), frm T y⟩ : Us)] := ⟨_, rfl⟩
        rw [← hU3] at hO3
        have HU3 : Hid (U3.map Us.r = U.map Us.r ++ [frm T y]) := by rw [hU3, List.map_append]; rfl
        have HU3L : Hid (U3.length = U.length + 1) := by rw [hU3, List.length_append]; rfl
        obtain ⟨va, vc, hv3, hUA3, hvc3⟩ := hO3.lies
        subst hv3
        clear hU3 hUA3 hvc3
        have O3 : Hid (OU W.heap.size w3 (.slice va U3.length vc) U3) := hO3
        have SC : Hid (SU gx [.bool wb, .int .u8 wv, .slice (some ⟨g2, o2, none⟩) rd.length rc] w3) := X3.out
        clear hO3 hG3 SB
        simp only [Act.put, List.setIfInBounds_toArray, List.set_cons_zero, List.set_cons_succ]
        refine hK.out _ _ SC.out (fun _ => ?_)
        clear hK K
        refine wpAnyH_take (i := 15) (oi := { dst := some 135, op := _, type := _, pos := _, after := _, guard := _ }) (v := .pointer (some ⟨gt, 0, none⟩)) rfl (by kernel_rfl) (by kernel_rfl) (by kernel_rfl) (fun _ _ _ h => h) (Or.inl ⟨by rfl, fun W hW => by clear hW; go_simp⟩) SC.out ?_
        simp only [Act.put, List.setIfInBounds_toArray, List.set_cons_zero, List.set_cons_succ]
        refine wpAnyH_take (i := 16) (oi := { dst := some 136, op := _, type := _, pos := _, after := _, guard := _ }) (v := .pointer (some ⟨gt, 0, none⟩)) rfl (by kernel_rfl) (by kernel_rfl) (by kernel_rfl) (fun _ _ _ h => h) (Or.inl ⟨by rfl, fun W hW => by clear hW; go_simp⟩) SC.out ?_
        simp only [Act.put, List.setIfInBounds_toArray, List.set_cons_zero, List.set_cons_succ]
        refine wpAnyH_ready (rs := [17]) (by kernel_rfl) (by simp) ?_
        refine AllReadyH.cons rfl (fun K hK => ?_) AllReadyH.nil
        have k0 : w3.cell? ⟨gt, 0, none⟩ = some (.slice ua U.length uc) := L3.out.row.cell rfl
        have q0 : w3.frozen? ⟨gt, 0, none⟩ = false := L3.out.row.froz
        rw [if_pos (by rfl)]
        go_simp
        have L4 : Hid (LB W n T gt gs gw gst (.slice va U3.length vc) fs fw2 (w3.setCell ⟨gt, 0, none⟩ (.slice va U3.length vc))) := L3.out.put b1
        have O4 : Hid (OU W.heap.size (w3.setCell ⟨gt, 0, none⟩ (.slice va U3.length vc)) (.slice va U3.length vc) U3) := O3.out.set L3.out.row (by decide)
        have X4 : Hid (CB (w3.setCell ⟨gt, 0, none⟩ (.slice va U3.length vc)) gx 26 [.bool wb, .int .u8 wv, .slice (some ⟨g2, o2, none⟩) rd.length rc]) := X3.out.other (CB.apart L3.out.row X3.out (by decide))
        have SD : Hid (SU gx [.bool wb, .int .u8 wv, .slice (some ⟨g2, o2, none⟩) rd.length rc] (w3.setCell ⟨gt, 0, none⟩ (.slice va U3.length vc))) := X4.out
        clear k0 q0
        refine hK.out _ _ SD.out (fun _ => ?_)
        clear hK K
        refine wpAnyH_done (by kernel_rfl) ?_ _
        refine NoPanic.normal ?_
        have hul : U.length ≤ 77200 := HUL.out
        go_wp2_with fail
        go_roundw
        case rel => exact ⟨k + 1, _, U3, by omega, by simp, by rw [HU3L.out]; rfl, L4.out, O4.out, by rw [HU3.out, HU5.out, List.take_add_one, HY.out]; simp, X4.out⟩
        case measure => simp [intOf]; omega

set_option maxHeartbeats 20000000 in
set_option maxRecDepth 100000 in
theorem part_step : st2.D := by
    intro s0 h0 ic its xa xc xs W HX HBB HM HXB n hn HN nx hx HNX _ _ _ u6 u8 u48 u49 u50 u51 u52 u53 u54 u55 _ HRD q T hT1 hT2 hTz hTn _ _ u60 u61 u62 u63 u64 u65 u66 u67 u68 u69 u70 u71 u72 gt gs gw gst b1 b2 b3 b4 _ _ _ u12 u13 _ u76 u77 u78 u79 u80 _ _ _ _ _ _ _ _ _ _ _ _ _ _ _ _ _ _ _ _ _ u102 u103 u104 u105 u106 u107 u108 u109 u110 u111 u112 u113 u114 u115 u116 _ _ _ _ _ _ _ _ _ _ _ _ _ _ _ _ _ _ _ _ _ _ _ u140 u141 u142 u143 u144 u145 u146 u147 u148 u149 u150 u151 u152 i v _ fs fw hi HU HFS hil hil' g o HI _ _ HFI HUI wb wv rd ra rc HX1 hwv hrl HRB HR8 gx w2 bgx _ _ _ wc u81 u82 u83 u84 u85 u86 u87 u88 u89 u90 u91 u92 u93 u94 u95 u96 u97 u98 u99 u100 u101 U2 P1 HP1 HP1L HP1B HU2 HU2L ua uc _ _ fw2 HFW2 w4 _ _ wr u15 u117 u118 u119 u120 u121 u122 u123 u124 u125 u126 u127 u128 u129 u130 u131 u132 u133 u134 u135 u136 u137 u138 u139 k v5 U hk L2 O2 HU5 X2 HUL hkl
    obtain rfl : k = rd.length := by omega
    obtain ⟨va, vc, huv, _, _⟩ := O2.out.lies
    subst huv
    have r0 : wr.cell? ⟨gt, 0, none⟩ = some (.slice va U.length vc) := L2.out.row.cell rfl
    have r1 : wr.cell? ⟨gt, 1, none⟩ = some (.slice (some ⟨gs, 0, none⟩) (n + 1) (n + 1)) := L2.out.row.cell rfl
    have kw : wr.cell? ⟨gs, i + 1, none⟩ = some (.int .i64 (fs (i + 1))) := L2.out.st.cell (by omega)
    have qw : wr.frozen? ⟨gs, i + 1, none⟩ = false := CB.froz L2.out.st
    have hi1 : (i : Int) + 1 < ((n + 1 : Nat) : Int) := by omega
    obtain ⟨fs2, hfs2⟩ : ∃ fs2 : Nat → Int, fs2 = fun j => if j = i + 1 then (U.length : Int) else fs j := ⟨_, rfl⟩
    have HUF : Hid (U.map Us.r = FL T (its.take (i + 1))) := by rw [HP1.out, HU5.out, List.take_length]; exact rfl
    have HFS2 : Hid (∀ j, j ≤ i + 1 → fs2 j = (usF T its j : Int)) := fun j hj => by
      rw [hfs2]
      by_cases e : j = i + 1
      · subst e
        simp only [if_true]
        unfold usF
        rw [← HUF.out, List.length_map]
      · simp only [e, if_false]; exact HFS.out j (by omega)
    have L5 : Hid (LB W n T gt gs gw gst (.slice va U.length vc) fs2 fw2 (wr.setCell ⟨gs, i + 1, none⟩ (.int .i64 (U.length : Int))).drew) := by rw [hfs2]; exact (L2.out.setS b2 b4 (i + 1) _).drew
    have O5 : Hid (OU W.heap.size (wr.setCell ⟨gs, i + 1, none⟩ (.int .i64 (U.length : Int))).drew (.slice va U.length vc) U) := (O2.out.set L2.out.st (by decide)).drew
    clear hfs2 HFS
    go_upto_region 25 with fail
    go_region
    generalize (wr.setCell ⟨gs, i + 1, none⟩ (.int .i64 (U.length : Int))).drew = w6 at L5 O5 ⊢
    clear r0 r1 kw qw
    go_wp2_with fail
    go_roundw
    case rel => exact ⟨i + 1, _, U, fs2, fw2, by omega, by simp, rfl, L5.out, O5.out, HUF.out, HFS2.out, HFW2.out⟩
    case measure => simp [intOf]; omega

end Go.Proofs.YbulkdfeeGreatDoor
