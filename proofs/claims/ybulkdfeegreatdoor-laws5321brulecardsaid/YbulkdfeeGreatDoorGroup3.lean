import Derived.Test.YbulkdfeeGreatDoorGroup2
namespace Go.Proofs.YbulkdfeeGreatDoor
open Go.ChangeShapes Go.WideShapes Go.ChangeAt Go.RowKit
set_option linter.unusedVariables false
set_option linter.unusedSimpArgs false

theorem size_drew (w : World) : w.drew.heap.size = w.heap.size := by simp
theorem size_drew_alloc (w : World) (o : Obj) : (w.drew.alloc o).heap.size = w.heap.size + 1 := by simp
/-- groupBy at its second loop. -/
structure G2 (w : World) (g7 gs gn gi g10 T cap : Nat) (ks : List Nat) (nx fi : Nat → Int) (wq : World) : Prop where
  bel : Below w.heap.size w wq
  row : CB wq g7 71 [.slice (some ⟨gs, 0, none⟩) (T + 1) (T + 1), .slice (some ⟨gn, 0, none⟩) T cap]
  st : FB wq gs (T + 1) (fun j => (pre ks j : Int))
  nxt : PB wq gn T nx
  res : CB wq w.heap.size 30 [.slice none 0 0, .slice none 0 0]
  its : FB wq gi ks.length fi
  l : CB wq g10 30 [.slice (some ⟨gi, 0, none⟩) ks.length ks.length, .slice (some ⟨gs, 0, none⟩) (T + 1) (T + 1)]
def SX (g7 gs T : Nat) (wq : World) : Prop := ∃ nx, CB wq g7 71 [.slice (some ⟨gs, 0, none⟩) (T + 1) (T + 1), nx]
def SY (w : World) (g10 gi gs T m : Nat) (wq : World) : Prop := Below w.heap.size w wq ∧ CB wq g10 30 [.slice (some ⟨gi, 0, none⟩) m m, .slice (some ⟨gs, 0, none⟩) (T + 1) (T + 1)]
theorem SX.alloc {g7 gs T : Nat} {wq : World} (h : SX g7 gs T wq) (o : Obj) : SX g7 gs T (wq.alloc o) := by obtain ⟨nx, h⟩ := h; exact ⟨nx, h.alloc o⟩
theorem SX.other {g7 gs T : Nat} {wq : World} {g i : Nat} {v : Value} (h : SX g7 gs T wq) (hne : g ≠ g7) : SX g7 gs T (wq.setCell ⟨g, i, none⟩ v) := by obtain ⟨nx, h⟩ := h; exact ⟨nx, h.other hne⟩
/-- groupBy between its loops: what has been counted. -/
structure G1 (w : World) (g7 gs gn T cap : Nat) (ks : List Nat) (wq : World) : Prop where
  bel : Below w.heap.size w wq
  row : CB wq g7 71 [.slice (some ⟨gs, 0, none⟩) (T + 1) (T + 1), .slice (some ⟨gn, 0, none⟩) T cap]
  st : FB wq gs (T + 1) (fun j => (pre ks j : Int))
  nxt : PB wq gn T (fun j => (pre ks j : Int))
  res : CB wq w.heap.size 30 [.slice none 0 0, .slice none 0 0]
theorem G1.alloc {w : World} {g7 gs gn T cap : Nat} {ks : List Nat} {wq : World} (h : G1 w g7 gs gn T cap ks wq) (o : Obj) : G1 w g7 gs gn T cap ks (wq.alloc o) :=
  ⟨h.bel.alloc h.bel.size _, h.row.alloc _, CB.alloc h.st _, h.nxt.alloc _, h.res.alloc _⟩
theorem G1.store {w : World} {g7 gs gn T cap : Nat} {ks : List Nat} {wq : World} (h : G1 w g7 gs gn T cap ks wq) {g10 gi : Nat} (hl : CB wq g10 30 [.slice none 0 0, .slice none 0 0]) (hi : FB wq gi ks.length (fun _ => 0)) (hg : w.heap.size < g10) :
    G2 w g7 gs gn gi g10 T cap ks (fun j => (pre ks j : Int)) (fun _ => 0) ((wq.setCell ⟨g10, 0, none⟩ (.slice (some ⟨gi, 0, none⟩) ks.length ks.length)).setCell ⟨g10, 1, none⟩ (.slice (some ⟨gs, 0, none⟩) (T + 1) (T + 1))) := by
  have n1 : g10 ≠ g7 := CB.apart hl h.row (by decide)
  have n2 : g10 ≠ gs := CB.apart hl h.st (by decide)
  have n3 : g10 ≠ gn := by obtain ⟨c, h1, _⟩ := h.nxt; exact CB.apart hl h1 (by decide)
  have n4 : g10 ≠ gi := CB.apart hl hi (by decide)
  have n5 : g10 ≠ w.heap.size := by omega
  exact ⟨(h.bel.setCell (Nat.le_of_lt hg) _).setCell (Nat.le_of_lt hg) _, (h.row.other n1).other n1, CB.other (CB.other h.st n2) n2, (h.nxt.other n3).other n3, (h.res.other n5).other n5, CB.other (CB.other hi n4) n4, (hl.set (i := 0)).set (i := 1)⟩

set_option maxHeartbeats 2000000 in
set_option maxRecDepth 20000 in
theorem group9 (T : Nat) (hT : 1 ≤ T ∧ T ≤ 16) (ks vs : List Nat) (hk : ∀ k ∈ ks, k < T) (hv : vs.length = ks.length) (hl : ks.length ≤ 77100) (ka va : Option Addr) (kc vc : Nat) (w : World) (hK : IA w ka (ks.map (fun k : Nat => (k : Int)))) (hV : IA w va (vs.map (fun k : Nat => (k : Int)))) :
    Calls Ybaz.prog 9 #[.int .i64 T, .slice ka ks.length kc, .slice va ks.length vc] w fun e w' => ∃ gi gs F, e = .returned (.agg #[.slice (some ⟨gi, 0, none⟩) ks.length ks.length, .slice (some ⟨gs, 0, none⟩) (T + 1) (T + 1)]) ∧ FB w' gs (T + 1) (fun j => (pre ks j : Int)) ∧ FB w' gi ks.length F ∧ (∀ (i v : Nat), vs[i]? = some v → F (pos ks i) = (v : Int)) ∧ w.heap.size ≤ gi ∧ w.heap.size ≤ gs ∧ Below w.heap.size w w' := by
  obtain ⟨T1, T2⟩ := hT
  have HK : Hid (IA w ka (ks.map (fun k : Nat => (k : Int)))) := hK
  have HV : Hid (IA w va (vs.map (fun k : Nat => (k : Int)))) := hV
  clear hK hV
  obtain ⟨w1, hw1⟩ : ∃ w1, w1 = w.alloc (.cells #[.slice none 0 0, .slice none 0 0] 30) := ⟨_, rfl⟩
  have HW1 : Hid _ := hw1
  have R1 : Hid (CB w1 w.heap.size 30 [.slice none 0 0, .slice none 0 0]) := by rw [hw1]; exact CB.new w
  have B1 : Hid (Below w.heap.size w w1) := by rw [hw1]; exact step_alloc _ _
  clear hw1
  go_enter Ybaz.func9, Ybaz.ntmps9
  go_upto_region 1 with fail
  rw [← HW1.out]
  clear HW1
  go_wp2_with fail
  refine (newG16 T ⟨T1, T2⟩ w1).mono ?_
  rintro e w2 ⟨gs, rfl, hF2, hgs, hB2⟩
  have B2 : Hid (Below w.heap.size w w2) := B1.out.trans (hB2.mono B1.out.size)
  have R2 : Hid (CB w2 w.heap.size 30 [.slice none 0 0, .slice none 0 0]) := R1.out.below hB2 R1.out.lt
  have F2 : Hid (FB w2 gs (T + 1) (fun _ => 0)) := hF2
  have hgs2 : w.heap.size ≤ gs := Nat.le_trans B1.out.size hgs
  clear hF2 hgs hB2 R1 B1
  obtain ⟨w3, hw3⟩ : ∃ w3, w3 = w2.alloc (.cells #[.slice (some ⟨gs, 0, none⟩) (T + 1) (T + 1), .slice none 0 0] 71) := ⟨_, rfl⟩
  obtain ⟨g7, hg7⟩ : ∃ g, g = w2.heap.size := ⟨_, rfl⟩
  have HW3 : Hid _ := hw3
  have HG7 : Hid _ := hg7
  have h7 : w.heap.size ≤ g7 := by rw [hg7]; exact B2.out.size
  have h67 : w.heap.size ≠ g7 := by have := R2.out.lt; omega
  have S3 : Hid (GS w.heap.size w g7 gs T (.slice none 0 0) (cf (ks.take 0) 0) w3) := by
    rw [hw3, hg7]
    refine ⟨B2.out.alloc B2.out.size _, CB.new w2, FB.congr (CB.alloc F2.out _) fun j _ => ?_, fun k hk _ _ => (B2.out.alloc B2.out.size _).block k hk⟩
    unfold cf; split <;> simp [pre]
  have R3 : Hid (CB w3 w.heap.size 30 [.slice none 0 0, .slice none 0 0]) := by rw [hw3]; exact R2.out.alloc _
  clear hw3 hg7
  go_wp2_with fail
  rw [← HW3.out, ← HG7.out]
  clear HW3 HG7 F2 R2 B2
  go_loopw [9, 17] (fun v9 v17 wq => ∃ p : Nat, p ≤ ks.length ∧ v17 = .int .i64 p ∧ GS w.heap.size w g7 gs T (.slice none 0 0) (cf (ks.take p) 0) wq ∧ CB wq w.heap.size 30 [.slice none 0 0, .slice none 0 0]) (fun _ v17 _ => ks.length - (intOf v17).toNat)
  case atStart => exact ⟨0, by omega, rfl, S3.out, R3.out⟩
  case round =>
    obtain ⟨p, hp, rfl, hS, hR⟩ := hrel
    have S4 : Hid (GS w.heap.size w g7 gs T (.slice none 0 0) (cf (ks.take p) 0) wr) := hS
    have R4 : Hid (CB wr w.heap.size 30 [.slice none 0 0, .slice none 0 0]) := hR
    clear hS hR
    by_cases hil : p < ks.length
    · have hil' : (p : Int) < (ks.length : Int) := by omega
      obtain ⟨k, hk1⟩ : ∃ k, ks[p]? = some k := ⟨ks[p], List.getElem?_eq_getElem hil⟩
      have hkT : k < T := hk k (List.mem_of_getElem? hk1)
      obtain ⟨g, o, rfl, hg, hc⟩ := (HK.out.below S4.out.bel) p (k : Int) (by rw [List.getElem?_map, hk1]; rfl)
      have HK1 : Hid _ := hk1
      clear hk1 hg
      go_wp2_with fail
      refine (count17 g7 gs (T + 1) k (.slice none 0 0) (cf (ks.take p) 0) wr S4.out.row S4.out.st (by omega) (by omega) ⟨(cf_le _ _ _).1, Int.le_trans (cf_le _ _ _).2 (by rw [List.length_take]; omega)⟩).mono ?_
      rintro e w5 ⟨rfl, hw5⟩
      have hne : gs ≠ g7 := CB.apart S4.out.st S4.out.row (by decide)
      have h6s : gs ≠ w.heap.size := CB.apart S4.out.st R4.out (by decide)
      have S5 : Hid (GS w.heap.size w g7 gs T (.slice none 0 0) (cf (ks.take (p + 1)) 0) w5) := by
        rw [hw5]
        exact ⟨S4.out.bel.setCell hgs2 _, S4.out.row.other hne, (S4.out.st.set (k + 1) _).congr fun j _ => c0f HK1.out j, fun k hk _ _ => (S4.out.bel.setCell hgs2 _).block k hk⟩
      have R5 : Hid (CB w5 w.heap.size 30 [.slice none 0 0, .slice none 0 0]) := by rw [hw5]; exact R4.out.other h6s
      clear hw5
      go_wp2_with fail
      go_roundw
      case rel => exact ⟨p + 1, by omega, by simp, S5.out, R5.out⟩
      case measure => simp [intOf]; omega
    · obtain rfl : p = ks.length := by omega
      have S5 : Hid (GS w.heap.size w g7 gs T (.slice none 0 0) (cf ks 0) wr) := by have := S4.out; rw [List.take_length] at this; exact this
      clear S4 hil
      go_upto_region 7 with fail
      go_cut [10] from 24 to 28 (fun s10 wx => ∃ gn gi g10 cap, s10 = .pointer (some ⟨g10, 0, none⟩) ∧ G2 w g7 gs gn gi g10 T cap ks (fun j => (pre ks j : Int)) (fun _ => 0) wx ∧ w.heap.size ≤ gn ∧ w.heap.size ≤ gi ∧ w.heap.size < g10 ∧ gi ≠ gs ∧ gi ≠ gn ∧ gn ≠ gs)
      case first =>
        have S5d : Hid (GS w.heap.size w g7 gs T (.slice none 0 0) (cf ks 0) wr.drew) := ⟨S5.out.bel.drew, S5.out.row, S5.out.st, S5.out.keep⟩
        have R4d : Hid (CB wr.drew w.heap.size 30 [.slice none 0 0, .slice none 0 0]) := R4.out
        have h6s : w.heap.size ≠ gs := CB.apart R4.out S5.out.st (by decide)
        have SA : Hid (SX g7 gs T wr.drew) := ⟨_, S5d.out.row⟩
        refine wp_region_noPanic ?_
        refine wp_region_held_drew (S := SX g7 gs T) (by kernel_rfl) SA.out (fun _ => ?_)
        refine wpAnyH_take (i := 2) (oi := { dst := some 26, op := _, type := _, pos := _, after := _, guard := _ }) (v := .pointer (some ⟨g7, 0, none⟩)) rfl (by kernel_rfl) (by kernel_rfl) (by kernel_rfl) (fun _ _ _ h => h) (Or.inl ⟨by rfl, fun W hW => by clear hW; go_simp⟩) SA.out ?_
        simp only [Act.put, List.setIfInBounds_toArray, List.set_cons_zero, List.set_cons_succ]
        refine wpAnyH_take (i := 3) (oi := { dst := some 27, op := _, type := _, pos := _, after := _, guard := _ }) (v := .slice (some ⟨gs, 0, none⟩) (T + 1) (T + 1)) rfl (by kernel_rfl) (by kernel_rfl) (by kernel_rfl) (fun _ _ _ h => h) (Or.inl ⟨by rfl, fun W hW => by obtain ⟨nx, hR⟩ := hW; have hd := hR.cell (i := 0) rfl; clear hR; go_simp⟩) SA.out ?_
        simp only [Act.put, List.setIfInBounds_toArray, List.set_cons_zero, List.set_cons_succ]
        refine wpAnyH_ready (rs := [0, 5]) (by kernel_rfl) (by simp) ?_
        refine AllReadyH.cons rfl (fun K hK => ?_) (AllReadyH.cons rfl (fun K hK => ?_) AllReadyH.nil)
        · rw [if_pos (by rfl)]
          go_simp
          refine (counted18 w.heap.size g7 gs T ⟨T1, T2⟩ ks hk hl wr.drew S5d.out.bel.size h7 hgs2 S5d.out.row S5d.out.st).mono ?_
          rintro e w6 ⟨rfl, gn, cap, hG6, hP6, hgn⟩
          have Q6 : Hid (G1 w g7 gs gn T cap ks w6) := ⟨S5d.out.bel.trans hG6.bel, hG6.row, hG6.st, hP6, by unfold CB; rw [hG6.keep _ R4d.out.lt h67 h6s]; exact R4d.out⟩
          have HGN : Hid (wr.drew.heap.size ≤ gn) := hgn
          have SB : Hid (SX g7 gs T w6) := ⟨_, Q6.out.row⟩
          clear hG6 hP6 hgn
          refine hK.out _ _ SB.out (fun _ => ?_)
          clear hK K
          refine wpAnyH_ready (rs := [1, 5]) (by kernel_rfl) (by simp) ?_
          refine AllReadyH.cons rfl (fun K hK => ?_) (AllReadyH.cons rfl (fun K hK => ?_) AllReadyH.nil)
          · refine step_make28 rfl (.tmp 24) (.tmp 24) rfl ks.length (by omega) rfl rfl ?_
            simp only [Act.put, List.setIfInBounds_toArray, List.set_cons_zero, List.set_cons_succ]
            have Q7 : Hid (G1 w g7 gs gn T cap ks (w6.alloc (.cells (fcells ks.length (fun _ => 0)).toArray 3))) := Q6.out.alloc _
            have IQ7 : Hid (FB (w6.alloc (.cells (fcells ks.length (fun _ => 0)).toArray 3)) w6.heap.size ks.length (fun _ => 0)) := CB.new w6
            have SBQ7 : Hid (SX g7 gs T (w6.alloc (.cells (fcells ks.length (fun _ => 0)).toArray 3))) := ⟨_, Q7.out.row⟩
            refine hK.out _ _ SBQ7.out (fun _ => ?_)
            clear hK K
            refine wpAnyH_take (i := 4) (oi := { dst := some 28, op := _, type := _, pos := _, after := _, guard := _ }) (v := .agg #[.slice (some ⟨w6.heap.size, 0, none⟩) ks.length ks.length, .slice (some ⟨gs, 0, none⟩) (T + 1) (T + 1)]) rfl (by kernel_rfl) (by kernel_rfl) (by kernel_rfl) (fun _ _ _ h => h) (Or.inl ⟨by rfl, fun W hW => by clear hW; go_simp⟩) SBQ7.out ?_
            simp only [Act.put, List.setIfInBounds_toArray, List.set_cons_zero, List.set_cons_succ]
            refine wpAnyH_ready (rs := [5]) (by kernel_rfl) (by simp) ?_
            refine AllReadyH.cons rfl (fun K hK => ?_) AllReadyH.nil
            rw [if_pos (by rfl)]
            go_simp
            have Q8 : Hid (G1 w g7 gs gn T cap ks ((w6.alloc (.cells (fcells ks.length (fun _ => 0)).toArray 3)).alloc (.cells #[.slice none 0 0, .slice none 0 0] 30))) := Q7.out.alloc _
            have I8 : Hid (FB ((w6.alloc (.cells (fcells ks.length (fun _ => 0)).toArray 3)).alloc (.cells #[.slice none 0 0, .slice none 0 0] 30)) w6.heap.size ks.length (fun _ => 0)) := CB.alloc IQ7.out _
            have L8 : Hid (CB ((w6.alloc (.cells (fcells ks.length (fun _ => 0)).toArray 3)).alloc (.cells #[.slice none 0 0, .slice none 0 0] 30)) (w6.heap.size + 1) 30 [.slice none 0 0, .slice none 0 0]) := by
              show CB _ (w6.heap.size + 1) 30 _
              have := CB.new (cs := [.slice none 0 0, .slice none 0 0]) (t := 30) (w6.alloc (.cells (fcells ks.length (fun _ => 0)).toArray 3))
              simpa using this
            have SB8 : Hid (SX g7 gs T ((w6.alloc (.cells (fcells ks.length (fun _ => 0)).toArray 3)).alloc (.cells #[.slice none 0 0, .slice none 0 0] 30))) := ⟨_, Q8.out.row⟩
            refine hK.out _ _ SB8.out (fun _ => ?_)
            clear hK K
            generalize ((w6.alloc (.cells (fcells ks.length (fun _ => 0)).toArray 3)).alloc (.cells #[.slice none 0 0, .slice none 0 0] 30)) = wz at Q8 L8 I8 ⊢
            refine wpAnyH_ready (rs := [6]) (by kernel_rfl) (by simp) ?_
            refine AllReadyH.cons rfl (fun K hK => ?_) AllReadyH.nil
            have k0 := L8.out.cell (i := 0) rfl
            have k1 := L8.out.cell (i := 1) rfl
            have q0 := L8.out.froz (i := 0)
            have q1 := L8.out.froz (i := 1)
            rw [if_pos (by rfl)]
            go_simp
            have QZ := Q8.out.store L8.out I8.out (by have := Q6.out.res.lt; omega)
            have HQZ : Hid _ := QZ
            have SZ : Hid (SX g7 gs T _) := ⟨_, QZ.row⟩
            clear QZ k0 k1 q0 q1
            refine hK.out _ _ SZ.out (fun _ => ?_)
            clear hK K
            refine wpAnyH_done (by kernel_rfl) ?_ _
            refine NoPanic.normal ?_
            go_wp2_with fail
            go_meet
            case rel => exact ⟨gn, w6.heap.size, w6.heap.size + 1, cap, rfl, HQZ.out, by have := HGN.out; have := Q6.out.bel.size; have := Q6.out.nxt.lt; have := Q6.out.st.lt; have := Q6.out.res.lt; have := S5.out.bel.size; have := S5.out.st.lt; have hd := size_drew wr; omega, by have := HGN.out; have := Q6.out.bel.size; have := Q6.out.nxt.lt; have := Q6.out.st.lt; have := Q6.out.res.lt; have := S5.out.bel.size; have := S5.out.st.lt; have hd := size_drew wr; omega, by have := HGN.out; have := Q6.out.bel.size; have := Q6.out.nxt.lt; have := Q6.out.st.lt; have := Q6.out.res.lt; have := S5.out.bel.size; have := S5.out.st.lt; have hd := size_drew wr; omega, by have := HGN.out; have := Q6.out.bel.size; have := Q6.out.nxt.lt; have := Q6.out.st.lt; have := Q6.out.res.lt; have := S5.out.bel.size; have := S5.out.st.lt; have hd := size_drew wr; omega, by have := HGN.out; have := Q6.out.bel.size; have := Q6.out.nxt.lt; have := Q6.out.st.lt; have := Q6.out.res.lt; have := S5.out.bel.size; have := S5.out.st.lt; have hd := size_drew wr; omega, by have := HGN.out; have := Q6.out.bel.size; have := Q6.out.nxt.lt; have := Q6.out.st.lt; have := Q6.out.res.lt; have := S5.out.bel.size; have := S5.out.st.lt; have hd := size_drew wr; omega⟩
          · rw [if_pos (by rfl)]
            go_simp
            have Q7 : Hid (G1 w g7 gs gn T cap ks (w6.alloc (.cells #[.slice none 0 0, .slice none 0 0] 30))) := Q6.out.alloc _
            have L7 : Hid (CB (w6.alloc (.cells #[.slice none 0 0, .slice none 0 0] 30)) w6.heap.size 30 [.slice none 0 0, .slice none 0 0]) := CB.new w6
            have SB7 : Hid (SX g7 gs T (w6.alloc (.cells #[.slice none 0 0, .slice none 0 0] 30))) := ⟨_, Q7.out.row⟩
            refine hK.out _ _ SB7.out (fun _ => ?_)
            clear hK K
            refine wpAnyH_ready (rs := [1]) (by kernel_rfl) (by simp) ?_
            refine AllReadyH.cons rfl (fun K hK => ?_) AllReadyH.nil
            refine step_make28 rfl (.tmp 24) (.tmp 24) rfl ks.length (by omega) rfl rfl ?_
            simp only [Act.put, List.setIfInBounds_toArray, List.set_cons_zero, List.set_cons_succ]
            have Q8 : Hid (G1 w g7 gs gn T cap ks ((w6.alloc (.cells #[.slice none 0 0, .slice none 0 0] 30)).alloc (.cells (fcells ks.length (fun _ => 0)).toArray 3))) := Q7.out.alloc _
            have IQ8 : Hid (FB ((w6.alloc (.cells #[.slice none 0 0, .slice none 0 0] 30)).alloc (.cells (fcells ks.length (fun _ => 0)).toArray 3)) (w6.heap.size + 1) ks.length (fun _ => 0)) := by
              show CB _ (w6.heap.size + 1) 3 _
              have := CB.new (cs := fcells ks.length (fun _ => 0)) (t := 3) (w6.alloc (.cells #[.slice none 0 0, .slice none 0 0] 30))
              simpa using this
            have SBQ8 : Hid (SX g7 gs T ((w6.alloc (.cells #[.slice none 0 0, .slice none 0 0] 30)).alloc (.cells (fcells ks.length (fun _ => 0)).toArray 3))) := ⟨_, Q8.out.row⟩
            have L8 : Hid (CB _ w6.heap.size 30 [.slice none 0 0, .slice none 0 0]) := L7.out.alloc (.cells (fcells ks.length (fun _ => 0)).toArray 3)
            refine hK.out _ _ SBQ8.out (fun _ => ?_)
            clear hK K
            refine wpAnyH_take (i := 4) (oi := { dst := some 28, op := _, type := _, pos := _, after := _, guard := _ }) (v := .agg #[.slice (some ⟨w6.heap.size + 1, 0, none⟩) ks.length ks.length, .slice (some ⟨gs, 0, none⟩) (T + 1) (T + 1)]) rfl (by kernel_rfl) (by kernel_rfl) (by kernel_rfl) (fun _ _ _ h => h) (Or.inl ⟨by rfl, fun W hW => by clear hW; go_simp⟩) SBQ8.out ?_
            simp only [Act.put, List.setIfInBounds_toArray, List.set_cons_zero, List.set_cons_succ]
            generalize ((w6.alloc (.cells #[.slice none 0 0, .slice none 0 0] 30)).alloc (.cells (fcells ks.length (fun _ => 0)).toArray 3)) = wz at Q8 L8 IQ8 ⊢
            refine wpAnyH_ready (rs := [6]) (by kernel_rfl) (by simp) ?_
            refine AllReadyH.cons rfl (fun K hK => ?_) AllReadyH.nil
            have k0 := L8.out.cell (i := 0) rfl
            have k1 := L8.out.cell (i := 1) rfl
            have q0 := L8.out.froz (i := 0)
            have q1 := L8.out.froz (i := 1)
            rw [if_pos (by rfl)]
            go_simp
            have QZ := Q8.out.store L8.out IQ8.out (by have := Q6.out.res.lt; omega)
            have HQZ : Hid _ := QZ
            have SZ : Hid (SX g7 gs T _) := ⟨_, QZ.row⟩
            clear QZ k0 k1 q0 q1
            refine hK.out _ _ SZ.out (fun _ => ?_)
            clear hK K
            refine wpAnyH_done (by kernel_rfl) ?_ _
            refine NoPanic.normal ?_
            go_wp2_with fail
            go_meet
            case rel => exact ⟨gn, w6.heap.size + 1, w6.heap.size, cap, rfl, HQZ.out, by have := HGN.out; have := Q6.out.bel.size; have := Q6.out.nxt.lt; have := Q6.out.st.lt; have := Q6.out.res.lt; have := S5.out.bel.size; have := S5.out.st.lt; have hd := size_drew wr; omega, by have := HGN.out; have := Q6.out.bel.size; have := Q6.out.nxt.lt; have := Q6.out.st.lt; have := Q6.out.res.lt; have := S5.out.bel.size; have := S5.out.st.lt; have hd := size_drew wr; omega, by have := HGN.out; have := Q6.out.bel.size; have := Q6.out.nxt.lt; have := Q6.out.st.lt; have := Q6.out.res.lt; have := S5.out.bel.size; have := S5.out.st.lt; have hd := size_drew wr; omega, by have := HGN.out; have := Q6.out.bel.size; have := Q6.out.nxt.lt; have := Q6.out.st.lt; have := Q6.out.res.lt; have := S5.out.bel.size; have := S5.out.st.lt; have hd := size_drew wr; omega, by have := HGN.out; have := Q6.out.bel.size; have := Q6.out.nxt.lt; have := Q6.out.st.lt; have := Q6.out.res.lt; have := S5.out.bel.size; have := S5.out.st.lt; have hd := size_drew wr; omega, by have := HGN.out; have := Q6.out.bel.size; have := Q6.out.nxt.lt; have := Q6.out.st.lt; have := Q6.out.res.lt; have := S5.out.bel.size; have := S5.out.st.lt; have hd := size_drew wr; omega⟩
        · rw [if_pos (by rfl)]
          go_simp
          have SC : Hid (GS w.heap.size w g7 gs T (.slice none 0 0) (cf ks 0) (wr.drew.alloc (.cells #[.slice none 0 0, .slice none 0 0] 30))) := ⟨S5d.out.bel.alloc S5d.out.bel.size _, S5d.out.row.alloc _, CB.alloc S5d.out.st _, fun k hk _ _ => (S5d.out.bel.alloc S5d.out.bel.size _).block k hk⟩
          have RC : Hid (CB (wr.drew.alloc (.cells #[.slice none 0 0, .slice none 0 0] 30)) w.heap.size 30 [.slice none 0 0, .slice none 0 0]) := R4d.out.alloc _
          have L5 : Hid (CB (wr.drew.alloc (.cells #[.slice none 0 0, .slice none 0 0] 30)) wr.heap.size 30 [.slice none 0 0, .slice none 0 0]) := CB.new wr.drew
          have n10a : wr.heap.size ≠ g7 := Nat.ne_of_gt S5d.out.row.lt
          have n10b : wr.heap.size ≠ gs := Nat.ne_of_gt (CB.lt S5d.out.st)
          have SBC : Hid (SX g7 gs T (wr.drew.alloc (.cells #[.slice none 0 0, .slice none 0 0] 30))) := ⟨_, SC.out.row⟩
          refine hK.out _ _ SBC.out (fun _ => ?_)
          clear hK K
          refine wpAnyH_ready (rs := [0]) (by kernel_rfl) (by simp) ?_
          refine AllReadyH.cons rfl (fun K hK => ?_) AllReadyH.nil
          rw [if_pos (by rfl)]
          go_simp
          refine (counted18 w.heap.size g7 gs T ⟨T1, T2⟩ ks hk hl (wr.drew.alloc (.cells #[.slice none 0 0, .slice none 0 0] 30)) SC.out.bel.size h7 hgs2 SC.out.row SC.out.st).mono ?_
          rintro e w6 ⟨rfl, gn, cap, hG6, hP6, hgn⟩
          have Q6 : Hid (G1 w g7 gs gn T cap ks w6) := ⟨SC.out.bel.trans hG6.bel, hG6.row, hG6.st, hP6, by unfold CB; rw [hG6.keep _ RC.out.lt h67 h6s]; exact RC.out⟩
          have HGN : Hid ((wr.drew.alloc (.cells #[.slice none 0 0, .slice none 0 0] 30)).heap.size ≤ gn) := hgn
          have L6 : Hid (CB w6 wr.heap.size 30 [.slice none 0 0, .slice none 0 0]) := by unfold CB; rw [hG6.keep _ L5.out.lt n10a n10b]; exact L5.out
          have SB : Hid (SX g7 gs T w6) := ⟨_, Q6.out.row⟩
          clear hG6 hP6 hgn
          refine hK.out _ _ SB.out (fun _ => ?_)
          clear hK K
          refine wpAnyH_ready (rs := [1]) (by kernel_rfl) (by simp) ?_
          refine AllReadyH.cons rfl (fun K hK => ?_) AllReadyH.nil
          refine step_make28 rfl (.tmp 24) (.tmp 24) rfl ks.length (by omega) rfl rfl ?_
          simp only [Act.put, List.setIfInBounds_toArray, List.set_cons_zero, List.set_cons_succ]
          have Q7 : Hid (G1 w g7 gs gn T cap ks (w6.alloc (.cells (fcells ks.length (fun _ => 0)).toArray 3))) := Q6.out.alloc _
          have IQ7 : Hid (FB (w6.alloc (.cells (fcells ks.length (fun _ => 0)).toArray 3)) w6.heap.size ks.length (fun _ => 0)) := CB.new w6
          have SBQ7 : Hid (SX g7 gs T (w6.alloc (.cells (fcells ks.length (fun _ => 0)).toArray 3))) := ⟨_, Q7.out.row⟩
          have L8 : Hid (CB _ wr.heap.size 30 [.slice none 0 0, .slice none 0 0]) := L6.out.alloc (.cells (fcells ks.length (fun _ => 0)).toArray 3)
          refine hK.out _ _ SBQ7.out (fun _ => ?_)
          clear hK K
          refine wpAnyH_take (i := 4) (oi := { dst := some 28, op := _, type := _, pos := _, after := _, guard := _ }) (v := .agg #[.slice (some ⟨w6.heap.size, 0, none⟩) ks.length ks.length, .slice (some ⟨gs, 0, none⟩) (T + 1) (T + 1)]) rfl (by kernel_rfl) (by kernel_rfl) (by kernel_rfl) (fun _ _ _ h => h) (Or.inl ⟨by rfl, fun W hW => by clear hW; go_simp⟩) SBQ7.out ?_
          simp only [Act.put, List.setIfInBounds_toArray, List.set_cons_zero, List.set_cons_succ]
          generalize (w6.alloc (.cells (fcells ks.length (fun _ => 0)).toArray 3)) = wz at Q7 L8 IQ7 ⊢
          refine wpAnyH_ready (rs := [6]) (by kernel_rfl) (by simp) ?_
          refine AllReadyH.cons rfl (fun K hK => ?_) AllReadyH.nil
          have k0 := L8.out.cell (i := 0) rfl
          have k1 := L8.out.cell (i := 1) rfl
          have q0 := L8.out.froz (i := 0)
          have q1 := L8.out.froz (i := 1)
          rw [if_pos (by rfl)]
          go_simp
          have QZ := Q7.out.store L8.out IQ7.out (by have := R4d.out.lt; have hd := size_drew wr; omega)
          have HQZ : Hid _ := QZ
          have SZ : Hid (SX g7 gs T _) := ⟨_, QZ.row⟩
          clear QZ k0 k1 q0 q1
          refine hK.out _ _ SZ.out (fun _ => ?_)
          clear hK K
          refine wpAnyH_done (by kernel_rfl) ?_ _
          refine NoPanic.normal ?_
          go_wp2_with fail
          go_meet
          case rel => exact ⟨gn, w6.heap.size, wr.heap.size, cap, rfl, HQZ.out, by have := HGN.out; have hx := size_drew_alloc wr (.cells #[.slice none 0 0, .slice none 0 0] 30); have := Q6.out.bel.size; have := Q6.out.nxt.lt; have := Q6.out.st.lt; have := Q6.out.res.lt; have := S5.out.bel.size; have := S5.out.st.lt; have hd := size_drew wr; have := R4d.out.lt; omega, by have := HGN.out; have hx := size_drew_alloc wr (.cells #[.slice none 0 0, .slice none 0 0] 30); have := Q6.out.bel.size; have := Q6.out.nxt.lt; have := Q6.out.st.lt; have := Q6.out.res.lt; have := S5.out.bel.size; have := S5.out.st.lt; have hd := size_drew wr; have := R4d.out.lt; omega, by have := HGN.out; have hx := size_drew_alloc wr (.cells #[.slice none 0 0, .slice none 0 0] 30); have := Q6.out.bel.size; have := Q6.out.nxt.lt; have := Q6.out.st.lt; have := Q6.out.res.lt; have := S5.out.bel.size; have := S5.out.st.lt; have hd := size_drew wr; have := R4d.out.lt; omega, by have := HGN.out; have hx := size_drew_alloc wr (.cells #[.slice none 0 0, .slice none 0 0] 30); have := Q6.out.bel.size; have := Q6.out.nxt.lt; have := Q6.out.st.lt; have := Q6.out.res.lt; have := S5.out.bel.size; have := S5.out.st.lt; have hd := size_drew wr; have := R4d.out.lt; omega, by have := HGN.out; have hx := size_drew_alloc wr (.cells #[.slice none 0 0, .slice none 0 0] 30); have := Q6.out.bel.size; have := Q6.out.nxt.lt; have := Q6.out.st.lt; have := Q6.out.res.lt; have := S5.out.bel.size; have := S5.out.st.lt; have hd := size_drew wr; have := R4d.out.lt; omega, by have := HGN.out; have hx := size_drew_alloc wr (.cells #[.slice none 0 0, .slice none 0 0] 30); have := Q6.out.bel.size; have := Q6.out.nxt.lt; have := Q6.out.st.lt; have := Q6.out.res.lt; have := S5.out.bel.size; have := S5.out.st.lt; have hd := size_drew wr; have := R4d.out.lt; omega⟩
      case rest =>
        obtain ⟨gn, gi, g10, cap, rfl, hG, n1, n2, n3, n4, n5, n6⟩ := hcut
        have Q0 : Hid (G2 w g7 gs gn gi g10 T cap ks (fun j => (pre ks j : Int)) (fun _ => 0) wc) := hG
        clear hG S5 S3 R3 R4
        go_wp2_with fail
        go_loopw [11, 12, 31] (fun v11 v12 v31 wq => ∃ (p : Nat) (F : Nat → Int), p ≤ ks.length ∧ v31 = .int .i64 p ∧ G2 w g7 gs gn gi g10 T cap ks (nf ks p) F wq ∧ ∀ (i v : Nat), i < p → vs[i]? = some v → F (pos ks i) = (v : Int)) (fun _ _ v31 _ => ks.length - (intOf v31).toNat)
        case atStart => exact ⟨0, _, by omega, rfl, ⟨Q0.out.bel, Q0.out.row, Q0.out.st, Q0.out.nxt.congr fun j _ => (nf_zero ks j).symm, Q0.out.res, Q0.out.its, Q0.out.l⟩, fun i v hi => by omega⟩
        case round =>
          obtain ⟨p, F, hp, rfl, hG, hF⟩ := hrel
          have Q1 : Hid (G2 w g7 gs gn gi g10 T cap ks (nf ks p) F wr) := hG
          have HF : Hid _ := hF
          clear hG hF Q0
          by_cases hil : p < ks.length
          · have hil' : (p : Int) < (ks.length : Int) := by omega
            obtain ⟨k, hk1⟩ : ∃ k, ks[p]? = some k := ⟨ks[p], List.getElem?_eq_getElem hil⟩
            have hkT : k < T := hk k (List.mem_of_getElem? hk1)
            have HK1 : Hid (ks[p]? = some k) := hk1
            obtain ⟨v, hv1⟩ : ∃ v, vs[p]? = some v := ⟨vs[p]'(by omega), List.getElem?_eq_getElem _⟩
            have HV1 : Hid (vs[p]? = some v) := hv1
            obtain ⟨g, o, rfl, hg, hc⟩ := (HK.out.below Q1.out.bel) p (k : Int) (by rw [List.getElem?_map, hk1]; rfl)
            obtain ⟨g', o', rfl, hg', hc'⟩ := HV.out p (v : Int) (by rw [List.getElem?_map, hv1]; rfl)
            have HGV : Hid _ := hg'
            have HCV : Hid _ := hc'
            have hps : pos ks p < ks.length := pos_len hil
            have hps' : ((pos ks p : Nat) : Int) < (ks.length : Int) := by omega
            clear hk1 hv1 hg hg' hc'
            go_upto_region 11 with fail
            have SA : Hid (SY w g10 gi gs T ks.length wr.drew) := ⟨Q1.out.bel.drew, Q1.out.l⟩
            refine wp_region_noPanic ?_
            refine wp_region_held_drew (S := SY w g10 gi gs T ks.length) (by kernel_rfl) SA.out (fun _ => ?_)
            refine wpAnyH_take (i := 0) (oi := { dst := some 36, op := _, type := _, pos := _, after := _, guard := _ }) (v := .pointer (some ⟨g10, 0, none⟩)) rfl (by kernel_rfl) (by kernel_rfl) (by kernel_rfl) (fun _ _ _ h => h) (Or.inl ⟨by rfl, fun W hW => by clear hW; go_simp⟩) SA.out ?_
            simp only [Act.put, List.setIfInBounds_toArray, List.set_cons_zero, List.set_cons_succ]
            refine wpAnyH_take (i := 1) (oi := { dst := some 37, op := _, type := _, pos := _, after := _, guard := _ }) (v := .slice (some ⟨gi, 0, none⟩) ks.length ks.length) rfl (by kernel_rfl) (by kernel_rfl) (by kernel_rfl) (fun _ _ _ h => h) (Or.inl ⟨by rfl, fun W hW => by have hd := hW.2.cell (i := 0) rfl; clear hW; go_simp⟩) SA.out ?_
            simp only [Act.put, List.setIfInBounds_toArray, List.set_cons_zero, List.set_cons_succ]
            refine wpAnyH_take (i := 2) (oi := { dst := some 38, op := _, type := _, pos := _, after := _, guard := _ }) (v := .int .i64 (k : Int)) rfl (by kernel_rfl) (by kernel_rfl) (by kernel_rfl) (fun _ _ _ h => h) (Or.inl ⟨by rfl, fun W hW => by clear hW; go_simp⟩) SA.out ?_
            simp only [Act.put, List.setIfInBounds_toArray, List.set_cons_zero, List.set_cons_succ]
            refine wpAnyH_take (i := 4) (oi := { dst := some 40, op := _, type := _, pos := _, after := _, guard := _ }) (v := .slice (some ⟨g', o', none⟩) ks.length vc) rfl (by kernel_rfl) (by kernel_rfl) (by kernel_rfl) (fun _ _ _ h => h) (Or.inl ⟨by rfl, fun W hW => by clear hW; go_simp⟩) SA.out ?_
            simp only [Act.put, List.setIfInBounds_toArray, List.set_cons_zero, List.set_cons_succ]
            refine wpAnyH_take (i := 5) (oi := { dst := some 41, op := _, type := _, pos := _, after := _, guard := _ }) (v := .int .i64 (p : Int)) rfl (by kernel_rfl) (by kernel_rfl) (by kernel_rfl) (fun _ _ _ h => h) (Or.inl ⟨by rfl, fun W hW => by clear hW; go_simp⟩) SA.out ?_
            simp only [Act.put, List.setIfInBounds_toArray, List.set_cons_zero, List.set_cons_succ]
            refine wpAnyH_take (i := 6) (oi := { dst := some 42, op := _, type := _, pos := _, after := _, guard := _ }) (v := .pointer (some ⟨g', o' + p, none⟩)) rfl (by kernel_rfl) (by kernel_rfl) (by kernel_rfl) (fun _ _ _ h => h) (Or.inl ⟨by rfl, fun W hW => by clear hW; go_simp⟩) SA.out ?_
            simp only [Act.put, List.setIfInBounds_toArray, List.set_cons_zero, List.set_cons_succ]
            refine wpAnyH_take (i := 7) (oi := { dst := some 43, op := _, type := _, pos := _, after := _, guard := _ }) (v := .int .i64 (v : Int)) rfl (by kernel_rfl) (by kernel_rfl) (by kernel_rfl) (fun _ _ _ h => h) (Or.inl ⟨by rfl, fun W hW => by have hd : W.cell? ⟨g', o' + p, none⟩ = some (.int .i64 (v : Int)) := (by rw [hW.1.cell HGV.out]; exact HCV.out); clear hW; go_simp⟩) SA.out ?_
            simp only [Act.put, List.setIfInBounds_toArray, List.set_cons_zero, List.set_cons_succ]
            refine wpAnyH_ready (rs := [3]) (by kernel_rfl) (by simp) ?_
            refine AllReadyH.cons rfl (fun K hK => ?_) AllReadyH.nil
            rw [if_pos (by rfl)]
            go_simp
            have e1 : nf ks p k = (pos ks p : Int) := nf_at HK1.out
            refine (place19 g7 gn T k (.slice (some ⟨gs, 0, none⟩) (T + 1) (T + 1)) cap (nf ks p) wr.drew Q1.out.row Q1.out.nxt hkT (by omega) (by rw [e1]; omega)).mono ?_
            rintro e w6 ⟨he, hw6⟩
            rw [e1] at he
            subst he
            have m1 : gn ≠ g7 := by obtain ⟨c, h1, _⟩ := Q1.out.nxt; exact CB.apart h1 Q1.out.row (by decide)
            have m2 : gn ≠ w.heap.size := by obtain ⟨c, h1, _⟩ := Q1.out.nxt; exact CB.apart h1 Q1.out.res (by decide)
            have m3 : gn ≠ g10 := by obtain ⟨c, h1, _⟩ := Q1.out.nxt; exact CB.apart h1 Q1.out.l (by decide)
            have i1 : gi ≠ g7 := CB.apart Q1.out.its Q1.out.row (by decide)
            have i2 : gi ≠ w.heap.size := CB.apart Q1.out.its Q1.out.res (by decide)
            have i3 : gi ≠ g10 := CB.apart Q1.out.its Q1.out.l (by decide)
            have Q2 : Hid (G2 w g7 gs gn gi g10 T cap ks (nf ks (p + 1)) F w6) := by
              rw [hw6]
              exact ⟨(Q1.out.bel.drew).setCell n1 _, CB.other (w := wr.drew) Q1.out.row m1, CB.other (w := wr.drew) Q1.out.st n6, (PB.set (w := wr.drew) Q1.out.nxt k _).congr fun j _ => nf_succ HK1.out j, CB.other (w := wr.drew) Q1.out.res m2, CB.other (w := wr.drew) Q1.out.its (fun e => n5 e.symm), CB.other (w := wr.drew) Q1.out.l m3⟩
            have SB : Hid (SY w g10 gi gs T ks.length w6) := ⟨Q2.out.bel, Q2.out.l⟩
            clear hw6
            refine hK.out _ _ SB.out (fun _ => ?_)
            clear hK K
            refine wpAnyH_take (i := 8) (oi := { dst := some 44, op := _, type := _, pos := _, after := _, guard := _ }) (v := .pointer (some ⟨gi, pos ks p, none⟩)) rfl (by kernel_rfl) (by kernel_rfl) (by kernel_rfl) (fun _ _ _ h => h) (Or.inl ⟨by rfl, fun W hW => by clear hW; go_simp⟩) SB.out ?_
            simp only [Act.put, List.setIfInBounds_toArray, List.set_cons_zero, List.set_cons_succ]
            refine wpAnyH_ready (rs := [9]) (by kernel_rfl) (by simp) ?_
            refine AllReadyH.cons rfl (fun K hK => ?_) AllReadyH.nil
            have k0 : w6.cell? ⟨gi, pos ks p, none⟩ = some (.int .i64 (F (pos ks p))) := Q2.out.its.cell hps
            have q0 : w6.frozen? ⟨gi, pos ks p, none⟩ = false := CB.froz Q2.out.its
            rw [if_pos (by rfl)]
            go_simp
            have Q3 : Hid (G2 w g7 gs gn gi g10 T cap ks (nf ks (p + 1)) (fun j => if j = pos ks p then (v : Int) else F j) (w6.setCell ⟨gi, pos ks p, none⟩ (.int .i64 (v : Int)))) :=
              ⟨Q2.out.bel.setCell n2 _, Q2.out.row.other i1, CB.other Q2.out.st n4, Q2.out.nxt.other n5, Q2.out.res.other i2, Q2.out.its.set _ _, Q2.out.l.other i3⟩
            have SC : Hid (SY w g10 gi gs T ks.length (w6.setCell ⟨gi, pos ks p, none⟩ (.int .i64 (v : Int)))) := ⟨Q3.out.bel, Q3.out.l⟩
            clear k0 q0
            refine hK.out _ _ SC.out (fun _ => ?_)
            clear hK K
            refine wpAnyH_done (by kernel_rfl) ?_ _
            refine NoPanic.normal ?_
            go_wp2_with fail
            go_roundw
            case rel =>
              refine ⟨p + 1, _, by omega, by simp, Q3.out, fun i u hi hu => ?_⟩
              by_cases e : i = p
              · subst e
                rw [HV1.out] at hu
                cases hu
                simp
              · have hip : i < p := by omega
                rw [if_neg (pos_ne hip hil)]
                exact HF.out i u hip hu
            case measure => simp [intOf]; omega
          · obtain rfl : p = ks.length := by omega
            have k0 := Q1.out.l.cell (i := 0) rfl
            have k1 := Q1.out.l.cell (i := 1) rfl
            have r0 := Q1.out.res.cell (i := 0) rfl
            have r1 := Q1.out.res.cell (i := 1) rfl
            have q0 := Q1.out.res.froz (i := 0)
            have q1 := Q1.out.res.froz (i := 1)
            have hx : w.heap.size ≠ g10 := by omega
            go_wp2_with fail
            have j1 : w.heap.size ≠ gs := CB.apart Q1.out.res Q1.out.st (by decide)
            have j2 : w.heap.size ≠ gi := CB.apart Q1.out.res Q1.out.its (by decide)
            refine bodyPost_ret (v := .agg #[.slice (some ⟨gi, 0, none⟩) ks.length ks.length, .slice (some ⟨gs, 0, none⟩) (T + 1) (T + 1)]) (results_cell_row rfl _ _ w.heap.size 30 _ (0, 0) _ rfl ((Q1.out.res.set (i := 0)).set (i := 1)) Ybaz.underlying30 rfl (by kernel_rfl)) rfl ?_
            exact ⟨gi, gs, F, rfl, CB.other (CB.other Q1.out.st j1) j1, CB.other (CB.other Q1.out.its j2) j2, fun i v hi => HF.out i v (by have := (List.getElem?_eq_some_iff.1 hi).1; omega) hi, n2, hgs2, (Q1.out.bel.setCell (Nat.le_refl _) _).setCell (Nat.le_refl _) _⟩
end Go.Proofs.YbulkdfeeGreatDoor
