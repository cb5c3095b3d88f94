import Derived.Test.YbulkdfeeGreatDoorItems
import Derived.Lib.Builder
namespace Go.Proofs.YbulkdfeeGreatDoor
open Go.ChangeShapes Go.WideShapes Go.ChangeAt Go.RowKit
set_option linter.unusedVariables false
set_option linter.unusedSimpArgs false

theorem sz26 : (Ybaz.prog.info? 26).map (·.size) = some 3 := by kernel_rfl
theorem i64w (z : Int) (h : -9223372036854775808 ≤ z ∧ z ≤ 9223372036854775807) : IntKind.i64.wrap z = z := by rw [IntKind.wrap_i64]; omega
def SU (gx : Nat) (c : List Value) (wq : World) : Prop := CB wq gx 26 c
theorem AP_nil (v : Value) : AP v (.slice none 0 0) := fun k _ h => by cases h
theorem neq27 (w : World) (a : Addr) : (binOp .neq 27 (.pointer (some a)) (.pointer (some a))).run Ybaz.prog w = .ok (.bool false) w := by
  have h : (Ybaz.prog.info? 33).isSome = true := by kernel_rfl
  obtain ⟨j, hj⟩ := Option.isSome_iff_exists.1 h
  exact Go.Lib.run_neq_ptr_same w a Ybaz.underlying27 hj
theorem any_succ {cs : List Nat} {p c : Nat} (hc : cs[p]? = some c) (f : Nat → Bool) : (cs.take (p + 1)).any f = ((cs.take p).any f || f c) := by
  rw [List.take_add_one, hc, List.any_append]; simp
theorem count_take_int {L : List Int} {j : Nat} {x : Int} (h : L[j]? = some x) : (L.take j).count x < L.count x := by
  have e : L = L.take (j + 1) ++ L.drop (j + 1) := (List.take_append_drop _ _).symm
  have h1 : L.count x = (L.take (j + 1)).count x + (L.drop (j + 1)).count x := by
    conv => lhs; rw [e]
    exact List.count_append ..
  have h2 : (L.take (j + 1)).count x = (L.take j).count x + 1 := by rw [take_succ' h, List.count_append]; simp
  omega
def AllB (its : List It) : Prop := ∀ x ∈ its, x.wv ≤ 255 ∧ ∀ v ∈ x.rd, v ≤ 255

set_option maxHeartbeats 20000000 in
set_option maxRecDepth 100000 in
theorem main_rule (s0 : Nat) (h0 : s0 ≤ 255) (ia : Option Addr) (ic : Nat) (its : List It) (hn : its.length ≤ 300) (hb : AllB its) (hm : ∀ x ∈ its, x.rd.length ≤ maxLen) (xa : Option Addr) (xc : Nat) (xs : List Nat) (hx : xs.length ≤ 1024) (hxb : ∀ x ∈ xs, x ≤ 65535) (W : World) (hI : ItsAt W ia its) (hX : XA W xa xs) :
    Calls Ybaz.prog 3 #[.int .u8 s0, .slice ia its.length ic, .slice xa xs.length xc] W fun e w' => e = .returned (.bool true) ∧ Below W.heap.size W w' := by
  have HI : Hid (ItsAt W ia its) := hI
  have HX : Hid (XA W xa xs) := hX
  have HBB : Hid (AllB its) := hb
  have HM : Hid _ := hm
  have HXB : Hid _ := hxb
  obtain ⟨n, hnn⟩ : ∃ n, its.length = n := ⟨_, rfl⟩
  have HN : Hid (its.length = n) := hnn
  obtain ⟨nx, hnx⟩ : ∃ nx, xs.length = nx := ⟨_, rfl⟩
  have HNX : Hid (xs.length = nx) := hnx
  rw [hnn] at hn ⊢
  rw [hnx] at hx ⊢
  have d1 : ¬ (300 : Int) < (n : Int) := by omega
  have d2 : ¬ (1024 : Int) < (nx : Int) := by omega
  clear hI hX hb hm hxb hnn hnx
  go_enter Ybaz.func3, Ybaz.ntmps3
  go_wp2_with fail
  go_loopw [47] (fun v47 wq => ∃ i : Nat, i ≤ n ∧ v47 = .int .i64 i ∧ Below W.heap.size W wq ∧ ∀ x ∈ its.take i, x.rd.length ≤ 256) (fun v47 _ => n - (intOf v47).toNat)
  case atStart => exact ⟨0, by omega, rfl, Below.refl _ _, fun x hx => by simp at hx⟩
  case round =>
    obtain ⟨i, hi, rfl, hB, hR⟩ := hrel
    have HB0 : Hid (Below W.heap.size W wr) := hB
    have HR0 : Hid (∀ x ∈ its.take i, x.rd.length ≤ 256) := hR
    clear hB hR
    by_cases hil : i < n
    · have hil' : (i : Int) < (n : Int) := by omega
      obtain ⟨x, hx1⟩ : ∃ x, its[i]? = some x := ⟨its[i]'(by rw [HN.out]; exact hil), List.getElem?_eq_getElem _⟩
      obtain ⟨⟨g, o, rfl, hg, hr⟩, _⟩ := (HI.out.below HB0.out) i x hx1
      have hm1 := HM.out x (List.mem_of_getElem? hx1)
      have HX1 : Hid _ := hx1
      obtain ⟨wb, wv, rd, ra, rc⟩ := x
      have HR : Hid (wr.rangeAt g (o + i * 3) [.bool wb, .int .u8 wv, .slice ra rd.length rc]) := hr
      obtain ⟨w2, hw2⟩ : ∃ w2, w2 = wr.alloc (.cells #[.bool wb, .int .u8 wv, .slice ra rd.length rc] 26) := ⟨_, rfl⟩
      have k2 : w2.cell? ⟨wr.heap.size, 2, none⟩ = some (.slice ra rd.length rc) := by rw [hw2]; exact (CB.new (cs := [.bool wb, .int .u8 wv, .slice ra rd.length rc]) wr).cell rfl
      have B2 : Hid (Below W.heap.size W w2) := by rw [hw2]; exact HB0.out.alloc HB0.out.size _
      have HW2 : Hid _ := hw2
      have hm2 : rd.length ≤ maxLen := hm1
      unfold maxLen at hm2
      clear hx1 hg hr hw2 hm1
      go_upto_region 6 with (first
        | (refine gate (some 50) rfl ?_; refine wpList_val rfl (.agg #[.bool wb, .int .u8 wv, .slice ra rd.length rc]) (exec_load 26 (.tmp 49) rfl g (o + i * 3) rfl [.bool wb, .int .u8 wv, .slice ra rd.length rc] _ HR.out Ybaz.underlying26 rfl sz26) ?_; simp only [Act.put, List.setIfInBounds_toArray, List.set_cons_zero, List.set_cons_succ]))
      rw [← HW2.out]
      clear HW2 HR
      by_cases h256 : 256 < rd.length
      · have h256' : (256 : Int) < (rd.length : Int) := by omega
        go_wp2_with fail
        go_ret
        exact ⟨rfl, B2.out⟩
      · have h256' : ¬ (256 : Int) < (rd.length : Int) := by omega
        go_wp2_with fail
        go_roundw
        case rel =>
          refine ⟨i + 1, by omega, by simp, B2.out, fun y hy => ?_⟩
          rw [List.take_add_one, HX1.out] at hy
          rcases List.mem_append.1 hy with hy | hy
          · exact HR0.out y hy
          · simp at hy; subst hy; show rd.length ≤ 256; omega
        case measure => simp [intOf]; omega
    · as_aux_lemma =>
        obtain rfl : n = i := by omega
        have HRD : Hid (∀ x ∈ its, x.rd.length ≤ 256) := by
          have := HR0.out
          rw [← HN.out, List.take_length] at this
          exact this
        clear HR0 hil
        obtain ⟨q, hq⟩ : ∃ q, q = s0 % 16 := ⟨_, rfl⟩
        have e1 : Int.tmod (s0 : Int) 16 = (q : Int) := by rw [hq]; exact tmod_nat s0 16
        have hq16 : q < 16 := by omega
        obtain ⟨T, hT⟩ : ∃ T, T = 1 + q := ⟨_, rfl⟩
        have hT1 : 1 ≤ T := by omega
        have hT2 : T ≤ 16 := by omega
        have hTq : (1 : Int) + (q : Int) = (T : Int) := by omega
        have HTq : Hid _ := hTq
        have hTz : ¬ ((T : Int) = 0) := by omega
        have hTn : ¬ T = 0 := by omega
        clear hq hT hTq
        go_upto_region 10 with fail
        rw [HTq.out]
        clear e1 HTq hq16 d1 d2
        have wn1 : IntKind.i64.wrap ((n : Int) + 1) = (n : Int) + 1 := i64w _ (by omega)
        have wT1 : IntKind.i64.wrap ((T : Int) + 1) = (T : Int) + 1 := i64w _ (by omega)
        go_cut [10] from 60 to 72 (fun s10 wx => ∃ gt gs gw gst, s10 = .pointer (some ⟨gt, 0, none⟩) ∧ LB W n T gt gs gw gst (.slice none 0 0) (fun _ => 0) (fun _ => 0) wx ∧ W.heap.size ≤ gt ∧ W.heap.size ≤ gs ∧ W.heap.size ≤ gw ∧ gs ≠ gw)
        case first =>
          as_aux_lemma =>
            have SA : Hid (Below W.heap.size W wr.drew) := HB0.out.drew
            refine wp_region_noPanic ?_
            refine wp_region_held_drew (S := Below W.heap.size W) (by kernel_rfl) SA.out (fun _ => ?_)
            refine wpAnyH_take (i := 0) (oi := { dst := some 60, op := _, type := _, pos := _, after := _, guard := _ }) (v := .slice ia n ic) rfl (by kernel_rfl) (by kernel_rfl) (by kernel_rfl) (fun _ _ _ h => h) (Or.inl ⟨by rfl, fun W hW => by clear hW; go_simp⟩) SA.out ?_
            simp only [Act.put, List.setIfInBounds_toArray, List.set_cons_zero, List.set_cons_succ]
            refine wpAnyH_take (i := 1) (oi := { dst := some 61, op := _, type := _, pos := _, after := _, guard := _ }) (v := .int .i64 (n : Int)) rfl (by kernel_rfl) (by kernel_rfl) (by kernel_rfl) (fun _ _ _ h => h) (Or.inl ⟨by rfl, fun W hW => by clear hW; go_simp⟩) SA.out ?_
            simp only [Act.put, List.setIfInBounds_toArray, List.set_cons_zero, List.set_cons_succ]
            refine wpAnyH_take (i := 2) (oi := { dst := some 62, op := _, type := _, pos := _, after := _, guard := _ }) (v := .int .i64 ((n : Int) + 1)) rfl (by kernel_rfl) (by kernel_rfl) (by kernel_rfl) (fun _ _ _ h => h) (Or.inl ⟨by rfl, fun W hW => by clear hW; go_simp⟩) SA.out ?_
            simp only [Act.put, List.setIfInBounds_toArray, List.set_cons_zero, List.set_cons_succ]
            refine wpAnyH_take (i := 4) (oi := { dst := some 64, op := _, type := _, pos := _, after := _, guard := _ }) (v := .slice ia n ic) rfl (by kernel_rfl) (by kernel_rfl) (by kernel_rfl) (fun _ _ _ h => h) (Or.inl ⟨by rfl, fun W hW => by clear hW; go_simp⟩) SA.out ?_
            simp only [Act.put, List.setIfInBounds_toArray, List.set_cons_zero, List.set_cons_succ]
            refine wpAnyH_take (i := 5) (oi := { dst := some 65, op := _, type := _, pos := _, after := _, guard := _ }) (v := .int .i64 (n : Int)) rfl (by kernel_rfl) (by kernel_rfl) (by kernel_rfl) (fun _ _ _ h => h) (Or.inl ⟨by rfl, fun W hW => by clear hW; go_simp⟩) SA.out ?_
            simp only [Act.put, List.setIfInBounds_toArray, List.set_cons_zero, List.set_cons_succ]
            refine wpAnyH_take (i := 7) (oi := { dst := some 67, op := _, type := _, pos := _, after := _, guard := _ }) (v := .int .i64 (T : Int)) rfl (by kernel_rfl) (by kernel_rfl) (by kernel_rfl) (fun _ _ _ h => h) (Or.inl ⟨by rfl, fun W hW => by clear hW; go_simp⟩) SA.out ?_
            simp only [Act.put, List.setIfInBounds_toArray, List.set_cons_zero, List.set_cons_succ]
            refine wpAnyH_take (i := 8) (oi := { dst := some 68, op := _, type := _, pos := _, after := _, guard := _ }) (v := .int .i64 ((T : Int) + 1)) rfl (by kernel_rfl) (by kernel_rfl) (by kernel_rfl) (fun _ _ _ h => h) (Or.inl ⟨by rfl, fun W hW => by clear hW; go_simp⟩) SA.out ?_
            simp only [Act.put, List.setIfInBounds_toArray, List.set_cons_zero, List.set_cons_succ]
            refine wpAnyH_ready (rs := [3, 6, 9]) (by kernel_rfl) (by simp) ?_
            refine AllReadyH.cons rfl (fun K hK => ?_) (AllReadyH.cons rfl (fun K hK => ?_) (AllReadyH.cons rfl (fun K hK => ?_) AllReadyH.nil))
            · refine step_make28 rfl (.tmp 62) (.tmp 62) rfl (n + 1) (by omega) rfl rfl ?_
              simp only [Act.put, List.setIfInBounds_toArray, List.set_cons_zero, List.set_cons_succ]
              obtain ⟨y1, hy1⟩ : ∃ y, y = wr.drew.alloc (.cells (fcells (n + 1) (fun _ => 0)).toArray 3) := ⟨_, rfl⟩
              have Sy1 : Hid (Below W.heap.size W y1) := by rw [hy1]; exact SA.out.alloc SA.out.size _
              have Ay13 : Hid (FB y1 wr.heap.size (n + 1) (fun _ => 0)) := by rw [hy1]; exact CB.new wr.drew
              rw [← hy1]
              clear hy1
              refine hK.out _ _ Sy1.out (fun _ => ?_)
              clear hK K
              refine wpAnyH_ready (rs := [6, 9]) (by kernel_rfl) (by simp) ?_
              refine AllReadyH.cons rfl (fun K hK => ?_) (AllReadyH.cons rfl (fun K hK => ?_) AllReadyH.nil)
              · refine step_make28 rfl (.tmp 65) (.tmp 65) rfl n (by omega) rfl rfl ?_
                simp only [Act.put, List.setIfInBounds_toArray, List.set_cons_zero, List.set_cons_succ]
                obtain ⟨y2, hy2⟩ : ∃ y, y = y1.alloc (.cells (fcells n (fun _ => 0)).toArray 3) := ⟨_, rfl⟩
                have Sy2 : Hid (Below W.heap.size W y2) := by rw [hy2]; exact Sy1.out.alloc Sy1.out.size _
                have Ay26 : Hid (FB y2 y1.heap.size n (fun _ => 0)) := by rw [hy2]; exact CB.new y1
                have Ay23 : Hid (FB y2 wr.heap.size (n + 1) (fun _ => 0)) := by rw [hy2]; exact CB.alloc Ay13.out _
                have NLT : wr.heap.size < y1.heap.size := CB.lt Ay13.out
                rw [← hy2]
                clear hy2
                refine hK.out _ _ Sy2.out (fun _ => ?_)
                clear hK K
                refine wpAnyH_ready (rs := [9]) (by kernel_rfl) (by simp) ?_
                refine AllReadyH.cons rfl (fun K hK => ?_) AllReadyH.nil
                refine step_make28 rfl (.tmp 68) (.tmp 68) rfl (T + 1) (by omega) rfl rfl ?_
                simp only [Act.put, List.setIfInBounds_toArray, List.set_cons_zero, List.set_cons_succ]
                obtain ⟨y3, hy3⟩ : ∃ y, y = y2.alloc (.cells (fcells (T + 1) (fun _ => 0)).toArray 3) := ⟨_, rfl⟩
                have Sy3 : Hid (Below W.heap.size W y3) := by rw [hy3]; exact Sy2.out.alloc Sy2.out.size _
                have Ay39 : Hid (FB y3 y2.heap.size (T + 1) (fun _ => 0)) := by rw [hy3]; exact CB.new y2
                have Ay33 : Hid (FB y3 wr.heap.size (n + 1) (fun _ => 0)) := by rw [hy3]; exact CB.alloc Ay23.out _
                have Ay36 : Hid (FB y3 y1.heap.size n (fun _ => 0)) := by rw [hy3]; exact CB.alloc Ay26.out _
                rw [← hy3]
                clear hy3
                refine hK.out _ _ Sy3.out (fun _ => ?_)
                clear hK K
                refine wpAnyH_take (i := 10) (oi := { dst := some 70, op := _, type := _, pos := _, after := _, guard := _ }) (v := .agg #[.slice none 0 0, .slice (some ⟨y2.heap.size, 0, none⟩) (T + 1) (T + 1)]) rfl (by kernel_rfl) (by kernel_rfl) (by kernel_rfl) (fun _ _ _ h => h) (Or.inl ⟨by rfl, fun W hW => by clear hW; go_simp⟩) Sy3.out ?_
                simp only [Act.put, List.setIfInBounds_toArray, List.set_cons_zero, List.set_cons_succ]
                refine wpAnyH_take (i := 11) (oi := { dst := some 71, op := _, type := _, pos := _, after := _, guard := _ }) (v := .agg (rw33 (.slice none 0 0) wr.heap.size y1.heap.size y2.heap.size n T).toArray) rfl (by kernel_rfl) (by kernel_rfl) (by kernel_rfl) (fun _ _ _ h => h) (Or.inl ⟨by rfl, fun W hW => exec_build33 rfl rfl rfl rfl W⟩) Sy3.out ?_
                simp only [Act.put, List.setIfInBounds_toArray, List.set_cons_zero, List.set_cons_succ]
                refine wpAnyH_ready (rs := [12]) (by kernel_rfl) (by simp) ?_
                refine AllReadyH.cons rfl (fun K hK => ?_) AllReadyH.nil
                rw [if_pos (by rfl)]
                go_simp
                obtain ⟨y9, hy9⟩ : ∃ y, y = y3.alloc (.cells (rw33 (.slice none 0 0) wr.heap.size y1.heap.size y2.heap.size n T).toArray 33) := ⟨_, rfl⟩
                have Q9 : Hid (LB W n T y3.heap.size wr.heap.size y1.heap.size y2.heap.size (.slice none 0 0) (fun _ => 0) (fun _ => 0) y9) := by rw [hy9]; exact ⟨Sy3.out.alloc Sy3.out.size _, CB.new y3, CB.alloc Ay33.out _, CB.alloc Ay36.out _⟩
                have SY9 : Hid (Below W.heap.size W y9) := Q9.out.bel
                rw [← hy9]
                clear hy9
                refine hK.out _ _ SY9.out (fun _ => ?_)
                clear hK K
                refine wpAnyH_take (i := 13) (oi := { dst := some 10, op := _, type := _, pos := _, after := _, guard := _ }) (v := .pointer (some ⟨y3.heap.size, 0, none⟩)) rfl (by kernel_rfl) (by kernel_rfl) (by kernel_rfl) (fun _ _ _ h => h) (Or.inl ⟨by rfl, fun W hW => by clear hW; go_simp⟩) SY9.out ?_
                simp only [Act.put, List.setIfInBounds_toArray, List.set_cons_zero, List.set_cons_succ]
                refine wpAnyH_done (by kernel_rfl) ?_ _
                refine NoPanic.normal ?_
                go_wp2_with fail
                go_meet
                case rel => exact ⟨_, _, _, _, rfl, Q9.out, Sy3.out.size, SA.out.size, Sy1.out.size, Nat.ne_of_lt NLT⟩
              · refine step_make28 rfl (.tmp 68) (.tmp 68) rfl (T + 1) (by omega) rfl rfl ?_
                simp only [Act.put, List.setIfInBounds_toArray, List.set_cons_zero, List.set_cons_succ]
                obtain ⟨y2, hy2⟩ : ∃ y, y = y1.alloc (.cells (fcells (T + 1) (fun _ => 0)).toArray 3) := ⟨_, rfl⟩
                have Sy2 : Hid (Below W.heap.size W y2) := by rw [hy2]; exact Sy1.out.alloc Sy1.out.size _
                have Ay29 : Hid (FB y2 y1.heap.size (T + 1) (fun _ => 0)) := by rw [hy2]; exact CB.new y1
                have Ay23 : Hid (FB y2 wr.heap.size (n + 1) (fun _ => 0)) := by rw [hy2]; exact CB.alloc Ay13.out _
                rw [← hy2]
                clear hy2
                refine hK.out _ _ Sy2.out (fun _ => ?_)
                clear hK K
                refine wpAnyH_take (i := 10) (oi := { dst := some 70, op := _, type := _, pos := _, after := _, guard := _ }) (v := .agg #[.slice none 0 0, .slice (some ⟨y1.heap.size, 0, none⟩) (T + 1) (T + 1)]) rfl (by kernel_rfl) (by kernel_rfl) (by kernel_rfl) (fun _ _ _ h => h) (Or.inl ⟨by rfl, fun W hW => by clear hW; go_simp⟩) Sy2.out ?_
                simp only [Act.put, List.setIfInBounds_toArray, List.set_cons_zero, List.set_cons_succ]
                refine wpAnyH_ready (rs := [6]) (by kernel_rfl) (by simp) ?_
                refine AllReadyH.cons rfl (fun K hK => ?_) AllReadyH.nil
                refine step_make28 rfl (.tmp 65) (.tmp 65) rfl n (by omega) rfl rfl ?_
                simp only [Act.put, List.setIfInBounds_toArray, List.set_cons_zero, List.set_cons_succ]
                obtain ⟨y3, hy3⟩ : ∃ y, y = y2.alloc (.cells (fcells n (fun _ => 0)).toArray 3) := ⟨_, rfl⟩
                have Sy3 : Hid (Below W.heap.size W y3) := by rw [hy3]; exact Sy2.out.alloc Sy2.out.size _
                have Ay36 : Hid (FB y3 y2.heap.size n (fun _ => 0)) := by rw [hy3]; exact CB.new y2
                have Ay33 : Hid (FB y3 wr.heap.size (n + 1) (fun _ => 0)) := by rw [hy3]; exact CB.alloc Ay23.out _
                have Ay39 : Hid (FB y3 y1.heap.size (T + 1) (fun _ => 0)) := by rw [hy3]; exact CB.alloc Ay29.out _
                have NLT : wr.heap.size < y2.heap.size := CB.lt Ay23.out
                rw [← hy3]
                clear hy3
                refine hK.out _ _ Sy3.out (fun _ => ?_)
                clear hK K
                refine wpAnyH_take (i := 11) (oi := { dst := some 71, op := _, type := _, pos := _, after := _, guard := _ }) (v := .agg (rw33 (.slice none 0 0) wr.heap.size y2.heap.size y1.heap.size n T).toArray) rfl (by kernel_rfl) (by kernel_rfl) (by kernel_rfl) (fun _ _ _ h => h) (Or.inl ⟨by rfl, fun W hW => exec_build33 rfl rfl rfl rfl W⟩) Sy3.out ?_
                simp only [Act.put, List.setIfInBounds_toArray, List.set_cons_zero, List.set_cons_succ]
                refine wpAnyH_ready (rs := [12]) (by kernel_rfl) (by simp) ?_
                refine AllReadyH.cons rfl (fun K hK => ?_) AllReadyH.nil
                rw [if_pos (by rfl)]
                go_simp
                obtain ⟨y9, hy9⟩ : ∃ y, y = y3.alloc (.cells (rw33 (.slice none 0 0) wr.heap.size y2.heap.size y1.heap.size n T).toArray 33) := ⟨_, rfl⟩
                have Q9 : Hid (LB W n T y3.heap.size wr.heap.size y2.heap.size y1.heap.size (.slice none 0 0) (fun _ => 0) (fun _ => 0) y9) := by rw [hy9]; exact ⟨Sy3.out.alloc Sy3.out.size _, CB.new y3, CB.alloc Ay33.out _, CB.alloc Ay36.out _⟩
                have SY9 : Hid (Below W.heap.size W y9) := Q9.out.bel
                rw [← hy9]
                clear hy9
                refine hK.out _ _ SY9.out (fun _ => ?_)
                clear hK K
                refine wpAnyH_take (i := 13) (oi := { dst := some 10, op := _, type := _, pos := _, after := _, guard := _ }) (v := .pointer (some ⟨y3.heap.size, 0, none⟩)) rfl (by kernel_rfl) (by kernel_rfl) (by kernel_rfl) (fun _ _ _ h => h) (Or.inl ⟨by rfl, fun W hW => by clear hW; go_simp⟩) SY9.out ?_
                simp only [Act.put, List.setIfInBounds_toArray, List.set_cons_zero, List.set_cons_succ]
                refine wpAnyH_done (by kernel_rfl) ?_ _
                refine NoPanic.normal ?_
                go_wp2_with fail
                go_meet
                case rel => exact ⟨_, _, _, _, rfl, Q9.out, Sy3.out.size, SA.out.size, Sy2.out.size, Nat.ne_of_lt NLT⟩
            · refine step_make28 rfl (.tmp 65) (.tmp 65) rfl n (by omega) rfl rfl ?_
              simp only [Act.put, List.setIfInBounds_toArray, List.set_cons_zero, List.set_cons_succ]
              obtain ⟨y1, hy1⟩ : ∃ y, y = wr.drew.alloc (.cells (fcells n (fun _ => 0)).toArray 3) := ⟨_, rfl⟩
              have Sy1 : Hid (Below W.heap.size W y1) := by rw [hy1]; exact SA.out.alloc SA.out.size _
              have Ay16 : Hid (FB y1 wr.heap.size n (fun _ => 0)) := by rw [hy1]; exact CB.new wr.drew
              rw [← hy1]
              clear hy1
              refine hK.out _ _ Sy1.out (fun _ => ?_)
              clear hK K
              refine wpAnyH_ready (rs := [3, 9]) (by kernel_rfl) (by simp) ?_
              refine AllReadyH.cons rfl (fun K hK => ?_) (AllReadyH.cons rfl (fun K hK => ?_) AllReadyH.nil)
              · refine step_make28 rfl (.tmp 62) (.tmp 62) rfl (n + 1) (by omega) rfl rfl ?_
                simp only [Act.put, List.setIfInBounds_toArray, List.set_cons_zero, List.set_cons_succ]
                obtain ⟨y2, hy2⟩ : ∃ y, y = y1.alloc (.cells (fcells (n + 1) (fun _ => 0)).toArray 3) := ⟨_, rfl⟩
                have Sy2 : Hid (Below W.heap.size W y2) := by rw [hy2]; exact Sy1.out.alloc Sy1.out.size _
                have Ay23 : Hid (FB y2 y1.heap.size (n + 1) (fun _ => 0)) := by rw [hy2]; exact CB.new y1
                have Ay26 : Hid (FB y2 wr.heap.size n (fun _ => 0)) := by rw [hy2]; exact CB.alloc Ay16.out _
                have NLT : wr.heap.size < y1.heap.size := CB.lt Ay16.out
                rw [← hy2]
                clear hy2
                refine hK.out _ _ Sy2.out (fun _ => ?_)
                clear hK K
                refine wpAnyH_ready (rs := [9]) (by kernel_rfl) (by simp) ?_
                refine AllReadyH.cons rfl (fun K hK => ?_) AllReadyH.nil
                refine step_make28 rfl (.tmp 68) (.tmp 68) rfl (T + 1) (by omega) rfl rfl ?_
                simp only [Act.put, List.setIfInBounds_toArray, List.set_cons_zero, List.set_cons_succ]
                obtain ⟨y3, hy3⟩ : ∃ y, y = y2.alloc (.cells (fcells (T + 1) (fun _ => 0)).toArray 3) := ⟨_, rfl⟩
                have Sy3 : Hid (Below W.heap.size W y3) := by rw [hy3]; exact Sy2.out.alloc Sy2.out.size _
                have Ay39 : Hid (FB y3 y2.heap.size (T + 1) (fun _ => 0)) := by rw [hy3]; exact CB.new y2
                have Ay36 : Hid (FB y3 wr.heap.size n (fun _ => 0)) := by rw [hy3]; exact CB.alloc Ay26.out _
                have Ay33 : Hid (FB y3 y1.heap.size (n + 1) (fun _ => 0)) := by rw [hy3]; exact CB.alloc Ay23.out _
                rw [← hy3]
                clear hy3
                refine hK.out _ _ Sy3.out (fun _ => ?_)
                clear hK K
                refine wpAnyH_take (i := 10) (oi := { dst := some 70, op := _, type := _, pos := _, after := _, guard := _ }) (v := .agg #[.slice none 0 0, .slice (some ⟨y2.heap.size, 0, none⟩) (T + 1) (T + 1)]) rfl (by kernel_rfl) (by kernel_rfl) (by kernel_rfl) (fun _ _ _ h => h) (Or.inl ⟨by rfl, fun W hW => by clear hW; go_simp⟩) Sy3.out ?_
                simp only [Act.put, List.setIfInBounds_toArray, List.set_cons_zero, List.set_cons_succ]
                refine wpAnyH_take (i := 11) (oi := { dst := some 71, op := _, type := _, pos := _, after := _, guard := _ }) (v := .agg (rw33 (.slice none 0 0) y1.heap.size wr.heap.size y2.heap.size n T).toArray) rfl (by kernel_rfl) (by kernel_rfl) (by kernel_rfl) (fun _ _ _ h => h) (Or.inl ⟨by rfl, fun W hW => exec_build33 rfl rfl rfl rfl W⟩) Sy3.out ?_
                simp only [Act.put, List.setIfInBounds_toArray, List.set_cons_zero, List.set_cons_succ]
                refine wpAnyH_ready (rs := [12]) (by kernel_rfl) (by simp) ?_
                refine AllReadyH.cons rfl (fun K hK => ?_) AllReadyH.nil
                rw [if_pos (by rfl)]
                go_simp
                obtain ⟨y9, hy9⟩ : ∃ y, y = y3.alloc (.cells (rw33 (.slice none 0 0) y1.heap.size wr.heap.size y2.heap.size n T).toArray 33) := ⟨_, rfl⟩
                have Q9 : Hid (LB W n T y3.heap.size y1.heap.size wr.heap.size y2.heap.size (.slice none 0 0) (fun _ => 0) (fun _ => 0) y9) := by rw [hy9]; exact ⟨Sy3.out.alloc Sy3.out.size _, CB.new y3, CB.alloc Ay33.out _, CB.alloc Ay36.out _⟩
                have SY9 : Hid (Below W.heap.size W y9) := Q9.out.bel
                rw [← hy9]
                clear hy9
                refine hK.out _ _ SY9.out (fun _ => ?_)
                clear hK K
                refine wpAnyH_take (i := 13) (oi := { dst := some 10, op := _, type := _, pos := _, after := _, guard := _ }) (v := .pointer (some ⟨y3.heap.size, 0, none⟩)) rfl (by kernel_rfl) (by kernel_rfl) (by kernel_rfl) (fun _ _ _ h => h) (Or.inl ⟨by rfl, fun W hW => by clear hW; go_simp⟩) SY9.out ?_
                simp only [Act.put, List.setIfInBounds_toArray, List.set_cons_zero, List.set_cons_succ]
                refine wpAnyH_done (by kernel_rfl) ?_ _
                refine NoPanic.normal ?_
                go_wp2_with fail
                go_meet
                case rel => exact ⟨_, _, _, _, rfl, Q9.out, Sy3.out.size, Sy1.out.size, SA.out.size, Nat.ne_of_gt NLT⟩
              · refine step_make28 rfl (.tmp 68) (.tmp 68) rfl (T + 1) (by omega) rfl rfl ?_
                simp only [Act.put, List.setIfInBounds_toArray, List.set_cons_zero, List.set_cons_succ]
                obtain ⟨y2, hy2⟩ : ∃ y, y = y1.alloc (.cells (fcells (T + 1) (fun _ => 0)).toArray 3) := ⟨_, rfl⟩
                have Sy2 : Hid (Below W.heap.size W y2) := by rw [hy2]; exact Sy1.out.alloc Sy1.out.size _
                have Ay29 : Hid (FB y2 y1.heap.size (T + 1) (fun _ => 0)) := by rw [hy2]; exact CB.new y1
                have Ay26 : Hid (FB y2 wr.heap.size n (fun _ => 0)) := by rw [hy2]; exact CB.alloc Ay16.out _
                rw [← hy2]
                clear hy2
                refine hK.out _ _ Sy2.out (fun _ => ?_)
                clear hK K
                refine wpAnyH_take (i := 10) (oi := { dst := some 70, op := _, type := _, pos := _, after := _, guard := _ }) (v := .agg #[.slice none 0 0, .slice (some ⟨y1.heap.size, 0, none⟩) (T + 1) (T + 1)]) rfl (by kernel_rfl) (by kernel_rfl) (by kernel_rfl) (fun _ _ _ h => h) (Or.inl ⟨by rfl, fun W hW => by clear hW; go_simp⟩) Sy2.out ?_
                simp only [Act.put, List.setIfInBounds_toArray, List.set_cons_zero, List.set_cons_succ]
                refine wpAnyH_ready (rs := [3]) (by kernel_rfl) (by simp) ?_
                refine AllReadyH.cons rfl (fun K hK => ?_) AllReadyH.nil
                refine step_make28 rfl (.tmp 62) (.tmp 62) rfl (n + 1) (by omega) rfl rfl ?_
                simp only [Act.put, List.setIfInBounds_toArray, List.set_cons_zero, List.set_cons_succ]
                obtain ⟨y3, hy3⟩ : ∃ y, y = y2.alloc (.cells (fcells (n + 1) (fun _ => 0)).toArray 3) := ⟨_, rfl⟩
                have Sy3 : Hid (Below W.heap.size W y3) := by rw [hy3]; exact Sy2.out.alloc Sy2.out.size _
                have Ay33 : Hid (FB y3 y2.heap.size (n + 1) (fun _ => 0)) := by rw [hy3]; exact CB.new y2
                have Ay36 : Hid (FB y3 wr.heap.size n (fun _ => 0)) := by rw [hy3]; exact CB.alloc Ay26.out _
                have Ay39 : Hid (FB y3 y1.heap.size (T + 1) (fun _ => 0)) := by rw [hy3]; exact CB.alloc Ay29.out _
                have NLT : wr.heap.size < y2.heap.size := CB.lt Ay26.out
                rw [← hy3]
                clear hy3
                refine hK.out _ _ Sy3.out (fun _ => ?_)
                clear hK K
                refine wpAnyH_take (i := 11) (oi := { dst := some 71, op := _, type := _, pos := _, after := _, guard := _ }) (v := .agg (rw33 (.slice none 0 0) y2.heap.size wr.heap.size y1.heap.size n T).toArray) rfl (by kernel_rfl) (by kernel_rfl) (by kernel_rfl) (fun _ _ _ h => h) (Or.inl ⟨by rfl, fun W hW => exec_build33 rfl rfl rfl rfl W⟩) Sy3.out ?_
                simp only [Act.put, List.setIfInBounds_toArray, List.set_cons_zero, List.set_cons_succ]
                refine wpAnyH_ready (rs := [12]) (by kernel_rfl) (by simp) ?_
                refine AllReadyH.cons rfl (fun K hK => ?_) AllReadyH.nil
                rw [if_pos (by rfl)]
                go_simp
                obtain ⟨y9, hy9⟩ : ∃ y, y = y3.alloc (.cells (rw33 (.slice none 0 0) y2.heap.size wr.heap.size y1.heap.size n T).toArray 33) := ⟨_, rfl⟩
                have Q9 : Hid (LB W n T y3.heap.size y2.heap.size wr.heap.size y1.heap.size (.slice none 0 0) (fun _ => 0) (fun _ => 0) y9) := by rw [hy9]; exact ⟨Sy3.out.alloc Sy3.out.size _, CB.new y3, CB.alloc Ay33.out _, CB.alloc Ay36.out _⟩
                have SY9 : Hid (Below W.heap.size W y9) := Q9.out.bel
                rw [← hy9]
                clear hy9
                refine hK.out _ _ SY9.out (fun _ => ?_)
                clear hK K
                refine wpAnyH_take (i := 13) (oi := { dst := some 10, op := _, type := _, pos := _, after := _, guard := _ }) (v := .pointer (some ⟨y3.heap.size, 0, none⟩)) rfl (by kernel_rfl) (by kernel_rfl) (by kernel_rfl) (fun _ _ _ h => h) (Or.inl ⟨by rfl, fun W hW => by clear hW; go_simp⟩) SY9.out ?_
                simp only [Act.put, List.setIfInBounds_toArray, List.set_cons_zero, List.set_cons_succ]
                refine wpAnyH_done (by kernel_rfl) ?_ _
                refine NoPanic.normal ?_
                go_wp2_with fail
                go_meet
                case rel => exact ⟨_, _, _, _, rfl, Q9.out, Sy3.out.size, Sy2.out.size, SA.out.size, Nat.ne_of_gt NLT⟩
            · refine step_make28 rfl (.tmp 68) (.tmp 68) rfl (T + 1) (by omega) rfl rfl ?_
              simp only [Act.put, List.setIfInBounds_toArray, List.set_cons_zero, List.set_cons_succ]
              obtain ⟨y1, hy1⟩ : ∃ y, y = wr.drew.alloc (.cells (fcells (T + 1) (fun _ => 0)).toArray 3) := ⟨_, rfl⟩
              have Sy1 : Hid (Below W.heap.size W y1) := by rw [hy1]; exact SA.out.alloc SA.out.size _
              have Ay19 : Hid (FB y1 wr.heap.size (T + 1) (fun _ => 0)) := by rw [hy1]; exact CB.new wr.drew
              rw [← hy1]
              clear hy1
              refine hK.out _ _ Sy1.out (fun _ => ?_)
              clear hK K
              refine wpAnyH_take (i := 10) (oi := { dst := some 70, op := _, type := _, pos := _, after := _, guard := _ }) (v := .agg #[.slice none 0 0, .slice (some ⟨wr.heap.size, 0, none⟩) (T + 1) (T + 1)]) rfl (by kernel_rfl) (by kernel_rfl) (by kernel_rfl) (fun _ _ _ h => h) (Or.inl ⟨by rfl, fun W hW => by clear hW; go_simp⟩) Sy1.out ?_
              simp only [Act.put, List.setIfInBounds_toArray, List.set_cons_zero, List.set_cons_succ]
              refine wpAnyH_ready (rs := [3, 6]) (by kernel_rfl) (by simp) ?_
              refine AllReadyH.cons rfl (fun K hK => ?_) (AllReadyH.cons rfl (fun K hK => ?_) AllReadyH.nil)
              · refine step_make28 rfl (.tmp 62) (.tmp 62) rfl (n + 1) (by omega) rfl rfl ?_
                simp only [Act.put, List.setIfInBounds_toArray, List.set_cons_zero, List.set_cons_succ]
                obtain ⟨y2, hy2⟩ : ∃ y, y = y1.alloc (.cells (fcells (n + 1) (fun _ => 0)).toArray 3) := ⟨_, rfl⟩
                have Sy2 : Hid (Below W.heap.size W y2) := by rw [hy2]; exact Sy1.out.alloc Sy1.out.size _
                have Ay23 : Hid (FB y2 y1.heap.size (n + 1) (fun _ => 0)) := by rw [hy2]; exact CB.new y1
                have Ay29 : Hid (FB y2 wr.heap.size (T + 1) (fun _ => 0)) := by rw [hy2]; exact CB.alloc Ay19.out _
                rw [← hy2]
                clear hy2
                refine hK.out _ _ Sy2.out (fun _ => ?_)
                clear hK K
                refine wpAnyH_ready (rs := [6]) (by kernel_rfl) (by simp) ?_
                refine AllReadyH.cons rfl (fun K hK => ?_) AllReadyH.nil
                refine step_make28 rfl (.tmp 65) (.tmp 65) rfl n (by omega) rfl rfl ?_
                simp only [Act.put, List.setIfInBounds_toArray, List.set_cons_zero, List.set_cons_succ]
                obtain ⟨y3, hy3⟩ : ∃ y, y = y2.alloc (.cells (fcells n (fun _ => 0)).toArray 3) := ⟨_, rfl⟩
                have Sy3 : Hid (Below W.heap.size W y3) := by rw [hy3]; exact Sy2.out.alloc Sy2.out.size _
                have Ay36 : Hid (FB y3 y2.heap.size n (fun _ => 0)) := by rw [hy3]; exact CB.new y2
                have Ay39 : Hid (FB y3 wr.heap.size (T + 1) (fun _ => 0)) := by rw [hy3]; exact CB.alloc Ay29.out _
                have Ay33 : Hid (FB y3 y1.heap.size (n + 1) (fun _ => 0)) := by rw [hy3]; exact CB.alloc Ay23.out _
                have NLT : y1.heap.size < y2.heap.size := CB.lt Ay23.out
                rw [← hy3]
                clear hy3
                refine hK.out _ _ Sy3.out (fun _ => ?_)
                clear hK K
                refine wpAnyH_take (i := 11) (oi := { dst := some 71, op := _, type := _, pos := _, after := _, guard := _ }) (v := .agg (rw33 (.slice none 0 0) y1.heap.size y2.heap.size wr.heap.size n T).toArray) rfl (by kernel_rfl) (by kernel_rfl) (by kernel_rfl) (fun _ _ _ h => h) (Or.inl ⟨by rfl, fun W hW => exec_build33 rfl rfl rfl rfl W⟩) Sy3.out ?_
                simp only [Act.put, List.setIfInBounds_toArray, List.set_cons_zero, List.set_cons_succ]
                refine wpAnyH_ready (rs := [12]) (by kernel_rfl) (by simp) ?_
                refine AllReadyH.cons rfl (fun K hK => ?_) AllReadyH.nil
                rw [if_pos (by rfl)]
                go_simp
                obtain ⟨y9, hy9⟩ : ∃ y, y = y3.alloc (.cells (rw33 (.slice none 0 0) y1.heap.size y2.heap.size wr.heap.size n T).toArray 33) := ⟨_, rfl⟩
                have Q9 : Hid (LB W n T y3.heap.size y1.heap.size y2.heap.size wr.heap.size (.slice none 0 0) (fun _ => 0) (fun _ => 0) y9) := by rw [hy9]; exact ⟨Sy3.out.alloc Sy3.out.size _, CB.new y3, CB.alloc Ay33.out _, CB.alloc Ay36.out _⟩
                have SY9 : Hid (Below W.heap.size W y9) := Q9.out.bel
                rw [← hy9]
                clear hy9
                refine hK.out _ _ SY9.out (fun _ => ?_)
                clear hK K
                refine wpAnyH_take (i := 13) (oi := { dst := some 10, op := _, type := _, pos := _, after := _, guard := _ }) (v := .pointer (some ⟨y3.heap.size, 0, none⟩)) rfl (by kernel_rfl) (by kernel_rfl) (by kernel_rfl) (fun _ _ _ h => h) (Or.inl ⟨by rfl, fun W hW => by clear hW; go_simp⟩) SY9.out ?_
                simp only [Act.put, List.setIfInBounds_toArray, List.set_cons_zero, List.set_cons_succ]
                refine wpAnyH_done (by kernel_rfl) ?_ _
                refine NoPanic.normal ?_
                go_wp2_with fail
                go_meet
                case rel => exact ⟨_, _, _, _, rfl, Q9.out, Sy3.out.size, Sy1.out.size, Sy2.out.size, Nat.ne_of_lt NLT⟩
              · refine step_make28 rfl (.tmp 65) (.tmp 65) rfl n (by omega) rfl rfl ?_
                simp only [Act.put, List.setIfInBounds_toArray, List.set_cons_zero, List.set_cons_succ]
                obtain ⟨y2, hy2⟩ : ∃ y, y = y1.alloc (.cells (fcells n (fun _ => 0)).toArray 3) := ⟨_, rfl⟩
                have Sy2 : Hid (Below W.heap.size W y2) := by rw [hy2]; exact Sy1.out.alloc Sy1.out.size _
                have Ay26 : Hid (FB y2 y1.heap.size n (fun _ => 0)) := by rw [hy2]; exact CB.new y1
                have Ay29 : Hid (FB y2 wr.heap.size (T + 1) (fun _ => 0)) := by rw [hy2]; exact CB.alloc Ay19.out _
                rw [← hy2]
                clear hy2
                refine hK.out _ _ Sy2.out (fun _ => ?_)
                clear hK K
                refine wpAnyH_ready (rs := [3]) (by kernel_rfl) (by simp) ?_
                refine AllReadyH.cons rfl (fun K hK => ?_) AllReadyH.nil
                refine step_make28 rfl (.tmp 62) (.tmp 62) rfl (n + 1) (by omega) rfl rfl ?_
                simp only [Act.put, List.setIfInBounds_toArray, List.set_cons_zero, List.set_cons_succ]
                obtain ⟨y3, hy3⟩ : ∃ y, y = y2.alloc (.cells (fcells (n + 1) (fun _ => 0)).toArray 3) := ⟨_, rfl⟩
                have Sy3 : Hid (Below W.heap.size W y3) := by rw [hy3]; exact Sy2.out.alloc Sy2.out.size _
                have Ay33 : Hid (FB y3 y2.heap.size (n + 1) (fun _ => 0)) := by rw [hy3]; exact CB.new y2
                have Ay39 : Hid (FB y3 wr.heap.size (T + 1) (fun _ => 0)) := by rw [hy3]; exact CB.alloc Ay29.out _
                have Ay36 : Hid (FB y3 y1.heap.size n (fun _ => 0)) := by rw [hy3]; exact CB.alloc Ay26.out _
                have NLT : y1.heap.size < y2.heap.size := CB.lt Ay26.out
                rw [← hy3]
                clear hy3
                refine hK.out _ _ Sy3.out (fun _ => ?_)
                clear hK K
                refine wpAnyH_take (i := 11) (oi := { dst := some 71, op := _, type := _, pos := _, after := _, guard := _ }) (v := .agg (rw33 (.slice none 0 0) y2.heap.size y1.heap.size wr.heap.size n T).toArray) rfl (by kernel_rfl) (by kernel_rfl) (by kernel_rfl) (fun _ _ _ h => h) (Or.inl ⟨by rfl, fun W hW => exec_build33 rfl rfl rfl rfl W⟩) Sy3.out ?_
                simp only [Act.put, List.setIfInBounds_toArray, List.set_cons_zero, List.set_cons_succ]
                refine wpAnyH_ready (rs := [12]) (by kernel_rfl) (by simp) ?_
                refine AllReadyH.cons rfl (fun K hK => ?_) AllReadyH.nil
                rw [if_pos (by rfl)]
                go_simp
                obtain ⟨y9, hy9⟩ : ∃ y, y = y3.alloc (.cells (rw33 (.slice none 0 0) y2.heap.size y1.heap.size wr.heap.size n T).toArray 33) := ⟨_, rfl⟩
                have Q9 : Hid (LB W n T y3.heap.size y2.heap.size y1.heap.size wr.heap.size (.slice none 0 0) (fun _ => 0) (fun _ => 0) y9) := by rw [hy9]; exact ⟨Sy3.out.alloc Sy3.out.size _, CB.new y3, CB.alloc Ay33.out _, CB.alloc Ay36.out _⟩
                have SY9 : Hid (Below W.heap.size W y9) := Q9.out.bel
                rw [← hy9]
                clear hy9
                refine hK.out _ _ SY9.out (fun _ => ?_)
                clear hK K
                refine wpAnyH_take (i := 13) (oi := { dst := some 10, op := _, type := _, pos := _, after := _, guard := _ }) (v := .pointer (some ⟨y3.heap.size, 0, none⟩)) rfl (by kernel_rfl) (by kernel_rfl) (by kernel_rfl) (fun _ _ _ h => h) (Or.inl ⟨by rfl, fun W hW => by clear hW; go_simp⟩) SY9.out ?_
                simp only [Act.put, List.setIfInBounds_toArray, List.set_cons_zero, List.set_cons_succ]
                refine wpAnyH_done (by kernel_rfl) ?_ _
                refine NoPanic.normal ?_
                go_wp2_with fail
                go_meet
                case rel => exact ⟨_, _, _, _, rfl, Q9.out, Sy3.out.size, Sy2.out.size, Sy1.out.size, Nat.ne_of_gt NLT⟩
        case rest =>
          obtain ⟨gt, gs, gw, gst, rfl, hL, b1, b2, b3, b4⟩ := hcut
          have L0 : Hid (LB W n T gt gs gw gst (.slice none 0 0) (fun _ => 0) (fun _ => 0) wc) := hL
          clear hL HB0 wn1 wT1
          go_wp2_with fail
          go_loopw [11, 75] (fun v11 v75 wq => ∃ (i : Nat) (v : Value) (U : List Us) (fs fw : Nat → Int), i ≤ n ∧ v75 = .int .i64 i ∧ v11 = .int .i64 (U.length : Int) ∧ LB W n T gt gs gw gst v fs fw wq ∧ OU W.heap.size wq v U ∧ U.map Us.r = FL T (its.take i) ∧ (∀ j, j ≤ i → fs j = (usF T its j : Int)) ∧ (∀ j, j < i → fw j = (weF T its j : Int))) (fun _ v75 _ => n - (intOf v75).toNat)
          case atStart => exact ⟨0, _, [], _, _, by omega, rfl, rfl, L0.out, OU.nil _ _, rfl, fun j hj => by obtain rfl : j = 0 := (by omega); simp [usF, FL], fun j hj => by omega⟩
          case round =>
            obtain ⟨i, v, U, fs, fw, hi, rfl, rfl, hL, hO, hU, hfs, hfw⟩ := hrel
            have L1 : Hid (LB W n T gt gs gw gst v fs fw wr) := hL
            have O1 : Hid (OU W.heap.size wr v U) := hO
            have HU : Hid (U.map Us.r = FL T (its.take i)) := hU
            have HFS : Hid (∀ j, j ≤ i → fs j = (usF T its j : Int)) := hfs
            have HFW : Hid (∀ j, j < i → fw j = (weF T its j : Int)) := hfw
            clear hL hO hU hfs hfw L0
            by_cases hil : i < n
            · have hil' : (i : Int) < (n : Int) := by omega
              obtain ⟨x, hx1⟩ : ∃ x, its[i]? = some x := ⟨its[i]'(by rw [HN.out]; exact hil), List.getElem?_eq_getElem _⟩
              obtain ⟨⟨g, o, rfl, hg, hr⟩, hra⟩ := (HI.out.below L1.out.bel) i x hx1
              have hxb := HBB.out x (List.mem_of_getElem? hx1)
              have hxr := HRD.out x (List.mem_of_getElem? hx1)
              have HX1 : Hid (its[i]? = some x) := hx1
              have HFI : Hid ((FL T (its.take i)).length ≤ 76843) := by
                have := FL_le (T := T) (its := its.take i) (fun y hy => HRD.out y (List.mem_of_mem_take hy))
                rw [List.length_take, HN.out] at this
                show (FL T (its.take i)).length ≤ 76843
                omega
              have HUI : Hid (U.length = (FL T (its.take i)).length) := by rw [← HU.out]; exact (List.length_map _).symm
              obtain ⟨wb, wv, rd, ra, rc⟩ := x
              have hwv : wv ≤ 255 := hxb.1
              have hrl : rd.length ≤ 256 := hxr
              have HRB : Hid (∀ v ∈ rd, v ≤ 255) := hxb.2
              have HR8 : Hid (RA8 W ra rd) := (HI.out i _ HX1.out).2
              have HR : Hid (wr.rangeAt g (o + i * 3) [.bool wb, .int .u8 wv, .slice ra rd.length rc]) := hr
              obtain ⟨gx, hgx⟩ : ∃ gx, gx = wr.heap.size := ⟨_, rfl⟩
              have HGX : Hid _ := hgx
              obtain ⟨w2, hw2⟩ : ∃ w2, w2 = wr.alloc (.cells #[.bool wb, .int .u8 wv, .slice ra rd.length rc] 26) := ⟨_, rfl⟩
              have Bw2 : Hid (Below wr.heap.size wr w2) := by rw [hw2]; exact step_alloc _ _
              have X2 : Hid (CB w2 gx 26 [.bool wb, .int .u8 wv, .slice ra rd.length rc]) := by rw [hw2, hgx]; exact CB.new wr
              have HW2 : Hid _ := hw2
              have L2 : Hid (LB W n T gt gs gw gst v fs fw w2) := L1.out.below Bw2.out
              have O2 : Hid (OU W.heap.size w2 v U) := O1.out.below Bw2.out
              have bgx : W.heap.size ≤ gx := by rw [hgx]; exact L1.out.bel.size
              clear hx1 hg hr hw2 hra hxb hxr hgx L1 O1 Bw2
              have k0 : w2.cell? ⟨gx, 0, none⟩ = some (.bool wb) := X2.out.cell rfl
              go_upto_region 15 with (first
                | (refine gate (some 79) rfl ?_; refine wpList_val rfl (.agg #[.bool wb, .int .u8 wv, .slice ra rd.length rc]) (exec_load 26 (.tmp 78) rfl g (o + i * 3) rfl [.bool wb, .int .u8 wv, .slice ra rd.length rc] _ HR.out Ybaz.underlying26 rfl sz26) ?_; simp only [Act.put, List.setIfInBounds_toArray, List.set_cons_zero, List.set_cons_succ]))
              rw [← HW2.out, ← HGX.out]
              clear HW2 HR HGX
              go_upto_if 81 with fail
              go_cut [11] from 81 to 101 (fun s11 wx => ∃ v U2, s11 = .int .i64 (U2.length : Int) ∧ LB W n T gt gs gw gst v fs fw wx ∧ OU W.heap.size wx v U2 ∧ U2.map Us.r = FL T (its.take i) ++ (if wb then [frm T wv] else []) ∧ CB wx gx 26 [.bool wb, .int .u8 wv, .slice ra rd.length rc])
              case first =>
                cases wb
                · go_wp2_with fail
                  go_meet
                  case rel => exact ⟨v, U, rfl, L2.out, O2.out, by rw [HU.out]; simp, X2.out⟩
                · as_aux_lemma =>
                    obtain ⟨wq0, hwq0⟩ : ∃ wq0, wq0 = w2 := ⟨_, rfl⟩
                    rw [← hwq0] at L2 O2 X2 k0 ⊢
                    clear hwq0
                    have HUL : Hid (U.length ≤ 77200) := by rw [HUI.out]; have := HFI.out; show (FL T (its.take i)).length ≤ 77200; omega
                    obtain ⟨ua, uc, huv, _, _⟩ := O2.out.lies
                    subst huv
                    clear k0
                    obtain ⟨rm, hrm⟩ : ∃ rm, rm = U.length % T := ⟨_, rfl⟩
                    have er : Int.tmod (U.length : Int) (T : Int) = (rm : Int) := by rw [hrm]; exact tmod_nat U.length T
                    have wrm : IntKind.i64.wrap (rm : Int) = (rm : Int) := i64w _ (by have : rm < T := (by rw [hrm]; exact Nat.mod_lt _ (by omega)); omega)
                    clear hrm
                    go_upto_region 16 with fail
                    have SA : Hid (SU gx [.bool true, .int .u8 wv, .slice ra rd.length rc] wq0.drew) := X2.out
                    refine wp_region_noPanic ?_
                    refine wp_region_held_drew (S := SU gx [.bool true, .int .u8 wv, .slice ra rd.length rc]) (by kernel_rfl) SA.out (fun _ => ?_)
                    refine wpAnyH_take (i := 0) (oi := { dst := some 82, op := _, type := _, pos := _, after := _, guard := _ }) (v := .pointer (some ⟨gt, 0, none⟩)) rfl (by kernel_rfl) (by kernel_rfl) (by kernel_rfl) (fun _ _ _ h => h) (Or.inl ⟨by rfl, fun W hW => by clear hW; go_simp⟩) SA.out ?_
                    simp only [Act.put, List.setIfInBounds_toArray, List.set_cons_zero, List.set_cons_succ]
                    refine wpAnyH_take (i := 1) (oi := { dst := some 83, op := _, type := _, pos := _, after := _, guard := _ }) (v := .pointer (some ⟨gt, 0, none⟩)) rfl (by kernel_rfl) (by kernel_rfl) (by kernel_rfl) (fun _ _ _ h => h) (Or.inl ⟨by rfl, fun W hW => by clear hW; go_simp⟩) SA.out ?_
                    simp only [Act.put, List.setIfInBounds_toArray, List.set_cons_zero, List.set_cons_succ]
                    refine wpAnyH_take (i := 2) (oi := { dst := some 84, op := _, type := _, pos := _, after := _, guard := _ }) (v := .pointer (some ⟨gt, 0, none⟩)) rfl (by kernel_rfl) (by kernel_rfl) (by kernel_rfl) (fun _ _ _ h => h) (Or.inl ⟨by rfl, fun W hW => by clear hW; go_simp⟩) SA.out ?_
                    simp only [Act.put, List.setIfInBounds_toArray, List.set_cons_zero, List.set_cons_succ]
                    refine wpAnyH_take (i := 3) (oi := { dst := some 85, op := _, type := _, pos := _, after := _, guard := _ }) (v := .pointer (some ⟨gt, 0, none⟩)) rfl (by kernel_rfl) (by kernel_rfl) (by kernel_rfl) (fun _ _ _ h => h) (Or.inl ⟨by rfl, fun W hW => by clear hW; go_simp⟩) SA.out ?_
                    simp only [Act.put, List.setIfInBounds_toArray, List.set_cons_zero, List.set_cons_succ]
                    refine wpAnyH_take (i := 5) (oi := { dst := some 87, op := _, type := _, pos := _, after := _, guard := _ }) (v := .int .i64 (U.length : Int)) rfl (by kernel_rfl) (by kernel_rfl) (by kernel_rfl) (fun _ _ _ h => h) (Or.inl ⟨by rfl, fun W hW => by clear hW; go_simp⟩) SA.out ?_
                    simp only [Act.put, List.setIfInBounds_toArray, List.set_cons_zero, List.set_cons_succ]
                    refine wpAnyH_take (i := 6) (oi := { dst := some 88, op := _, type := _, pos := _, after := _, guard := _ }) (v := .int .i64 (T : Int)) rfl (by kernel_rfl) (by kernel_rfl) (by kernel_rfl) (fun _ _ _ h => h) (Or.inl ⟨by rfl, fun W hW => by clear hW; go_simp⟩) SA.out ?_
                    simp only [Act.put, List.setIfInBounds_toArray, List.set_cons_zero, List.set_cons_succ]
                    refine wpAnyH_take (i := 7) (oi := { dst := some 89, op := _, type := _, pos := _, after := _, guard := _ }) (v := .int .i64 (rm : Int)) rfl (by kernel_rfl) (by kernel_rfl) (by kernel_rfl) (fun _ _ _ h => h) (Or.inl ⟨by rfl, fun W hW => by clear hW; go_simp⟩) SA.out ?_
                    simp only [Act.put, List.setIfInBounds_toArray, List.set_cons_zero, List.set_cons_succ]
                    refine wpAnyH_take (i := 8) (oi := { dst := some 90, op := _, type := _, pos := _, after := _, guard := _ }) (v := .int .i64 (i : Int)) rfl (by kernel_rfl) (by kernel_rfl) (by kernel_rfl) (fun _ _ _ h => h) (Or.inl ⟨by rfl, fun W hW => by clear hW; go_simp⟩) SA.out ?_
                    simp only [Act.put, List.setIfInBounds_toArray, List.set_cons_zero, List.set_cons_succ]
                    refine wpAnyH_take (i := 9) (oi := { dst := some 91, op := _, type := _, pos := _, after := _, guard := _ }) (v := .pointer (some ⟨gx, 1, none⟩)) rfl (by kernel_rfl) (by kernel_rfl) (by kernel_rfl) (fun _ _ _ h => h) (Or.inl ⟨by rfl, fun W hW => by clear hW; go_simp⟩) SA.out ?_
                    simp only [Act.put, List.setIfInBounds_toArray, List.set_cons_zero, List.set_cons_succ]
                    refine wpAnyH_take (i := 10) (oi := { dst := some 92, op := _, type := _, pos := _, after := _, guard := _ }) (v := .int .u8 (wv : Int)) rfl (by kernel_rfl) (by kernel_rfl) (by kernel_rfl) (fun _ _ _ h => h) (Or.inl ⟨by rfl, fun W hW => by have hd := CB.cell (i := 1) hW rfl; clear hW; go_simp⟩) SA.out ?_
                    simp only [Act.put, List.setIfInBounds_toArray, List.set_cons_zero, List.set_cons_succ]
                    refine wpAnyH_take (i := 11) (oi := { dst := some 93, op := _, type := _, pos := _, after := _, guard := _ }) (v := .int .i64 (T : Int)) rfl (by kernel_rfl) (by kernel_rfl) (by kernel_rfl) (fun _ _ _ h => h) (Or.inl ⟨by rfl, fun W hW => by clear hW; go_simp⟩) SA.out ?_
                    simp only [Act.put, List.setIfInBounds_toArray, List.set_cons_zero, List.set_cons_succ]
                    refine wpAnyH_ready (rs := [4, 12]) (by kernel_rfl) (by simp) ?_
                    refine AllReadyH.cons rfl (fun K hK => ?_) (AllReadyH.cons rfl (fun K hK => ?_) AllReadyH.nil)
                    · have hd : wq0.drew.cell? ⟨gt, 0, none⟩ = some (.slice ua U.length uc) := CB.cell (w := wq0.drew) (i := 0) L2.out.row rfl
                      rw [if_pos (by rfl)]
                      go_simp
                      refine hK.out _ _ SA.out (fun _ => ?_)
                      clear hK K hd
                      refine wpAnyH_ready (rs := [12]) (by kernel_rfl) (by simp) ?_
                      refine AllReadyH.cons rfl (fun K hK => ?_) AllReadyH.nil
                      rw [if_pos (by rfl)]
                      go_simp
                      refine (from4 wv T hwv ⟨hT1, hT2⟩ wq0.drew).mono ?_
                      rintro e wt ⟨rfl, hwt⟩
                      rw [hwt]
                      clear hwt wt
                      refine hK.out _ _ SA.out (fun _ => ?_)
                      clear hK K
                      refine wpAnyH_take (i := 13) (oi := { dst := some 95, op := _, type := _, pos := _, after := _, guard := _ }) (v := .agg (Us.cells (⟨(rm : Int), (i : Int), 0, 0, 0, 0, frm T wv⟩ : Us)).toArray) rfl (by kernel_rfl) (by kernel_rfl) (by kernel_rfl) (fun _ _ _ h => h) (Or.inl ⟨by rfl, fun W hW => exec_build36 rfl rfl rfl rfl W⟩) SA.out ?_
                      simp only [Act.put, List.setIfInBounds_toArray, List.set_cons_zero, List.set_cons_succ]
                      refine wpAnyH_ready (rs := [14]) (by kernel_rfl) (by simp) ?_
                      refine AllReadyH.cons rfl (fun K hK => ?_) AllReadyH.nil
                      refine step_buildUs rfl (.tmp 95) rfl (⟨(rm : Int), (i : Int), 0, 0, 0, 0, frm T wv⟩ : Us) rfl ?_
                      simp only [Act.put, List.setIfInBounds_toArray, List.set_cons_zero, List.set_cons_succ]
                      have SB : Hid (SU gx [.bool true, .int .u8 wv, .slice ra rd.length rc] (wq0.drew.alloc (.cells (Us.cells (⟨(rm : Int), (i : Int), 0, 0, 0, 0, frm T wv⟩ : Us)).toArray 36))) := CB.alloc (w := wq0.drew) X2.out _
                      refine hK.out _ _ SB.out (fun _ => ?_)
                      clear hK K
                      refine wpAnyH_ready (rs := [15]) (by kernel_rfl) (by simp) ?_
                      refine AllReadyH.cons rfl (fun K hK => ?_) AllReadyH.nil
                      refine step_appendUs wq0.drew rfl (.tmp 86) (.tmp 96) rfl W.heap.size (.slice ua U.length uc) U (⟨(rm : Int), (i : Int), 0, 0, 0, 0, frm T wv⟩ : Us) rfl rfl O2.out.drew (by have := HUL.out; omega) L2.out.bel.drew.size ?_
                      intro v3 w3 hO3 hG3
                      have L3 : Hid (LB W n T gt gs gw gst (.slice ua U.length uc) fs fw w3) := L2.out.drew.grown O2.out.drew hG3
                      have X3 : Hid (CB w3 gx 26 [.bool true, .int .u8 wv, .slice ra rd.length rc]) := CB.grown (w := wq0.drew) X2.out hG3 (own_ne O2.out.drew X2.out (by decide))
                      obtain ⟨U3, hU3⟩ : ∃ U3, U3 = U ++ [(⟨(rm : Int), (i : Int), 0, 0, 0, 0, frm T wv⟩ : Us)] := ⟨_, rfl⟩
                      rw [← hU3] at hO3
                      have HU3 : Hid (U3.map Us.r = U.map Us.r ++ [frm T wv]) := by rw [hU3, List.map_append]; rfl
                      have HU3L : Hid (U3.length = U.length + 1) := by rw [hU3, List.length_append]; rfl
                      obtain ⟨va, vc, hv3, hUA3, hvc3⟩ := hO3.lies
                      subst hv3
                      clear hU3 hUA3 hvc3
                      have O3 : Hid (OU W.heap.size w3 (.slice va U3.length vc) U3) := hO3
                      have SC : Hid (SU gx [.bool true, .int .u8 wv, .slice ra rd.length rc] w3) := X3.out
                      clear hO3 hG3 SB
                      simp only [Act.put, List.setIfInBounds_toArray, List.set_cons_zero, List.set_cons_succ]
                      refine hK.out _ _ SC.out (fun _ => ?_)
                      clear hK K
                      refine wpAnyH_take (i := 16) (oi := { dst := some 98, op := _, type := _, pos := _, after := _, guard := _ }) (v := .pointer (some ⟨gt, 0, none⟩)) rfl (by kernel_rfl) (by kernel_rfl) (by kernel_rfl) (fun _ _ _ h => h) (Or.inl ⟨by rfl, fun W hW => by clear hW; go_simp⟩) SC.out ?_
                      simp only [Act.put, List.setIfInBounds_toArray, List.set_cons_zero, List.set_cons_succ]
                      refine wpAnyH_take (i := 17) (oi := { dst := some 99, op := _, type := _, pos := _, after := _, guard := _ }) (v := .pointer (some ⟨gt, 0, none⟩)) rfl (by kernel_rfl) (by kernel_rfl) (by kernel_rfl) (fun _ _ _ h => h) (Or.inl ⟨by rfl, fun W hW => by clear hW; go_simp⟩) SC.out ?_
                      simp only [Act.put, List.setIfInBounds_toArray, List.set_cons_zero, List.set_cons_succ]
                      refine wpAnyH_ready (rs := [18]) (by kernel_rfl) (by simp) ?_
                      refine AllReadyH.cons rfl (fun K hK => ?_) AllReadyH.nil
                      have k0 : w3.cell? ⟨gt, 0, none⟩ = some (.slice ua U.length uc) := L3.out.row.cell rfl
                      have q0 : w3.frozen? ⟨gt, 0, none⟩ = false := L3.out.row.froz
                      rw [if_pos (by rfl)]
                      go_simp
                      have L4 : Hid (LB W n T gt gs gw gst (.slice va U3.length vc) fs fw (w3.setCell ⟨gt, 0, none⟩ (.slice va U3.length vc))) := L3.out.put b1
                      have O4 : Hid (OU W.heap.size (w3.setCell ⟨gt, 0, none⟩ (.slice va U3.length vc)) (.slice va U3.length vc) U3) := O3.out.set L3.out.row (by decide)
                      have X4 : Hid (CB (w3.setCell ⟨gt, 0, none⟩ (.slice va U3.length vc)) gx 26 [.bool true, .int .u8 wv, .slice ra rd.length rc]) := X3.out.other (CB.apart L3.out.row X3.out (by decide))
                      have SD : Hid (SU gx [.bool true, .int .u8 wv, .slice ra rd.length rc] (w3.setCell ⟨gt, 0, none⟩ (.slice va U3.length vc))) := X4.out
                      clear k0 q0
                      refine hK.out _ _ SD.out (fun _ => ?_)
                      clear hK K
                      refine wpAnyH_done (by kernel_rfl) ?_ _
                      refine NoPanic.normal ?_
                      have hul : U.length ≤ 77200 := HUL.out
                      go_wp2_with fail
                      go_meet
                      case rel => exact ⟨_, U3, by rw [HU3L.out]; rfl, L4.out, O4.out, by rw [HU3.out, HU.out]; rfl, X4.out⟩
                    · rw [if_pos (by rfl)]
                      go_simp
                      refine (from4 wv T hwv ⟨hT1, hT2⟩ wq0.drew).mono ?_
                      rintro e wt ⟨rfl, hwt⟩
                      rw [hwt]
                      clear hwt wt
                      refine hK.out _ _ SA.out (fun _ => ?_)
                      clear hK K
                      refine wpAnyH_take (i := 13) (oi := { dst := some 95, op := _, type := _, pos := _, after := _, guard := _ }) (v := .agg (Us.cells (⟨(rm : Int), (i : Int), 0, 0, 0, 0, frm T wv⟩ : Us)).toArray) rfl (by kernel_rfl) (by kernel_rfl) (by kernel_rfl) (fun _ _ _ h => h) (Or.inl ⟨by rfl, fun W hW => exec_build36 rfl rfl rfl rfl W⟩) SA.out ?_
                      simp only [Act.put, List.setIfInBounds_toArray, List.set_cons_zero, List.set_cons_succ]
                      refine wpAnyH_ready (rs := [4, 14]) (by kernel_rfl) (by simp) ?_
                      refine AllReadyH.cons rfl (fun K hK => ?_) (AllReadyH.cons rfl (fun K hK => ?_) AllReadyH.nil)
                      · have hd : wq0.drew.cell? ⟨gt, 0, none⟩ = some (.slice ua U.length uc) := CB.cell (w := wq0.drew) (i := 0) L2.out.row rfl
                        rw [if_pos (by rfl)]
                        go_simp
                        refine hK.out _ _ SA.out (fun _ => ?_)
                        clear hK K hd
                        refine wpAnyH_ready (rs := [14]) (by kernel_rfl) (by simp) ?_
                        refine AllReadyH.cons rfl (fun K hK => ?_) AllReadyH.nil
                        refine step_buildUs rfl (.tmp 95) rfl (⟨(rm : Int), (i : Int), 0, 0, 0, 0, frm T wv⟩ : Us) rfl ?_
                        simp only [Act.put, List.setIfInBounds_toArray, List.set_cons_zero, List.set_cons_succ]
                        have SB : Hid (SU gx [.bool true, .int .u8 wv, .slice ra rd.length rc] (wq0.drew.alloc (.cells (Us.cells (⟨(rm : Int), (i : Int), 0, 0, 0, 0, frm T wv⟩ : Us)).toArray 36))) := CB.alloc (w := wq0.drew) X2.out _
                        refine hK.out _ _ SB.out (fun _ => ?_)
                        clear hK K
                        refine wpAnyH_ready (rs := [15]) (by kernel_rfl) (by simp) ?_
                        refine AllReadyH.cons rfl (fun K hK => ?_) AllReadyH.nil
                        refine step_appendUs wq0.drew rfl (.tmp 86) (.tmp 96) rfl W.heap.size (.slice ua U.length uc) U (⟨(rm : Int), (i : Int), 0, 0, 0, 0, frm T wv⟩ : Us) rfl rfl O2.out.drew (by have := HUL.out; omega) L2.out.bel.drew.size ?_
                        intro v3 w3 hO3 hG3
                        have L3 : Hid (LB W n T gt gs gw gst (.slice ua U.length uc) fs fw w3) := L2.out.drew.grown O2.out.drew hG3
                        have X3 : Hid (CB w3 gx 26 [.bool true, .int .u8 wv, .slice ra rd.length rc]) := CB.grown (w := wq0.drew) X2.out hG3 (own_ne O2.out.drew X2.out (by decide))
                        obtain ⟨U3, hU3⟩ : ∃ U3, U3 = U ++ [(⟨(rm : Int), (i : Int), 0, 0, 0, 0, frm T wv⟩ : Us)] := ⟨_, rfl⟩
                        rw [← hU3] at hO3
                        have HU3 : Hid (U3.map Us.r = U.map Us.r ++ [frm T wv]) := by rw [hU3, List.map_append]; rfl
                        have HU3L : Hid (U3.length = U.length + 1) := by rw [hU3, List.length_append]; rfl
                        obtain ⟨va, vc, hv3, hUA3, hvc3⟩ := hO3.lies
                        subst hv3
                        clear hU3 hUA3 hvc3
                        have O3 : Hid (OU W.heap.size w3 (.slice va U3.length vc) U3) := hO3
                        have SC : Hid (SU gx [.bool true, .int .u8 wv, .slice ra rd.length rc] w3) := X3.out
                        clear hO3 hG3 SB
                        simp only [Act.put, List.setIfInBounds_toArray, List.set_cons_zero, List.set_cons_succ]
                        refine hK.out _ _ SC.out (fun _ => ?_)
                        clear hK K
                        refine wpAnyH_take (i := 16) (oi := { dst := some 98, op := _, type := _, pos := _, after := _, guard := _ }) (v := .pointer (some ⟨gt, 0, none⟩)) rfl (by kernel_rfl) (by kernel_rfl) (by kernel_rfl) (fun _ _ _ h => h) (Or.inl ⟨by rfl, fun W hW => by clear hW; go_simp⟩) SC.out ?_
                        simp only [Act.put, List.setIfInBounds_toArray, List.set_cons_zero, List.set_cons_succ]
                        refine wpAnyH_take (i := 17) (oi := { dst := some 99, op := _, type := _, pos := _, after := _, guard := _ }) (v := .pointer (some ⟨gt, 0, none⟩)) rfl (by kernel_rfl) (by kernel_rfl) (by kernel_rfl) (fun _ _ _ h => h) (Or.inl ⟨by rfl, fun W hW => by clear hW; go_simp⟩) SC.out ?_
                        simp only [Act.put, List.setIfInBounds_toArray, List.set_cons_zero, List.set_cons_succ]
                        refine wpAnyH_ready (rs := [18]) (by kernel_rfl) (by simp) ?_
                        refine AllReadyH.cons rfl (fun K hK => ?_) AllReadyH.nil
                        have k0 : w3.cell? ⟨gt, 0, none⟩ = some (.slice ua U.length uc) := L3.out.row.cell rfl
                        have q0 : w3.frozen? ⟨gt, 0, none⟩ = false := L3.out.row.froz
                        rw [if_pos (by rfl)]
                        go_simp
                        have L4 : Hid (LB W n T gt gs gw gst (.slice va U3.length vc) fs fw (w3.setCell ⟨gt, 0, none⟩ (.slice va U3.length vc))) := L3.out.put b1
                        have O4 : Hid (OU W.heap.size (w3.setCell ⟨gt, 0, none⟩ (.slice va U3.length vc)) (.slice va U3.length vc) U3) := O3.out.set L3.out.row (by decide)
                        have X4 : Hid (CB (w3.setCell ⟨gt, 0, none⟩ (.slice va U3.length vc)) gx 26 [.bool true, .int .u8 wv, .slice ra rd.length rc]) := X3.out.other (CB.apart L3.out.row X3.out (by decide))
                        have SD : Hid (SU gx [.bool true, .int .u8 wv, .slice ra rd.length rc] (w3.setCell ⟨gt, 0, none⟩ (.slice va U3.length vc))) := X4.out
                        clear k0 q0
                        refine hK.out _ _ SD.out (fun _ => ?_)
                        clear hK K
                        refine wpAnyH_done (by kernel_rfl) ?_ _
                        refine NoPanic.normal ?_
                        have hul : U.length ≤ 77200 := HUL.out
                        go_wp2_with fail
                        go_meet
                        case rel => exact ⟨_, U3, by rw [HU3L.out]; rfl, L4.out, O4.out, by rw [HU3.out, HU.out]; rfl, X4.out⟩
                      · refine step_buildUs rfl (.tmp 95) rfl (⟨(rm : Int), (i : Int), 0, 0, 0, 0, frm T wv⟩ : Us) rfl ?_
                        simp only [Act.put, List.setIfInBounds_toArray, List.set_cons_zero, List.set_cons_succ]
                        have SB : Hid (SU gx [.bool true, .int .u8 wv, .slice ra rd.length rc] (wq0.drew.alloc (.cells (Us.cells (⟨(rm : Int), (i : Int), 0, 0, 0, 0, frm T wv⟩ : Us)).toArray 36))) := CB.alloc (w := wq0.drew) X2.out _
                        refine hK.out _ _ SB.out (fun _ => ?_)
                        clear hK K
                        refine wpAnyH_ready (rs := [4]) (by kernel_rfl) (by simp) ?_
                        refine AllReadyH.cons rfl (fun K hK => ?_) AllReadyH.nil
                        have hd : (wq0.alloc (.cells (Us.cells (⟨(rm : Int), (i : Int), 0, 0, 0, 0, frm T wv⟩ : Us)).toArray 36)).cell? ⟨gt, 0, none⟩ = some (.slice ua U.length uc) := CB.cell (i := 0) (CB.alloc (w := wq0) L2.out.row _) rfl
                        rw [if_pos (by rfl)]
                        go_simp
                        refine hK.out _ _ SB.out (fun _ => ?_)
                        clear hK K hd
                        refine wpAnyH_ready (rs := [15]) (by kernel_rfl) (by simp) ?_
                        refine AllReadyH.cons rfl (fun K hK => ?_) AllReadyH.nil
                        refine step_appendUs wq0.drew rfl (.tmp 86) (.tmp 96) rfl W.heap.size (.slice ua U.length uc) U (⟨(rm : Int), (i : Int), 0, 0, 0, 0, frm T wv⟩ : Us) rfl rfl O2.out.drew (by have := HUL.out; omega) L2.out.bel.drew.size ?_
                        intro v3 w3 hO3 hG3
                        have L3 : Hid (LB W n T gt gs gw gst (.slice ua U.length uc) fs fw w3) := L2.out.drew.grown O2.out.drew hG3
                        have X3 : Hid (CB w3 gx 26 [.bool true, .int .u8 wv, .slice ra rd.length rc]) := CB.grown (w := wq0.drew) X2.out hG3 (own_ne O2.out.drew X2.out (by decide))
                        obtain ⟨U3, hU3⟩ : ∃ U3, U3 = U ++ [(⟨(rm : Int), (i : Int), 0, 0, 0, 0, frm T wv⟩ : Us)] := ⟨_, rfl⟩
                        rw [← hU3] at hO3
                        have HU3 : Hid (U3.map Us.r = U.map Us.r ++ [frm T wv]) := by rw [hU3, List.map_append]; rfl
                        have HU3L : Hid (U3.length = U.length + 1) := by rw [hU3, List.length_append]; rfl
                        obtain ⟨va, vc, hv3, hUA3, hvc3⟩ := hO3.lies
                        subst hv3
                        clear hU3 hUA3 hvc3
                        have O3 : Hid (OU W.heap.size w3 (.slice va U3.length vc) U3) := hO3
                        have SC : Hid (SU gx [.bool true, .int .u8 wv, .slice ra rd.length rc] w3) := X3.out
                        clear hO3 hG3 SB
                        simp only [Act.put, List.setIfInBounds_toArray, List.set_cons_zero, List.set_cons_succ]
                        refine hK.out _ _ SC.out (fun _ => ?_)
                        clear hK K
                        refine wpAnyH_take (i := 16) (oi := { dst := some 98, op := _, type := _, pos := _, after := _, guard := _ }) (v := .pointer (some ⟨gt, 0, none⟩)) rfl (by kernel_rfl) (by kernel_rfl) (by kernel_rfl) (fun _ _ _ h => h) (Or.inl ⟨by rfl, fun W hW => by clear hW; go_simp⟩) SC.out ?_
                        simp only [Act.put, List.setIfInBounds_toArray, List.set_cons_zero, List.set_cons_succ]
                        refine wpAnyH_take (i := 17) (oi := { dst := some 99, op := _, type := _, pos := _, after := _, guard := _ }) (v := .pointer (some ⟨gt, 0, none⟩)) rfl (by kernel_rfl) (by kernel_rfl) (by kernel_rfl) (fun _ _ _ h => h) (Or.inl ⟨by rfl, fun W hW => by clear hW; go_simp⟩) SC.out ?_
                        simp only [Act.put, List.setIfInBounds_toArray, List.set_cons_zero, List.set_cons_succ]
                        refine wpAnyH_ready (rs := [18]) (by kernel_rfl) (by simp) ?_
                        refine AllReadyH.cons rfl (fun K hK => ?_) AllReadyH.nil
                        have k0 : w3.cell? ⟨gt, 0, none⟩ = some (.slice ua U.length uc) := L3.out.row.cell rfl
                        have q0 : w3.frozen? ⟨gt, 0, none⟩ = false := L3.out.row.froz
                        rw [if_pos (by rfl)]
                        go_simp
                        have L4 : Hid (LB W n T gt gs gw gst (.slice va U3.length vc) fs fw (w3.setCell ⟨gt, 0, none⟩ (.slice va U3.length vc))) := L3.out.put b1
                        have O4 : Hid (OU W.heap.size (w3.setCell ⟨gt, 0, none⟩ (.slice va U3.length vc)) (.slice va U3.length vc) U3) := O3.out.set L3.out.row (by decide)
                        have X4 : Hid (CB (w3.setCell ⟨gt, 0, none⟩ (.slice va U3.length vc)) gx 26 [.bool true, .int .u8 wv, .slice ra rd.length rc]) := X3.out.other (CB.apart L3.out.row X3.out (by decide))
                        have SD : Hid (SU gx [.bool true, .int .u8 wv, .slice ra rd.length rc] (w3.setCell ⟨gt, 0, none⟩ (.slice va U3.length vc))) := X4.out
                        clear k0 q0
                        refine hK.out _ _ SD.out (fun _ => ?_)
                        clear hK K
                        refine wpAnyH_done (by kernel_rfl) ?_ _
                        refine NoPanic.normal ?_
                        have hul : U.length ≤ 77200 := HUL.out
                        go_wp2_with fail
                        go_meet
                        case rel => exact ⟨_, U3, by rw [HU3L.out]; rfl, L4.out, O4.out, by rw [HU3.out, HU.out]; rfl, X4.out⟩
              case rest =>
                obtain ⟨v2, U2, rfl, hL, hO, hU2, hX⟩ := hcut
                obtain ⟨P1, hP1⟩ : ∃ P1, P1 = FL T (its.take i) ++ (if wb then [frm T wv] else []) := ⟨_, rfl⟩
                have HP1 : Hid (FL T (its.take (i + 1)) = P1 ++ rd.map (frm T)) := by rw [FL_succ HX1.out, hP1, List.append_assoc]; rfl
                have HP1L : Hid (P1.length = weF T its i) := by
                  rw [hP1, List.length_append]
                  show _ = usF T its i + wN its i
                  unfold wN; rw [HX1.out]
                  show _ = usF T its i + (if wb then 1 else 0)
                  cases wb <;> rfl
                have HP1B : Hid (P1.length ≤ 76844) := by
                  rw [hP1, List.length_append]
                  have := HFI.out
                  show _ ≤ 76844
                  cases wb
                  · simp; omega
                  · simp; omega
                rw [← hP1] at hU2
                have L3 : Hid (LB W n T gt gs gw gst v2 fs fw wc) := hL
                have O3 : Hid (OU W.heap.size wc v2 U2) := hO
                have HU2 : Hid (U2.map Us.r = P1) := hU2
                have X3 : Hid (CB wc gx 26 [.bool wb, .int .u8 wv, .slice ra rd.length rc]) := hX
                have HU2L : Hid (U2.length = P1.length) := by rw [← hU2]; exact (List.length_map _).symm
                clear hL hO hU2 hX hP1 L2 O2 X2 k0
                obtain ⟨ua, uc, huv, _, _⟩ := O3.out.lies
                subst huv
                have r0 : wc.cell? ⟨gt, 0, none⟩ = some (.slice ua U2.length uc) := L3.out.row.cell rfl
                have r2 : wc.cell? ⟨gt, 2, none⟩ = some (.slice (some ⟨gw, 0, none⟩) n n) := L3.out.row.cell rfl
                have kw : wc.cell? ⟨gw, i, none⟩ = some (.int .i64 (fw i)) := L3.out.we.cell hil
                have qw : wc.frozen? ⟨gw, i, none⟩ = false := CB.froz L3.out.we
                obtain ⟨fw2, hfw2⟩ : ∃ fw2 : Nat → Int, fw2 = fun j => if j = i then (U2.length : Int) else fw j := ⟨_, rfl⟩
                have HFW2 : Hid (∀ j, j < i + 1 → fw2 j = (weF T its j : Int)) := fun j hj => by
                  rw [hfw2]
                  by_cases e : j = i
                  · subst e; simp only [if_true]; rw [HU2L.out, HP1L.out]
                  · simp only [e, if_false]; exact HFW.out j (by omega)
                have L4 : Hid (LB W n T gt gs gw gst (.slice ua U2.length uc) fs fw2 (wc.setCell ⟨gw, i, none⟩ (.int .i64 (U2.length : Int))).drew) := by rw [hfw2]; exact (L3.out.setW b3 b4 i _).drew
                have O4 : Hid (OU W.heap.size (wc.setCell ⟨gw, i, none⟩ (.int .i64 (U2.length : Int))).drew (.slice ua U2.length uc) U2) := (O3.out.set L3.out.we (by decide)).drew
                have X4 : Hid (CB (wc.setCell ⟨gw, i, none⟩ (.int .i64 (U2.length : Int))).drew gx 26 [.bool wb, .int .u8 wv, .slice ra rd.length rc]) := CB.drew (X3.out.other (CB.apart L3.out.we X3.out (by decide)))
                clear hfw2 HFW
                go_upto_region 18 with fail
                go_region
                generalize (wc.setCell ⟨gw, i, none⟩ (.int .i64 (U2.length : Int))).drew = w4 at L4 O4 X4 ⊢
                clear r0 r2 kw qw L3 O3 X3
                have kx2 : w4.cell? ⟨gx, 2, none⟩ = some (.slice ra rd.length rc) := X4.out.cell rfl
                go_wp2_with fail
                clear kx2
                go_loopw [11, 15, 116] (fun v11 v15 v116 wq => ∃ (k : Nat) (v : Value) (U : List Us), k ≤ rd.length ∧ v116 = .int .i64 k ∧ v11 = .int .i64 (U.length : Int) ∧ LB W n T gt gs gw gst v fs fw2 wq ∧ OU W.heap.size wq v U ∧ U.map Us.r = P1 ++ (rd.take k).map (frm T) ∧ CB wq gx 26 [.bool wb, .int .u8 wv, .slice ra rd.length rc]) (fun _ _ v116 _ => rd.length - (intOf v116).toNat)
                case atStart => exact ⟨0, _, U2, by omega, rfl, rfl, L4.out, O4.out, by rw [HU2.out]; simp, X4.out⟩
                case round =>
                  obtain ⟨k, v5, U, hk, rfl, rfl, hL, hO, hU5, hX⟩ := hrel
                  have L2 : Hid (LB W n T gt gs gw gst v5 fs fw2 wr) := hL
                  have O2 : Hid (OU W.heap.size wr v5 U) := hO
                  have HU5 : Hid (U.map Us.r = P1 ++ (rd.take k).map (frm T)) := hU5
                  have X2 : Hid (CB wr gx 26 [.bool wb, .int .u8 wv, .slice ra rd.length rc]) := hX
                  have HUL : Hid (U.length ≤ 77200) := by
                    have h1 : U.length = (P1 ++ (rd.take k).map (frm T)).length := by rw [← hU5]; exact (List.length_map _).symm
                    rw [List.length_append, List.length_map, List.length_take] at h1
                    have := HP1B.out
                    show U.length ≤ 77200
                    omega
                  clear hL hO hU5 hX L4 O4 X4
                  by_cases hkl : k < rd.length
                  · as_aux_lemma =>
                      have hkl' : (k : Int) < (rd.length : Int) := by omega
                      obtain ⟨y, hy⟩ : ∃ y, rd[k]? = some y := ⟨rd[k], List.getElem?_eq_getElem hkl⟩
                      have hy255 : y ≤ 255 := HRB.out y (List.mem_of_getElem? hy)
                      have HY : Hid (rd[k]? = some y) := hy
                      obtain ⟨g2, o2, rfl, hg2, hc2⟩ := (HR8.out.below L2.out.bel) k y hy
                      obtain ⟨wq0, hwq0⟩ : ∃ wq0, wq0 = wr := ⟨_, rfl⟩
                      rw [← hwq0] at L2 O2 X2 hc2 ⊢
                      clear hwq0 hy hg2
                      obtain ⟨ua, uc, huv, _, _⟩ := O2.out.lies
                      subst huv
                      obtain ⟨rm, hrm⟩ : ∃ rm, rm = U.length % T := ⟨_, rfl⟩
                      have er : Int.tmod (U.length : Int) (T : Int) = (rm : Int) := by rw [hrm]; exact tmod_nat U.length T
                      have wrm : IntKind.i64.wrap (rm : Int) = (rm : Int) := i64w _ (by have : rm < T := (by rw [hrm]; exact Nat.mod_lt _ (by omega)); omega)
                      clear hrm
                      go_upto_region 22 with fail
                      have SA : Hid (SU gx [.bool wb, .int .u8 wv, .slice (some ⟨g2, o2, none⟩) rd.length rc] wq0.drew) := X2.out
                      refine wp_region_noPanic ?_
                      refine wp_region_held_drew (S := SU gx [.bool wb, .int .u8 wv, .slice (some ⟨g2, o2, none⟩) rd.length rc]) (by kernel_rfl) SA.out (fun _ => ?_)
                      refine wpAnyH_take (i := 0) (oi := { dst := some 120, op := _, type := _, pos := _, after := _, guard := _ }) (v := .pointer (some ⟨gt, 0, none⟩)) rfl (by kernel_rfl) (by kernel_rfl) (by kernel_rfl) (fun _ _ _ h => h) (Or.inl ⟨by rfl, fun W hW => by clear hW; go_simp⟩) SA.out ?_
                      simp only [Act.put, List.setIfInBounds_toArray, List.set_cons_zero, List.set_cons_succ]
                      refine wpAnyH_take (i := 1) (oi := { dst := some 121, op := _, type := _, pos := _, after := _, guard := _ }) (v := .pointer (some ⟨gt, 0, none⟩)) rfl (by kernel_rfl) (by kernel_rfl) (by kernel_rfl) (fun _ _ _ h => h) (Or.inl ⟨by rfl, fun W hW => by clear hW; go_simp⟩) SA.out ?_
                      simp only [Act.put, List.setIfInBounds_toArray, List.set_cons_zero, List.set_cons_succ]
                      refine wpAnyH_take (i := 2) (oi := { dst := some 122, op := _, type := _, pos := _, after := _, guard := _ }) (v := .pointer (some ⟨gt, 0, none⟩)) rfl (by kernel_rfl) (by kernel_rfl) (by kernel_rfl) (fun _ _ _ h => h) (Or.inl ⟨by rfl, fun W hW => by clear hW; go_simp⟩) SA.out ?_
                      simp only [Act.put, List.setIfInBounds_toArray, List.set_cons_zero, List.set_cons_succ]
                      refine wpAnyH_take (i := 3) (oi := { dst := some 123, op := _, type := _, pos := _, after := _, guard := _ }) (v := .pointer (some ⟨gt, 0, none⟩)) rfl (by kernel_rfl) (by kernel_rfl) (by kernel_rfl) (fun _ _ _ h => h) (Or.inl ⟨by rfl, fun W hW => by clear hW; go_simp⟩) SA.out ?_
                      simp only [Act.put, List.setIfInBounds_toArray, List.set_cons_zero, List.set_cons_succ]
                      refine wpAnyH_take (i := 5) (oi := { dst := some 125, op := _, type := _, pos := _, after := _, guard := _ }) (v := .int .i64 (U.length : Int)) rfl (by kernel_rfl) (by kernel_rfl) (by kernel_rfl) (fun _ _ _ h => h) (Or.inl ⟨by rfl, fun W hW => by clear hW; go_simp⟩) SA.out ?_
                      simp only [Act.put, List.setIfInBounds_toArray, List.set_cons_zero, List.set_cons_succ]
                      refine wpAnyH_take (i := 6) (oi := { dst := some 126, op := _, type := _, pos := _, after := _, guard := _ }) (v := .int .i64 (T : Int)) rfl (by kernel_rfl) (by kernel_rfl) (by kernel_rfl) (fun _ _ _ h => h) (Or.inl ⟨by rfl, fun W hW => by clear hW; go_simp⟩) SA.out ?_
                      simp only [Act.put, List.setIfInBounds_toArray, List.set_cons_zero, List.set_cons_succ]
                      refine wpAnyH_take (i := 7) (oi := { dst := some 127, op := _, type := _, pos := _, after := _, guard := _ }) (v := .int .i64 (rm : Int)) rfl (by kernel_rfl) (by kernel_rfl) (by kernel_rfl) (fun _ _ _ h => h) (Or.inl ⟨by rfl, fun W hW => by clear hW; go_simp⟩) SA.out ?_
                      simp only [Act.put, List.setIfInBounds_toArray, List.set_cons_zero, List.set_cons_succ]
                      refine wpAnyH_take (i := 8) (oi := { dst := some 128, op := _, type := _, pos := _, after := _, guard := _ }) (v := .int .i64 (i : Int)) rfl (by kernel_rfl) (by kernel_rfl) (by kernel_rfl) (fun _ _ _ h => h) (Or.inl ⟨by rfl, fun W hW => by clear hW; go_simp⟩) SA.out ?_
                      simp only [Act.put, List.setIfInBounds_toArray, List.set_cons_zero, List.set_cons_succ]
                      refine wpAnyH_take (i := 9) (oi := { dst := some 129, op := _, type := _, pos := _, after := _, guard := _ }) (v := .int .u8 (y : Int)) rfl (by kernel_rfl) (by kernel_rfl) (by kernel_rfl) (fun _ _ _ h => h) (Or.inl ⟨by rfl, fun W hW => by clear hW; go_simp⟩) SA.out ?_
                      simp only [Act.put, List.setIfInBounds_toArray, List.set_cons_zero, List.set_cons_succ]
                      refine wpAnyH_take (i := 10) (oi := { dst := some 130, op := _, type := _, pos := _, after := _, guard := _ }) (v := .int .i64 (T : Int)) rfl (by kernel_rfl) (by kernel_rfl) (by kernel_rfl) (fun _ _ _ h => h) (Or.inl ⟨by rfl, fun W hW => by clear hW; go_simp⟩) SA.out ?_
                      simp only [Act.put, List.setIfInBounds_toArray, List.set_cons_zero, List.set_cons_succ]
                      refine wpAnyH_ready (rs := [4, 11]) (by kernel_rfl) (by simp) ?_
                      refine AllReadyH.cons rfl (fun K hK => ?_) (AllReadyH.cons rfl (fun K hK => ?_) AllReadyH.nil)
                      · have hd : wq0.drew.cell? ⟨gt, 0, none⟩ = some (.slice ua U.length uc) := CB.cell (w := wq0.drew) (i := 0) L2.out.row rfl
                        rw [if_pos (by rfl)]
                        go_simp
                        refine hK.out _ _ SA.out (fun _ => ?_)
                        clear hK K hd
                        refine wpAnyH_ready (rs := [11]) (by kernel_rfl) (by simp) ?_
                        refine AllReadyH.cons rfl (fun K hK => ?_) AllReadyH.nil
                        rw [if_pos (by rfl)]
                        go_simp
                        refine (from4 y T hy255 ⟨hT1, hT2⟩ wq0.drew).mono ?_
                        rintro e wt ⟨rfl, hwt⟩
                        rw [hwt]
                        clear hwt wt
                        refine hK.out _ _ SA.out (fun _ => ?_)
                        clear hK K
                        refine wpAnyH_take (i := 12) (oi := { dst := some 132, op := _, type := _, pos := _, after := _, guard := _ }) (v := .agg (Us.cells (⟨(rm : Int), (i : Int), 0, 0, 9223372036854775807, (-1), frm T y⟩ : Us)).toArray) rfl (by kernel_rfl) (by kernel_rfl) (by kernel_rfl) (fun _ _ _ h => h) (Or.inl ⟨by rfl, fun W hW => exec_build36 rfl rfl rfl rfl W⟩) SA.out ?_
                        simp only [Act.put, List.setIfInBounds_toArray, List.set_cons_zero, List.set_cons_succ]
                        refine wpAnyH_ready (rs := [13]) (by kernel_rfl) (by simp) ?_
                        refine AllReadyH.cons rfl (fun K hK => ?_) AllReadyH.nil
                        refine step_buildUs rfl (.tmp 132) rfl (⟨(rm : Int), (i : Int), 0, 0, 9223372036854775807, (-1), frm T y⟩ : Us) rfl ?_
                        simp only [Act.put, List.setIfInBounds_toArray, List.set_cons_zero, List.set_cons_succ]
                        have SB : Hid (SU gx [.bool wb, .int .u8 wv, .slice (some ⟨g2, o2, none⟩) rd.length rc] (wq0.drew.alloc (.cells (Us.cells (⟨(rm : Int), (i : Int), 0, 0, 9223372036854775807, (-1), frm T y⟩ : Us)).toArray 36))) := CB.alloc (w := wq0.drew) X2.out _
                        refine hK.out _ _ SB.out (fun _ => ?_)
                        clear hK K
                        refine wpAnyH_ready (rs := [14]) (by kernel_rfl) (by simp) ?_
                        refine AllReadyH.cons rfl (fun K hK => ?_) AllReadyH.nil
                        refine step_appendUs wq0.drew rfl (.tmp 124) (.tmp 133) rfl W.heap.size (.slice ua U.length uc) U (⟨(rm : Int), (i : Int), 0, 0, 9223372036854775807, (-1), frm T y⟩ : Us) rfl rfl O2.out.drew (by have := HUL.out; omega) L2.out.bel.drew.size ?_
                        intro v3 w3 hO3 hG3
                        have L3 : Hid (LB W n T gt gs gw gst (.slice ua U.length uc) fs fw2 w3) := L2.out.drew.grown O2.out.drew hG3
                        have X3 : Hid (CB w3 gx 26 [.bool wb, .int .u8 wv, .slice (some ⟨g2, o2, none⟩) rd.length rc]) := CB.grown (w := wq0.drew) X2.out hG3 (own_ne O2.out.drew X2.out (by decide))
                        obtain ⟨U3, hU3⟩ : ∃ U3, U3 = U ++ [(⟨(rm : Int), (i : Int), 0, 0, 9223372036854775807, (-1), frm T y⟩ : Us)] := ⟨_, rfl⟩
                        rw [← hU3] at hO3
                        have HU3 : Hid (U3.map Us.r = U.map Us.r ++ [frm T y]) := by rw [hU3, List.map_append]; rfl
                        have HU3L : Hid (U3.length = U.length + 1) := by rw [hU3, List.length_append]; rfl
                        obtain ⟨va, vc, hv3, hUA3, hvc3⟩ := hO3.lies
                        subst hv3
                        clear hU3 hUA3 hvc3
                        have O3 : Hid (OU W.heap.size w3 (.slice va U3.length vc) U3) := hO3
                        have SC : Hid (SU gx [.bool wb, .int .u8 wv, .slice (some ⟨g2, o2, none⟩) rd.length rc] w3) := X3.out
                        clear hO3 hG3 SB
                        simp only [Act.put, List.setIfInBounds_toArray, List.set_cons_zero, List.set_cons_succ]
                        refine hK.out _ _ SC.out (fun _ => ?_)
                        clear hK K
                        refine wpAnyH_take (i := 15) (oi := { dst := some 135, op := _, type := _, pos := _, after := _, guard := _ }) (v := .pointer (some ⟨gt, 0, none⟩)) rfl (by kernel_rfl) (by kernel_rfl) (by kernel_rfl) (fun _ _ _ h => h) (Or.inl ⟨by rfl, fun W hW => by clear hW; go_simp⟩) SC.out ?_
                        simp only [Act.put, List.setIfInBounds_toArray, List.set_cons_zero, List.set_cons_succ]
                        refine wpAnyH_take (i := 16) (oi := { dst := some 136, op := _, type := _, pos := _, after := _, guard := _ }) (v := .pointer (some ⟨gt, 0, none⟩)) rfl (by kernel_rfl) (by kernel_rfl) (by kernel_rfl) (fun _ _ _ h => h) (Or.inl ⟨by rfl, fun W hW => by clear hW; go_simp⟩) SC.out ?_
                        simp only [Act.put, List.setIfInBounds_toArray, List.set_cons_zero, List.set_cons_succ]
                        refine wpAnyH_ready (rs := [17]) (by kernel_rfl) (by simp) ?_
                        refine AllReadyH.cons rfl (fun K hK => ?_) AllReadyH.nil
                        have k0 : w3.cell? ⟨gt, 0, none⟩ = some (.slice ua U.length uc) := L3.out.row.cell rfl
                        have q0 : w3.frozen? ⟨gt, 0, none⟩ = false := L3.out.row.froz
                        rw [if_pos (by rfl)]
                        go_simp
                        have L4 : Hid (LB W n T gt gs gw gst (.slice va U3.length vc) fs fw2 (w3.setCell ⟨gt, 0, none⟩ (.slice va U3.length vc))) := L3.out.put b1
                        have O4 : Hid (OU W.heap.size (w3.setCell ⟨gt, 0, none⟩ (.slice va U3.length vc)) (.slice va U3.length vc) U3) := O3.out.set L3.out.row (by decide)
                        have X4 : Hid (CB (w3.setCell ⟨gt, 0, none⟩ (.slice va U3.length vc)) gx 26 [.bool wb, .int .u8 wv, .slice (some ⟨g2, o2, none⟩) rd.length rc]) := X3.out.other (CB.apart L3.out.row X3.out (by decide))
                        have SD : Hid (SU gx [.bool wb, .int .u8 wv, .slice (some ⟨g2, o2, none⟩) rd.length rc] (w3.setCell ⟨gt, 0, none⟩ (.slice va U3.length vc))) := X4.out
                        clear k0 q0
                        refine hK.out _ _ SD.out (fun _ => ?_)
                        clear hK K
                        refine wpAnyH_done (by kernel_rfl) ?_ _
                        refine NoPanic.normal ?_
                        have hul : U.length ≤ 77200 := HUL.out
                        go_wp2_with fail
                        go_roundw
                        case rel => exact ⟨k + 1, _, U3, by omega, by simp, by rw [HU3L.out]; rfl, L4.out, O4.out, by rw [HU3.out, HU5.out, List.take_add_one, HY.out]; simp, X4.out⟩
                        case measure => simp [intOf]; omega
                      · rw [if_pos (by rfl)]
                        go_simp
                        refine (from4 y T hy255 ⟨hT1, hT2⟩ wq0.drew).mono ?_
                        rintro e wt ⟨rfl, hwt⟩
                        rw [hwt]
                        clear hwt wt
                        refine hK.out _ _ SA.out (fun _ => ?_)
                        clear hK K
                        refine wpAnyH_take (i := 12) (oi := { dst := some 132, op := _, type := _, pos := _, after := _, guard := _ }) (v := .agg (Us.cells (⟨(rm : Int), (i : Int), 0, 0, 9223372036854775807, (-1), frm T y⟩ : Us)).toArray) rfl (by kernel_rfl) (by kernel_rfl) (by kernel_rfl) (fun _ _ _ h => h) (Or.inl ⟨by rfl, fun W hW => exec_build36 rfl rfl rfl rfl W⟩) SA.out ?_
                        simp only [Act.put, List.setIfInBounds_toArray, List.set_cons_zero, List.set_cons_succ]
                        refine wpAnyH_ready (rs := [4, 13]) (by kernel_rfl) (by simp) ?_
                        refine AllReadyH.cons rfl (fun K hK => ?_) (AllReadyH.cons rfl (fun K hK => ?_) AllReadyH.nil)
                        · have hd : wq0.drew.cell? ⟨gt, 0, none⟩ = some (.slice ua U.length uc) := CB.cell (w := wq0.drew) (i := 0) L2.out.row rfl
                          rw [if_pos (by rfl)]
                          go_simp
                          refine hK.out _ _ SA.out (fun _ => ?_)
                          clear hK K hd
                          refine wpAnyH_ready (rs := [13]) (by kernel_rfl) (by simp) ?_
                          refine AllReadyH.cons rfl (fun K hK => ?_) AllReadyH.nil
                          refine step_buildUs rfl (.tmp 132) rfl (⟨(rm : Int), (i : Int), 0, 0, 9223372036854775807, (-1), frm T y⟩ : Us) rfl ?_
                          simp only [Act.put, List.setIfInBounds_toArray, List.set_cons_zero, List.set_cons_succ]
                          have SB : Hid (SU gx [.bool wb, .int .u8 wv, .slice (some ⟨g2, o2, none⟩) rd.length rc] (wq0.drew.alloc (.cells (Us.cells (⟨(rm : Int), (i : Int), 0, 0, 9223372036854775807, (-1), frm T y⟩ : Us)).toArray 36))) := CB.alloc (w := wq0.drew) X2.out _
                          refine hK.out _ _ SB.out (fun _ => ?_)
                          clear hK K
                          refine wpAnyH_ready (rs := [14]) (by kernel_rfl) (by simp) ?_
                          refine AllReadyH.cons rfl (fun K hK => ?_) AllReadyH.nil
                          refine step_appendUs wq0.drew rfl (.tmp 124) (.tmp 133) rfl W.heap.size (.slice ua U.length uc) U (⟨(rm : Int), (i : Int), 0, 0, 9223372036854775807, (-1), frm T y⟩ : Us) rfl rfl O2.out.drew (by have := HUL.out; omega) L2.out.bel.drew.size ?_
                          intro v3 w3 hO3 hG3
                          have L3 : Hid (LB W n T gt gs gw gst (.slice ua U.length uc) fs fw2 w3) := L2.out.drew.grown O2.out.drew hG3
                          have X3 : Hid (CB w3 gx 26 [.bool wb, .int .u8 wv, .slice (some ⟨g2, o2, none⟩) rd.length rc]) := CB.grown (w := wq0.drew) X2.out hG3 (own_ne O2.out.drew X2.out (by decide))
                          obtain ⟨U3, hU3⟩ : ∃ U3, U3 = U ++ [(⟨(rm : Int), (i : Int), 0, 0, 9223372036854775807, (-1), frm T y⟩ : Us)] := ⟨_, rfl⟩
                          rw [← hU3] at hO3
                          have HU3 : Hid (U3.map Us.r = U.map Us.r ++ [frm T y]) := by rw [hU3, List.map_append]; rfl
                          have HU3L : Hid (U3.length = U.length + 1) := by rw [hU3, List.length_append]; rfl
                          obtain ⟨va, vc, hv3, hUA3, hvc3⟩ := hO3.lies
                          subst hv3
                          clear hU3 hUA3 hvc3
                          have O3 : Hid (OU W.heap.size w3 (.slice va U3.length vc) U3) := hO3
                          have SC : Hid (SU gx [.bool wb, .int .u8 wv, .slice (some ⟨g2, o2, none⟩) rd.length rc] w3) := X3.out
                          clear hO3 hG3 SB
                          simp only [Act.put, List.setIfInBounds_toArray, List.set_cons_zero, List.set_cons_succ]
                          refine hK.out _ _ SC.out (fun _ => ?_)
                          clear hK K
                          refine wpAnyH_take (i := 15) (oi := { dst := some 135, op := _, type := _, pos := _, after := _, guard := _ }) (v := .pointer (some ⟨gt, 0, none⟩)) rfl (by kernel_rfl) (by kernel_rfl) (by kernel_rfl) (fun _ _ _ h => h) (Or.inl ⟨by rfl, fun W hW => by clear hW; go_simp⟩) SC.out ?_
                          simp only [Act.put, List.setIfInBounds_toArray, List.set_cons_zero, List.set_cons_succ]
                          refine wpAnyH_take (i := 16) (oi := { dst := some 136, op := _, type := _, pos := _, after := _, guard := _ }) (v := .pointer (some ⟨gt, 0, none⟩)) rfl (by kernel_rfl) (by kernel_rfl) (by kernel_rfl) (fun _ _ _ h => h) (Or.inl ⟨by rfl, fun W hW => by clear hW; go_simp⟩) SC.out ?_
                          simp only [Act.put, List.setIfInBounds_toArray, List.set_cons_zero, List.set_cons_succ]
                          refine wpAnyH_ready (rs := [17]) (by kernel_rfl) (by simp) ?_
                          refine AllReadyH.cons rfl (fun K hK => ?_) AllReadyH.nil
                          have k0 : w3.cell? ⟨gt, 0, none⟩ = some (.slice ua U.length uc) := L3.out.row.cell rfl
                          have q0 : w3.frozen? ⟨gt, 0, none⟩ = false := L3.out.row.froz
                          rw [if_pos (by rfl)]
                          go_simp
                          have L4 : Hid (LB W n T gt gs gw gst (.slice va U3.length vc) fs fw2 (w3.setCell ⟨gt, 0, none⟩ (.slice va U3.length vc))) := L3.out.put b1
                          have O4 : Hid (OU W.heap.size (w3.setCell ⟨gt, 0, none⟩ (.slice va U3.length vc)) (.slice va U3.length vc) U3) := O3.out.set L3.out.row (by decide)
                          have X4 : Hid (CB (w3.setCell ⟨gt, 0, none⟩ (.slice va U3.length vc)) gx 26 [.bool wb, .int .u8 wv, .slice (some ⟨g2, o2, none⟩) rd.length rc]) := X3.out.other (CB.apart L3.out.row X3.out (by decide))
                          have SD : Hid (SU gx [.bool wb, .int .u8 wv, .slice (some ⟨g2, o2, none⟩) rd.length rc] (w3.setCell ⟨gt, 0, none⟩ (.slice va U3.length vc))) := X4.out
                          clear k0 q0
                          refine hK.out _ _ SD.out (fun _ => ?_)
                          clear hK K
                          refine wpAnyH_done (by kernel_rfl) ?_ _
                          refine NoPanic.normal ?_
                          have hul : U.length ≤ 77200 := HUL.out
                          go_wp2_with fail
                          go_roundw
                          case rel => exact ⟨k + 1, _, U3, by omega, by simp, by rw [HU3L.out]; rfl, L4.out, O4.out, by rw [HU3.out, HU5.out, List.take_add_one, HY.out]; simp, X4.out⟩
                          case measure => simp [intOf]; omega
                        · refine step_buildUs rfl (.tmp 132) rfl (⟨(rm : Int), (i : Int), 0, 0, 9223372036854775807, (-1), frm T y⟩ : Us) rfl ?_
                          simp only [Act.put, List.setIfInBounds_toArray, List.set_cons_zero, List.set_cons_succ]
                          have SB : Hid (SU gx [.bool wb, .int .u8 wv, .slice (some ⟨g2, o2, none⟩) rd.length rc] (wq0.drew.alloc (.cells (Us.cells (⟨(rm : Int), (i : Int), 0, 0, 9223372036854775807, (-1), frm T y⟩ : Us)).toArray 36))) := CB.alloc (w := wq0.drew) X2.out _
                          refine hK.out _ _ SB.out (fun _ => ?_)
                          clear hK K
                          refine wpAnyH_ready (rs := [4]) (by kernel_rfl) (by simp) ?_
                          refine AllReadyH.cons rfl (fun K hK => ?_) AllReadyH.nil
                          have hd : (wq0.alloc (.cells (Us.cells (⟨(rm : Int), (i : Int), 0, 0, 9223372036854775807, (-1), frm T y⟩ : Us)).toArray 36)).cell? ⟨gt, 0, none⟩ = some (.slice ua U.length uc) := CB.cell (i := 0) (CB.alloc (w := wq0) L2.out.row _) rfl
                          rw [if_pos (by rfl)]
                          go_simp
                          refine hK.out _ _ SB.out (fun _ => ?_)
                          clear hK K hd
                          refine wpAnyH_ready (rs := [14]) (by kernel_rfl) (by simp) ?_
                          refine AllReadyH.cons rfl (fun K hK => ?_) AllReadyH.nil
                          refine step_appendUs wq0.drew rfl (.tmp 124) (.tmp 133) rfl W.heap.size (.slice ua U.length uc) U (⟨(rm : Int), (i : Int), 0, 0, 9223372036854775807, (-1), frm T y⟩ : Us) rfl rfl O2.out.drew (by have := HUL.out; omega) L2.out.bel.drew.size ?_
                          intro v3 w3 hO3 hG3
                          have L3 : Hid (LB W n T gt gs gw gst (.slice ua U.length uc) fs fw2 w3) := L2.out.drew.grown O2.out.drew hG3
                          have X3 : Hid (CB w3 gx 26 [.bool wb, .int .u8 wv, .slice (some ⟨g2, o2, none⟩) rd.length rc]) := CB.grown (w := wq0.drew) X2.out hG3 (own_ne O2.out.drew X2.out (by decide))
                          obtain ⟨U3, hU3⟩ : ∃ U3, U3 = U ++ [(⟨(rm : Int), (i : Int), 0, 0, 9223372036854775807, (-1), frm T y⟩ : Us)] := ⟨_, rfl⟩
                          rw [← hU3] at hO3
                          have HU3 : Hid (U3.map Us.r = U.map Us.r ++ [frm T y]) := by rw [hU3, List.map_append]; rfl
                          have HU3L : Hid (U3.length = U.length + 1) := by rw [hU3, List.length_append]; rfl
                          obtain ⟨va, vc, hv3, hUA3, hvc3⟩ := hO3.lies
                          subst hv3
                          clear hU3 hUA3 hvc3
                          have O3 : Hid (OU W.heap.size w3 (.slice va U3.length vc) U3) := hO3
                          have SC : Hid (SU gx [.bool wb, .int .u8 wv, .slice (some ⟨g2, o2, none⟩) rd.length rc] w3) := X3.out
                          clear hO3 hG3 SB
                          simp only [Act.put, List.setIfInBounds_toArray, List.set_cons_zero, List.set_cons_succ]
                          refine hK.out _ _ SC.out (fun _ => ?_)
                          clear hK K
                          refine wpAnyH_take (i := 15) (oi := { dst := some 135, op := _, type := _, pos := _, after := _, guard := _ }) (v := .pointer (some ⟨gt, 0, none⟩)) rfl (by kernel_rfl) (by kernel_rfl) (by kernel_rfl) (fun _ _ _ h => h) (Or.inl ⟨by rfl, fun W hW => by clear hW; go_simp⟩) SC.out ?_
                          simp only [Act.put, List.setIfInBounds_toArray, List.set_cons_zero, List.set_cons_succ]
                          refine wpAnyH_take (i := 16) (oi := { dst := some 136, op := _, type := _, pos := _, after := _, guard := _ }) (v := .pointer (some ⟨gt, 0, none⟩)) rfl (by kernel_rfl) (by kernel_rfl) (by kernel_rfl) (fun _ _ _ h => h) (Or.inl ⟨by rfl, fun W hW => by clear hW; go_simp⟩) SC.out ?_
                          simp only [Act.put, List.setIfInBounds_toArray, List.set_cons_zero, List.set_cons_succ]
                          refine wpAnyH_ready (rs := [17]) (by kernel_rfl) (by simp) ?_
                          refine AllReadyH.cons rfl (fun K hK => ?_) AllReadyH.nil
                          have k0 : w3.cell? ⟨gt, 0, none⟩ = some (.slice ua U.length uc) := L3.out.row.cell rfl
                          have q0 : w3.frozen? ⟨gt, 0, none⟩ = false := L3.out.row.froz
                          rw [if_pos (by rfl)]
                          go_simp
                          have L4 : Hid (LB W n T gt gs gw gst (.slice va U3.length vc) fs fw2 (w3.setCell ⟨gt, 0, none⟩ (.slice va U3.length vc))) := L3.out.put b1
                          have O4 : Hid (OU W.heap.size (w3.setCell ⟨gt, 0, none⟩ (.slice va U3.length vc)) (.slice va U3.length vc) U3) := O3.out.set L3.out.row (by decide)
                          have X4 : Hid (CB (w3.setCell ⟨gt, 0, none⟩ (.slice va U3.length vc)) gx 26 [.bool wb, .int .u8 wv, .slice (some ⟨g2, o2, none⟩) rd.length rc]) := X3.out.other (CB.apart L3.out.row X3.out (by decide))
                          have SD : Hid (SU gx [.bool wb, .int .u8 wv, .slice (some ⟨g2, o2, none⟩) rd.length rc] (w3.setCell ⟨gt, 0, none⟩ (.slice va U3.length vc))) := X4.out
                          clear k0 q0
                          refine hK.out _ _ SD.out (fun _ => ?_)
                          clear hK K
                          refine wpAnyH_done (by kernel_rfl) ?_ _
                          refine NoPanic.normal ?_
                          have hul : U.length ≤ 77200 := HUL.out
                          go_wp2_with fail
                          go_roundw
                          case rel => exact ⟨k + 1, _, U3, by omega, by simp, by rw [HU3L.out]; rfl, L4.out, O4.out, by rw [HU3.out, HU5.out, List.take_add_one, HY.out]; simp, X4.out⟩
                          case measure => simp [intOf]; omega
                  · as_aux_lemma =>
                      obtain rfl : k = rd.length := by omega
                      obtain ⟨va, vc, huv, _, _⟩ := O2.out.lies
                      subst huv
                      have r0 : wr.cell? ⟨gt, 0, none⟩ = some (.slice va U.length vc) := L2.out.row.cell rfl
                      have r1 : wr.cell? ⟨gt, 1, none⟩ = some (.slice (some ⟨gs, 0, none⟩) (n + 1) (n + 1)) := L2.out.row.cell rfl
                      have kw : wr.cell? ⟨gs, i + 1, none⟩ = some (.int .i64 (fs (i + 1))) := L2.out.st.cell (by omega)
                      have qw : wr.frozen? ⟨gs, i + 1, none⟩ = false := CB.froz L2.out.st
                      have hi1 : (i : Int) + 1 < ((n + 1 : Nat) : Int) := by omega
                      obtain ⟨fs2, hfs2⟩ : ∃ fs2 : Nat → Int, fs2 = fun j => if j = i + 1 then (U.length : Int) else fs j := ⟨_, rfl⟩
                      have HUF : Hid (U.map Us.r = FL T (its.take (i + 1))) := by rw [HP1.out, HU5.out, List.take_length]; exact rfl
                      have HFS2 : Hid (∀ j, j ≤ i + 1 → fs2 j = (usF T its j : Int)) := fun j hj => by
                        rw [hfs2]
                        by_cases e : j = i + 1
                        · subst e
                          simp only [if_true]
                          unfold usF
                          rw [← HUF.out, List.length_map]
                        · simp only [e, if_false]; exact HFS.out j (by omega)
                      have L5 : Hid (LB W n T gt gs gw gst (.slice va U.length vc) fs2 fw2 (wr.setCell ⟨gs, i + 1, none⟩ (.int .i64 (U.length : Int))).drew) := by rw [hfs2]; exact (L2.out.setS b2 b4 (i + 1) _).drew
                      have O5 : Hid (OU W.heap.size (wr.setCell ⟨gs, i + 1, none⟩ (.int .i64 (U.length : Int))).drew (.slice va U.length vc) U) := (O2.out.set L2.out.st (by decide)).drew
                      clear hfs2 HFS
                      go_upto_region 25 with fail
                      go_region
                      generalize (wr.setCell ⟨gs, i + 1, none⟩ (.int .i64 (U.length : Int))).drew = w6 at L5 O5 ⊢
                      clear r0 r1 kw qw
                      go_wp2_with fail
                      go_roundw
                      case rel => exact ⟨i + 1, _, U, fs2, fw2, by omega, by simp, rfl, L5.out, O5.out, HUF.out, HFS2.out, HFW2.out⟩
                      case measure => simp [intOf]; omega
            · as_aux_lemma =>
                obtain rfl : n = i := by omega
                obtain ⟨ua, uc, huv, hUA, huc⟩ := O1.out.lies
                subst huv
                have HUF : Hid (U.map Us.r = FL T its) := by
                  have h := HU.out
                  rw [← HN.out, List.take_length] at h
                  exact h
                obtain ⟨t, ht, egt, egs, egw, egst, en, eT, eU, eua, euc⟩ : ∃ t : TB, t = tab gt gs gw gst T its U ua uc ∧ gt = t.gt ∧ gs = t.gs ∧ gw = t.gw ∧ gst = t.gst ∧ n = t.n ∧ T = t.T ∧ U = t.U ∧ ua = t.ua ∧ uc = t.uc := ⟨_, rfl, rfl, rfl, rfl, rfl, HN.out.symm, rfl, rfl, rfl, rfl⟩
                have ok : t.Ok := by rw [ht]; exact tab_ok ⟨hT1, hT2⟩ (by rw [HN.out]; exact hn) HRD.out HUF.out huc
                have HUS : Hid (t.us = usF T its) := by rw [ht]; exact rfl
                have HWE : Hid (t.we = weF T its) := by rw [ht]; exact rfl
                clear ht huc hil hi
                subst egt egs egw egst en eT eU eua euc
                have AT : Hid (t.At wr) := ⟨L1.out.row, FB.congr L1.out.st (fun j hj => by rw [HUS.out]; exact HFS.out j (by omega)), FB.congr L1.out.we (fun j hj => by rw [HWE.out]; exact HFW.out j hj), hUA⟩
                have BW : Hid (Below W.heap.size W wr) := L1.out.bel
                clear hUA L1 O1 HU HFS HFW HUF HUS HWE
                obtain ⟨L, hL⟩ : ∃ L, L = t.U.map Us.r := ⟨_, rfl⟩
                have HL : Hid _ := hL
                have HLU : Hid (∀ (j : Nat) (u : Us), t.U[j]? = some u → L[j]? = some u.r) := fun j u hu => by rw [hL, List.getElem?_map, hu]; rfl
                have HLL : Hid (L.length = t.U.length) := by rw [hL]; exact List.length_map _
                have HLr : Hid (∀ (j : Nat) (x : Int), L[j]? = some x → ∃ u, t.U[j]? = some u ∧ u.r = x) := fun j x hx => by
                  rw [hL, List.getElem?_map] at hx
                  exact Option.map_eq_some_iff.1 hx
                clear hL
                have hlen := ok.len
                obtain ⟨wT, hwT⟩ : ∃ wT, wT = wr := ⟨_, rfl⟩
                rw [← hwT] at AT BW ⊢
                clear hwT
                have kt0 : wT.cell? ⟨t.gt, 0, none⟩ = some (.slice t.ua t.U.length t.uc) := AT.out.row.cell rfl
                go_wp2_with fail
                go_loopw [16, 17, 158] (fun v16 v17 v158 wq => ∃ j : Nat, j ≤ t.U.length ∧ v158 = .int .i64 j ∧ Below wT.heap.size wT wq ∧ OI wT.heap.size wq v16 ((idx L j).map (fun k : Nat => (k : Int)))) (fun _ _ v158 _ => t.U.length - (intOf v158).toNat)
                case atStart => exact ⟨0, by omega, rfl, Below.refl _ _, OI.nil _ _⟩
                case round =>
                  obtain ⟨j, hj, rfl, hB, hO⟩ := hrel
                  have B1 : Hid (Below wT.heap.size wT wr) := hB
                  have O1 : Hid (OI wT.heap.size wr u16 ((idx L j).map (fun k : Nat => (k : Int)))) := hO
                  clear hB hO kt0
                  by_cases hjl : j < t.U.length
                  · as_aux_lemma =>
                      have hjl' : (j : Int) < (t.U.length : Int) := by omega
                      obtain ⟨u, hu⟩ : ∃ u, t.U[j]? = some u := ⟨t.U[j], List.getElem?_eq_getElem hjl⟩
                      obtain ⟨g, o, hua, hg, hr⟩ := (AT.out.below B1.out).uses j u hu
                      have HLj : Hid (L[j]? = some u.r) := HLU.out j u hu
                      have hrf := ok.rf u (List.mem_of_getElem? hu)
                      have kt0 : wr.cell? ⟨t.gt, 0, none⟩ = some (.slice (some ⟨g, o, none⟩) t.U.length t.uc) := by rw [← hua]; exact (AT.out.below B1.out).row.cell rfl
                      have kr : wr.cell? ⟨g, o + j * 7 + 6, none⟩ = some (.int .i64 u.r) := hr 6 _ rfl
                      obtain ⟨rr, hrr⟩ : ∃ rr, u.r = rr := ⟨_, rfl⟩
                      rw [hrr] at HLj hrf kr
                      clear hu hua hg hr hrr
                      by_cases e2 : 0 ≤ rr
                      · have hl2 : ((idx L j).map (fun k : Nat => (k : Int))).length ≤ 10000000 := by have := idx_le L j; rw [List.length_map]; omega
                        have HL2 : Hid _ := hl2
                        clear hl2
                        go_wp2_with (first
                          | (refine gate (some 172) rfl ?_; refine wpList_buildInt rfl (.tmp 171) rfl (j : Int) rfl ?_; simp only [Act.put, List.setIfInBounds_toArray, List.set_cons_zero, List.set_cons_succ])
                          | (refine gate (some 173) rfl ?_; refine wpList_appendInt wr rfl (.tmp 170) (.tmp 172) rfl wT.heap.size u16 _ (j : Int) rfl rfl O1.out HL2.out B1.out.size ?_))
                        intro v1 w7 hO hG hLo
                        have O2 : Hid (OI wT.heap.size w7 v1 ((idx L (j + 1)).map (fun k : Nat => (k : Int)))) := by
                          rw [idx_pos HLj.out e2, List.map_append]; exact hO
                        have B2 : Hid (Below wT.heap.size wT w7) := B1.out.grown hG B1.out.size (fun k hk => (own_tag O1.out hk).1)
                        clear hO hG hLo kt0 kr
                        go_wp2_with fail
                        go_roundw
                        case rel => exact ⟨j + 1, by omega, by simp, B2.out, O2.out⟩
                        case measure => simp [intOf]; omega
                      · have e2' : decide (0 ≤ rr) = false := decide_eq_false e2
                        have O2 : Hid (OI wT.heap.size wr u16 ((idx L (j + 1)).map (fun k : Nat => (k : Int)))) := by rw [idx_neg HLj.out e2]; exact O1.out
                        go_wp2_with fail
                        go_roundw
                        case rel => exact ⟨j + 1, by omega, by simp, B1.out, O2.out⟩
                        case measure => simp [intOf]; omega
                  · obtain rfl : j = t.U.length := by omega
                    have O2 : Hid (OI wT.heap.size wr u16 ((idx L L.length).map (fun k : Nat => (k : Int)))) := by rw [HLL.out]; exact O1.out
                    clear O1 hjl hj
                    obtain ⟨R, hR⟩ : ∃ R, R = idx L L.length := ⟨_, rfl⟩
                    rw [← hR] at O2
                    have HRm : Hid (∀ c ∈ R, ∃ u, t.U[c]? = some u ∧ 0 ≤ u.r) := fun c hc => by
                      rw [hR] at hc
                      have h1 := List.mem_filter.1 hc
                      have h2 : c < L.length := by simpa using h1.1
                      have h3 : 0 ≤ L.getD c (-2) := by simpa using h1.2
                      rw [getD_at (List.getElem?_eq_getElem h2)] at h3
                      obtain ⟨u, hu, hur⟩ := HLr.out c _ (List.getElem?_eq_getElem h2)
                      exact ⟨u, hu, by rw [hur]; exact h3⟩
                    have HRl : Hid (R.length ≤ 77100) := by
                      rw [hR]
                      have := idx_le L L.length
                      rw [HLL.out] at this
                      show (idx L L.length).length ≤ 77100
                      rw [HLL.out]
                      omega
                    clear hR
                    obtain ⟨ra, rc, hrv, _⟩ := O2.out.lies
                    rw [List.length_map] at hrv
                    subst hrv
                    go_upto_if 177 with fail
                    go_cut [18, 20] from 177 to 195 (fun s18 s20 wx => ∃ cs : List Nat, cs.length ≤ 1024 ∧ (∀ c ∈ cs, ∃ u, t.U[c]? = some u ∧ 0 ≤ u.r) ∧ OI wT.heap.size wx s18 (cs.map (fun k : Nat => (k : Int))) ∧ Below wT.heap.size wT wx)
                    case first =>
                      by_cases hR0 : R.length = 0
                      · have hR0' : ¬ (0 : Int) < (R.length : Int) := by omega
                        clear hR0
                        go_wp2_with fail
                        go_meet
                        case rel => exact ⟨[], by simp, fun c hc => by simp at hc, OI.nil _ _, B1.out⟩
                      · have hR0' : (0 : Int) < (R.length : Int) := by omega
                        have hR0n : 0 < R.length := by omega
                        go_wp2_with fail
                        rw [show decide (0 < R.length) = true from decide_eq_true hR0n]
                        go_loopw [18, 20, 180] (fun v18 v20 v180 wq => ∃ (p : Nat) (cs : List Nat), p ≤ nx ∧ v180 = .int .i64 p ∧ cs.length = p ∧ (∀ c ∈ cs, ∃ u, t.U[c]? = some u ∧ 0 ≤ u.r) ∧ OI wT.heap.size wq v18 (cs.map (fun k : Nat => (k : Int))) ∧ OI wT.heap.size wq (.slice ra R.length rc) (R.map (fun k : Nat => (k : Int))) ∧ AP (.slice ra R.length rc) v18 ∧ Below wT.heap.size wT wq) (fun _ _ v180 _ => nx - (intOf v180).toNat)
                        case atStart => exact ⟨0, [], by omega, rfl, rfl, fun c hc => by simp at hc, OI.nil _ _, O2.out, AP_nil _, B1.out⟩
                        case round =>
                          obtain ⟨p, cs, hp, rfl, hcp, hcs, hO, hOR, hAP, hB⟩ := hrel
                          have O3 : Hid (OI wT.heap.size wr u18 (cs.map (fun k : Nat => (k : Int)))) := hO
                          have OR : Hid (OI wT.heap.size wr (.slice ra R.length rc) (R.map (fun k : Nat => (k : Int)))) := hOR
                          have PR : Hid (AP (.slice ra R.length rc) u18) := hAP
                          have B3 : Hid (Below wT.heap.size wT wr) := hB
                          have HCS : Hid (∀ c ∈ cs, ∃ u, t.U[c]? = some u ∧ 0 ≤ u.r) := hcs
                          clear hO hOR hAP hB hcs
                          by_cases hpl : p < nx
                          · as_aux_lemma =>
                              have hpl' : (p : Int) < (nx : Int) := by omega
                              obtain ⟨x, hx1⟩ : ∃ x, xs[p]? = some x := ⟨xs[p]'(by rw [HNX.out]; exact hpl), List.getElem?_eq_getElem _⟩
                              have hx64 : x ≤ 65535 := HXB.out x (List.mem_of_getElem? hx1)
                              obtain ⟨g, o, rfl, hg, hc⟩ := (HX.out.below (BW.out.trans (B3.out.mono BW.out.size))) p x hx1
                              obtain ⟨q, hq⟩ : ∃ q, q = x % R.length := ⟨_, rfl⟩
                              have eq1 : Int.tmod (x : Int) (R.length : Int) = (q : Int) := by rw [hq]; exact tmod_nat x R.length
                              have hqR : q < R.length := by rw [hq]; exact Nat.mod_lt _ (by omega)
                              have hqR' : (q : Int) < (R.length : Int) := by omega
                              have hRz : ¬ ((R.length : Int) = 0) := by omega
                              obtain ⟨c, hc1⟩ : ∃ c, R[q]? = some c := ⟨R[q], List.getElem?_eq_getElem hqR⟩
                              obtain ⟨a9, c9, ha9, hIA⟩ := OR.out.lies
                              obtain ⟨g9, o9, hga, hg9, hc9⟩ := hIA q (c : Int) (by rw [List.getElem?_map, hc1]; rfl)
                              rw [hga] at ha9
                              have hra : ra = some ⟨g9, o9, none⟩ := by simp only [Value.slice.injEq] at ha9; exact ha9.1
                              subst hra
                              have HC1 : Hid (∃ u, t.U[c]? = some u ∧ 0 ≤ u.r) := HRm.out c (List.mem_of_getElem? hc1)
                              have hl2 : (cs.map (fun k : Nat => (k : Int))).length ≤ 10000000 := by rw [List.length_map]; omega
                              have HL2 : Hid _ := hl2
                              clear hx1 hg hq hc1 hIA hga hg9 ha9 hl2
                              go_wp2_with (first
                                | (refine gate (some 193) rfl ?_; refine wpList_buildInt rfl (.tmp 192) rfl (c : Int) rfl ?_; simp only [Act.put, List.setIfInBounds_toArray, List.set_cons_zero, List.set_cons_succ])
                                | (refine gate (some 194) rfl ?_; refine wpList_appendInt wr rfl (.tmp 184) (.tmp 193) rfl wT.heap.size u18 _ (c : Int) rfl rfl O3.out HL2.out B3.out.size ?_))
                              intro v1 w7 hO hG hLo
                              have O4 : Hid (OI wT.heap.size w7 v1 ((cs ++ [c]).map (fun k : Nat => (k : Int)))) := by rw [List.map_append]; exact hO
                              have B4 : Hid (Below wT.heap.size wT w7) := B3.out.grown hG B3.out.size (fun k hk => (own_tag O3.out hk).1)
                              have OR4 : Hid (OI wT.heap.size w7 (.slice (some ⟨g9, o9, none⟩) R.length rc) (R.map (fun k : Nat => (k : Int)))) := own_grown OR.out hG (fun g hg e => PR.out g hg e)
                              have PR4 : Hid (AP (.slice (some ⟨g9, o9, none⟩) R.length rc) v1) := PR.out.right OR.out hLo
                              clear hO hG hLo
                              go_wp2_with fail
                              go_roundw
                              case rel =>
                                refine ⟨p + 1, cs ++ [c], by omega, by simp, by simp [hcp], fun d hd => ?_, O4.out, OR4.out, PR4.out, B4.out⟩
                                rcases List.mem_append.1 hd with hd | hd
                                · exact HCS.out d hd
                                · simp only [List.mem_singleton] at hd; subst hd; exact HC1.out
                              case measure => simp [intOf]; omega
                          · obtain rfl : p = nx := by omega
                            go_wp2_with fail
                            go_meet
                            case rel => exact ⟨cs, by omega, HCS.out, O3.out, B3.out⟩
                    case rest =>
                      obtain ⟨cs, hcl, hcs, hO, hB⟩ := hcut
                      have O5 : Hid (OI wT.heap.size wc u18 (cs.map (fun k : Nat => (k : Int)))) := hO
                      have B5 : Hid (Below wT.heap.size wT wc) := hB
                      have HCS : Hid (∀ c ∈ cs, ∃ u, t.U[c]? = some u ∧ 0 ≤ u.r) := hcs
                      obtain ⟨ca, cc, hcv, hCA⟩ := O5.out.lies
                      rw [List.length_map] at hcv
                      subst hcv
                      have HCA : Hid (IA wc ca (cs.map (fun k : Nat => (k : Int)))) := hCA
                      clear hO hB hcs hCA O2 B1
                      go_wp2_with fail
                      refine (rule5 t ok ca cc cs hcl HCS.out wc (AT.out.below B5.out) HCA.out).mono ?_
                      rintro e wz ⟨gr, go, gb, gi, gs, F, rfl, hV, hFS, hFI, hF⟩
                      rw [← HL.out] at hV hFS hFI hF
                      have V : Hid (NV wc t go gb gr (.slice (some ⟨gi, 0, none⟩) (keys L).length (keys L).length) (.slice (some ⟨gs, 0, none⟩) (t.T + 1) (t.T + 1)) (fun i => (cnt L (t.us i) (t.us (i + 1)) : Int)) (fun s => cs.any (fun c => decide (L.getD c (-2) = (s : Int)))) wz) := hV
                      have FS : Hid (FB wz gs (t.T + 1) (fun j => (pre (keys L) j : Int))) := hFS
                      have FI : Hid (FB wz gi (keys L).length F) := hFI
                      have HF : Hid _ := hF
                      have AZ : Hid (t.At wz) := (AT.out.below B5.out).below hV.bel
                      have BZ : Hid (Below W.heap.size W wz) := (BW.out.trans (B5.out.mono BW.out.size)).trans (hV.bel.mono (Nat.le_trans BW.out.size B5.out.size))
                      have CA : Hid (IA wz ca (cs.map (fun k : Nat => (k : Int)))) := HCA.out.below hV.bel
                      clear hV hFS hFI hF HCA B5 O5
                      have rt : wz.cell? ⟨gr, 0, none⟩ = some (.pointer (some ⟨t.gt, 0, none⟩)) := V.out.row.cell rfl
                      have r1 : wz.cell? ⟨gr, 1, none⟩ = some (.slice (some ⟨gi, 0, none⟩) (keys L).length (keys L).length) := V.out.row.cell rfl
                      have r2 : wz.cell? ⟨gr, 2, none⟩ = some (.slice (some ⟨gs, 0, none⟩) (t.T + 1) (t.T + 1)) := V.out.row.cell rfl
                      have r3 : wz.cell? ⟨gr, 3, none⟩ = some (.slice (some ⟨go, 0, none⟩) t.n t.n) := V.out.row.cell rfl
                      have r5 : wz.cell? ⟨gr, 5, none⟩ = some (.slice (some ⟨gb, 0, none⟩) t.T t.T) := V.out.row.cell rfl
                      have r6 : wz.cell? ⟨gr, 6, none⟩ = some (.pointer none) := V.out.row.cell rfl
                      have kt0 : wz.cell? ⟨t.gt, 0, none⟩ = some (.slice t.ua t.U.length t.uc) := AZ.out.row.cell rfl
                      have kt1 : wz.cell? ⟨t.gt, 1, none⟩ = some (.slice (some ⟨t.gs, 0, none⟩) (t.n + 1) (t.n + 1)) := AZ.out.row.cell rfl
                      have hneq := neq27 wz ⟨t.gt, 0, none⟩
                      go_wp2_with fail
                      clear hneq rt r6
                      go_loopw [23, 24, 25, 243] (fun v23 v24 v25 v243 wq => ∃ i : Nat, i ≤ t.n ∧ v243 = .int .i64 i ∧ wq = wz) (fun _ _ _ v243 _ => t.n - (intOf v243).toNat)
                      case atStart => exact ⟨0, by omega, rfl, rfl⟩
                      case round =>
                        obtain ⟨i, hi, rfl, rfl⟩ := hrel
                        by_cases hil : i < t.n
                        · as_aux_lemma =>
                            have hil' : (i : Int) < (t.n : Int) := by omega
                            have hin1 : (i : Int) < ((t.n + 1 : Nat) : Int) := by omega
                            have hin2 : (i : Int) + 1 < ((t.n + 1 : Nat) : Int) := by omega
                            have s1 : wr.cell? ⟨t.gs, i, none⟩ = some (.int .i64 (t.us i)) := AZ.out.st.cell (by omega)
                            have s2 : wr.cell? ⟨t.gs, i + 1, none⟩ = some (.int .i64 (t.us (i + 1))) := AZ.out.st.cell (by omega)
                            have so : wr.cell? ⟨go, i, none⟩ = some (.int .i64 (cnt L (t.us i) (t.us (i + 1)) : Int)) := V.out.op.cell hil
                            have hmo := ok.mono i hil
                            have htp := ok.top (i + 1) (by omega)
                            go_wp2_with fail
                            go_loopw [24, 25] (fun v24 v25 wq => ∃ j : Nat, t.us i ≤ j ∧ j ≤ t.us (i + 1) ∧ v25 = .int .i64 j ∧ v24 = .int .i64 (cnt L (t.us i) j : Int) ∧ wq = wr) (fun _ v25 _ => t.us (i + 1) - (intOf v25).toNat)
                            case atStart => exact ⟨t.us i, Nat.le_refl _, hmo, rfl, by rw [cnt_self]; rfl, rfl⟩
                            case round =>
                              obtain ⟨j, hj1, hj2, rfl, rfl, rfl⟩ := hrel
                              by_cases hjl : j < t.us (i + 1)
                              · as_aux_lemma =>
                                  have hjl' : (j : Int) < (t.us (i + 1) : Int) := by omega
                                  obtain ⟨u, hu⟩ : ∃ u, t.U[j]? = some u := ⟨t.U[j]'(by omega), List.getElem?_eq_getElem _⟩
                                  obtain ⟨g, o, hua, hg, hr⟩ := AZ.out.uses j u hu
                                  have HLj : Hid (L[j]? = some u.r) := HLU.out j u hu
                                  have kt0' : wr.cell? ⟨t.gt, 0, none⟩ = some (.slice (some ⟨g, o, none⟩) t.U.length t.uc) := by rw [← hua]; exact AZ.out.row.cell rfl
                                  have kr : wr.cell? ⟨g, o + j * 7 + 6, none⟩ = some (.int .i64 u.r) := hr 6 _ rfl
                                  have hjU : (j : Int) < (t.U.length : Int) := by omega
                                  obtain ⟨rr, hrr⟩ : ∃ rr, u.r = rr := ⟨_, rfl⟩
                                  rw [hrr] at HLj kr
                                  have hcl1 := cnt_le L (t.us i) j
                                  rw [HLL.out] at hcl1
                                  clear hu hua hg hr hrr kt0
                                  by_cases e1 : rr = -1
                                  · subst e1
                                    have ec : Hid (cnt L (t.us i) (j + 1) = cnt L (t.us i) j + 1) := cnt_one hj1 HLj.out
                                    go_wp2_with fail
                                    go_roundw
                                    case rel => exact ⟨j + 1, by omega, by omega, by simp, by rw [ec.out]; simp, by first | rfl | trivial⟩
                                    case measure => simp [intOf]; omega
                                  · have e1' : (rr == -1) = false := by simpa using e1
                                    have ec : Hid (cnt L (t.us i) (j + 1) = cnt L (t.us i) j) := cnt_no hj1 HLj.out e1
                                    go_wp2_with fail
                                    go_roundw
                                    case rel => exact ⟨j + 1, by omega, by omega, by simp, by rw [ec.out], by first | rfl | trivial⟩
                                    case measure => simp [intOf]; omega
                              · obtain rfl : j = t.us (i + 1) := by omega
                                go_wp2_with fail
                                go_roundw
                                case rel => exact ⟨i + 1, by omega, by simp, by first | rfl | trivial⟩
                                case measure => simp [intOf]; omega
                        · obtain rfl : i = t.n := by omega
                          go_wp2_with fail
                          go_loopw [26] (fun v26 wq => ∃ s : Nat, s ≤ t.T ∧ v26 = .int .i64 s ∧ wq = wr) (fun v26 _ => t.T - (intOf v26).toNat)
                          case atStart => exact ⟨0, by omega, rfl, rfl⟩
                          case round =>
                            obtain ⟨s, hs, rfl, rfl⟩ := hrel
                            by_cases hsl : s < t.T
                            · as_aux_lemma =>
                                have hsl' : (s : Int) < (t.T : Int) := by omega
                                obtain ⟨bb, hbb⟩ : ∃ bb, bb = cs.any (fun c => decide (L.getD c (-2) = (s : Int))) := ⟨_, rfl⟩
                                have HBo : Hid _ := hbb
                                have sb : wr.cell? ⟨gb, s, none⟩ = some (.bool bb) := by rw [hbb]; exact V.out.bd.cell hsl
                                clear hbb
                                go_wp2_with fail
                                go_loopw [27, 293] (fun v27 v293 wq => ∃ p : Nat, p ≤ cs.length ∧ v293 = .int .i64 p ∧ v27 = .bool ((cs.take p).any (fun c => decide (L.getD c (-2) = (s : Int)))) ∧ wq = wr) (fun _ v293 _ => cs.length - (intOf v293).toNat)
                                case atStart => exact ⟨0, by omega, rfl, rfl, rfl⟩
                                case round =>
                                  obtain ⟨p, hp, rfl, hv, rfl⟩ := hrel
                                  by_cases hpl : p < cs.length
                                  · as_aux_lemma =>
                                      have hpl' : (p : Int) < (cs.length : Int) := by omega
                                      obtain ⟨c, hc⟩ : ∃ c, cs[p]? = some c := ⟨cs[p], List.getElem?_eq_getElem hpl⟩
                                      have HC1 : Hid (cs[p]? = some c) := hc
                                      obtain ⟨u, hu, hu0⟩ := HCS.out c (List.mem_of_getElem? hc)
                                      have HLc : Hid (L[c]? = some u.r) := HLU.out c u hu
                                      have hcU : c < t.U.length := (List.getElem?_eq_some_iff.1 hu).1
                                      have hcU' : (c : Int) < (t.U.length : Int) := by omega
                                      obtain ⟨g1, o1, rfl, hg1, hc1⟩ := CA.out p (c : Int) (by rw [List.getElem?_map, hc]; rfl)
                                      obtain ⟨g, o, hua, hg, hr⟩ := AZ.out.uses c u hu
                                      have kt0' : wr.cell? ⟨t.gt, 0, none⟩ = some (.slice (some ⟨g, o, none⟩) t.U.length t.uc) := by rw [← hua]; exact AZ.out.row.cell rfl
                                      have kr : wr.cell? ⟨g, o + c * 7 + 6, none⟩ = some (.int .i64 u.r) := hr 6 _ rfl
                                      obtain ⟨rr, hrr⟩ : ∃ rr, u.r = rr := ⟨_, rfl⟩
                                      rw [hrr] at HLc kr
                                      have HA : Hid ((cs.take (p + 1)).any (fun c => decide (L.getD c (-2) = (s : Int))) = ((cs.take p).any (fun c => decide (L.getD c (-2) = (s : Int))) || decide (rr = (s : Int)))) := by
                                        rw [any_succ HC1.out, getD_at HLc.out]; exact rfl
                                      have HV : Hid _ := hv
                                      clear hc hu hu0 hg1 hua hg hr hrr hv kt0
                                      by_cases e1 : rr = (s : Int)
                                      · subst e1
                                        go_wp2_with fail
                                        go_roundw
                                        case rel => exact ⟨p + 1, by omega, by simp, by rw [HA.out]; simp, by first | rfl | trivial⟩
                                        case measure => simp [intOf]; omega
                                      · have e1' : (rr == (s : Int)) = false := by simpa using e1
                                        go_wp2_with fail
                                        go_roundw
                                        case rel => exact ⟨p + 1, by omega, by simp, by rw [HA.out, HV.out]; simp [e1], by first | rfl | trivial⟩
                                        case measure => simp [intOf]; omega
                                  · obtain rfl : p = cs.length := by omega
                                    rw [List.take_length, ← HBo.out] at hv
                                    subst hv
                                    go_wp2_with fail
                                    go_roundw
                                    case rel => exact ⟨s + 1, by omega, by simp, by first | rfl | trivial⟩
                                    case measure => simp [intOf]; omega
                            · as_aux_lemma =>
                                obtain rfl : s = t.T := by omega
                                have HKT : Hid (∀ k ∈ keys L, k < t.T) := keys_lt fun x hx => by
                                  rw [HL.out] at hx
                                  obtain ⟨u, hu, rfl⟩ := List.mem_map.1 hx
                                  exact (ok.rf u hu).2
                                obtain ⟨m, hm⟩ : ∃ m, m = (keys L).length := ⟨_, rfl⟩
                                have HMm : Hid (m = (keys L).length) := hm
                                have hml : m ≤ 77100 := by
                                  have := nn_le L L.length
                                  rw [List.take_length, HLL.out] at this
                                  rw [hm, len_keys]; omega
                                have FI2 : Hid (FB wr gi m F) := by rw [hm]; exact FI.out
                                have r1' : wr.cell? ⟨gr, 1, none⟩ = some (.slice (some ⟨gi, 0, none⟩) m m) := by rw [hm]; exact r1
                                have g0 : wr.cell? ⟨gs, 0, none⟩ = some (.int .i64 0) := by
                                  have := FS.out.cell (i := 0) (by omega)
                                  rw [pre_zero] at this; exact this
                                have gT : wr.cell? ⟨gs, t.T, none⟩ = some (.int .i64 (m : Int)) := by
                                  have := FS.out.cell (i := t.T) (by omega)
                                  rw [pre_top HKT.out, ← hm] at this; exact this
                                have h0T : (0 : Int) < ((t.T + 1 : Nat) : Int) := by omega
                                have hTT : (t.T : Int) < ((t.T + 1 : Nat) : Int) := by omega
                                clear hm r1 FI
                                go_upto_region 71 with fail
                                go_quiet (fail)
                                have BY : Hid (Below wr.heap.size wr (wr.drewN nq)) := below_drewN _ _
                                obtain ⟨wY, hwY⟩ : ∃ wY, wY = wr.drewN nq := ⟨_, rfl⟩
                                rw [← hwY] at BY ⊢
                                have AY : Hid (t.At wY) := AZ.out.below BY.out
                                have FSY : Hid (FB wY gs (t.T + 1) (fun j => (pre (keys L) j : Int))) := FB.below FS.out BY.out FS.out.lt
                                have FIY : Hid (FB wY gi m F) := FB.below FI2.out BY.out FI2.out.lt
                                have RY : Hid (CB wY gr 44 (rw44 t.gt go gb t.n t.T (.slice (some ⟨gi, 0, none⟩) m m) (.slice (some ⟨gs, 0, none⟩) (t.T + 1) (t.T + 1)))) := by
                                  rw [HMm.out]; exact V.out.row.below BY.out V.out.row.lt
                                have BWY : Hid (Below W.heap.size W wY) := BZ.out.trans (BY.out.mono BZ.out.size)
                                clear hwY r1' r2 r3 r5 kt0 kt1 g0 gT BY FS FI2 V AZ BZ
                                go_wp2_with fail
                                go_loopw [31] (fun v31 wq => ∃ s : Nat, s ≤ t.T ∧ v31 = .int .i64 s ∧ Below wY.heap.size wY wq) (fun v31 _ => t.T - (intOf v31).toNat)
                                case atStart => exact ⟨0, by omega, rfl, Below.refl _ _⟩
                                case round =>
                                  obtain ⟨s, hs2, rfl, hB⟩ := hrel
                                  have B6 : Hid (Below wY.heap.size wY wr) := hB
                                  clear hB
                                  by_cases hsl : s < t.T
                                  · as_aux_lemma =>
                                      have hsl' : (s : Int) < (t.T : Int) := by omega
                                      have p1 : wr.cell? ⟨gs, s, none⟩ = some (.int .i64 (pre (keys L) s : Int)) := (FB.below FSY.out B6.out FSY.out.lt).cell (by omega)
                                      have p2 : wr.cell? ⟨gs, s + 1, none⟩ = some (.int .i64 (pre (keys L) (s + 1) : Int)) := (FB.below FSY.out B6.out FSY.out.lt).cell (by omega)
                                      have hs1 : (s : Int) < ((t.T + 1 : Nat) : Int) := by omega
                                      have hs3 : (s : Int) + 1 < ((t.T + 1 : Nat) : Int) := by omega
                                      go_upto_region 76 with fail
                                      go_quiet (fail)
                                      have B7 : Hid (Below wY.heap.size wY (wr.drewN nq)) := B6.out.trans ((below_drewN wr nq).mono B6.out.size)
                                      generalize wr.drewN nq = w5 at B7 ⊢
                                      clear p1 p2 B6
                                      obtain ⟨a, ha⟩ : ∃ a, a = pre (keys L) s := ⟨_, rfl⟩
                                      obtain ⟨b, hb⟩ : ∃ b, b = pre (keys L) (s + 1) := ⟨_, rfl⟩
                                      rw [← ha, ← hb]
                                      have hab : a ≤ b := by rw [ha, hb]; exact pre_mono (by omega)
                                      have hbm : b ≤ m := by rw [hb, HMm.out]; exact pre_le _ _
                                      have HA : Hid (a = pre (keys L) s) := ha
                                      have hcnt : L.count (s : Int) = b - a := by rw [ha, hb, pre_succ, count_keys]; omega
                                      have HCnt : Hid _ := hcnt
                                      clear ha hb hcnt
                                      have q1 : w5.cell? ⟨gr, 1, none⟩ = some (.slice (some ⟨gi, 0, none⟩) m m) := (RY.out.below B7.out RY.out.lt).cell rfl
                                      have n1 : ¬ (a : Int) < 0 := by omega
                                      have n2 : ¬ (b : Int) < (a : Int) := by omega
                                      have n3 : ¬ (m : Int) < (b : Int) := by omega
                                      go_upto_region 80 with fail
                                      have HGot : Hid (∀ p, a + p < b → ∃ g o, (if m = a then some (⟨gi, 0, none⟩ : Addr) else some ⟨gi, a, none⟩) = some ⟨g, o, none⟩ ∧ ∀ wq, Below wY.heap.size wY wq → wq.cell? ⟨g, o + p, none⟩ = some (.int .i64 (F (a + p)))) := fun p hp => by
                                        rw [if_neg (by omega)]
                                        exact ⟨gi, a, rfl, fun wq hq => (FB.below FIY.out hq FIY.out.lt).cell (by omega)⟩
                                      generalize (if m = a then some (⟨gi, 0, none⟩ : Addr) else some ⟨gi, a, none⟩) = got at HGot ⊢
                                      obtain ⟨d, hd⟩ : ∃ d, d = b - a := ⟨_, rfl⟩
                                      rw [← hd]
                                      have HD : Hid (L.count (s : Int) = d) := by rw [hd]; exact HCnt.out
                                      have HDb : Hid (b = a + d) := by show b = a + d; omega
                                      have hd2 : d ≤ 77100 := by omega
                                      have kt5 : w5.cell? ⟨t.gt, 0, none⟩ = some (.slice t.ua t.U.length t.uc) := (AY.out.below B7.out).row.cell rfl
                                      clear hd n1 n2 n3 q1 hab hbm HCnt
                                      go_wp2_with fail
                                      clear kt5
                                      go_loopw [35, 36, 390] (fun v35 v36 v390 wq => ∃ (j kk : Nat), j ≤ t.U.length ∧ v390 = .int .i64 j ∧ kk = (L.take j).count (s : Int) ∧ v35 = .int .i64 kk ∧ wq = w5) (fun _ _ v390 _ => t.U.length - (intOf v390).toNat)
                                      case atStart => exact ⟨0, 0, by omega, rfl, by simp, rfl, rfl⟩
                                      case round =>
                                        obtain ⟨j, kk, hj, rfl, hkk, rfl, rfl⟩ := hrel
                                        have HKK : Hid (kk = (L.take j).count (s : Int)) := hkk
                                        clear hkk
                                        by_cases hjl : j < t.U.length
                                        · as_aux_lemma =>
                                            have hjl' : (j : Int) < (t.U.length : Int) := by omega
                                            obtain ⟨u, hu⟩ : ∃ u, t.U[j]? = some u := ⟨t.U[j], List.getElem?_eq_getElem hjl⟩
                                            obtain ⟨g, o, hua, hg, hr⟩ := (AY.out.below B7.out).uses j u hu
                                            have HLj : Hid (L[j]? = some u.r) := HLU.out j u hu
                                            have kt0 : wr.cell? ⟨t.gt, 0, none⟩ = some (.slice (some ⟨g, o, none⟩) t.U.length t.uc) := by rw [← hua]; exact (AY.out.below B7.out).row.cell rfl
                                            have kr : wr.cell? ⟨g, o + j * 7 + 6, none⟩ = some (.int .i64 u.r) := hr 6 _ rfl
                                            obtain ⟨rr, hrr⟩ : ∃ rr, u.r = rr := ⟨_, rfl⟩
                                            rw [hrr] at HLj kr
                                            clear hu hua hg hr hrr
                                            by_cases e1 : rr = (s : Int)
                                            · subst e1
                                              have hk1 : kk < d := by rw [HKK.out, ← HD.out]; exact count_take_int HLj.out
                                              obtain ⟨g2, o2, rfl, hcell⟩ := HGot.out kk (by have := HDb.out; omega)
                                              have kg : wr.cell? ⟨g2, o2 + kk, none⟩ = some (.int .i64 (j : Int)) := by
                                                rw [hcell wr B7.out]
                                                have h1 := HF.out _ _ (idx_at HLj.out (by omega))
                                                rw [pos_at HLj.out, ← HKK.out, ← HA.out] at h1
                                                rw [h1]
                                              have hk2 : decide ((d : Int) ≤ (kk : Int)) = false := decide_eq_false (by omega)
                                              have hk3 : (kk : Int) < (d : Int) := by omega
                                              have HK2 : Hid (kk + 1 = (L.take (j + 1)).count (s : Int)) := by
                                                show kk + 1 = (L.take (j + 1)).count (s : Int)
                                                rw [take_succ' HLj.out, List.count_append, ← HKK.out]; simp
                                              clear hcell
                                              go_wp2_with fail
                                              go_roundw
                                              case rel => exact ⟨j + 1, kk + 1, by omega, by simp, HK2.out, by simp, by first | rfl | trivial⟩
                                              case measure => simp [intOf]; omega
                                            · have e1' : (rr == (s : Int)) = false := by simpa using e1
                                              have HK2 : Hid (kk = (L.take (j + 1)).count (s : Int)) := by
                                                show kk = (L.take (j + 1)).count (s : Int)
                                                rw [take_succ' HLj.out, List.count_append, ← HKK.out]
                                                simp [List.count_cons, e1]
                                              go_wp2_with fail
                                              go_roundw
                                              case rel => exact ⟨j + 1, kk, by omega, by simp, HK2.out, rfl, by first | rfl | trivial⟩
                                              case measure => simp [intOf]; omega
                                        · obtain rfl : j = t.U.length := by omega
                                          have hkd : kk = d := by rw [HKK.out, ← HLL.out, List.take_length]; exact HD.out
                                          subst hkd
                                          go_wp2_with fail
                                          go_roundw
                                          case rel => exact ⟨s + 1, by omega, by simp, B7.out⟩
                                          case measure => simp [intOf]; omega
                                  · as_aux_lemma =>
                                      obtain rfl : s = t.T := by omega
                                      go_wp2_with fail
                                      go_ret
                                      exact ⟨rfl, BWY.out.trans (B6.out.mono BWY.out.size)⟩
end Go.Proofs.YbulkdfeeGreatDoor
