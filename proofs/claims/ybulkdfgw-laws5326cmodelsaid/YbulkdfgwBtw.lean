import Derived.Test.YbulkdfgwPeer
namespace Go.Proofs.Ybulkdfgw
open Go.ChangeShapes Go.WideShapes Go.ChangeAt Go.RowKit
set_option linter.unusedVariables false
set_option linter.unusedSimpArgs false

/-- Three boxes. -/
def R3 (g0 g1 g2 : Nat) (x y z : List Value) (w : World) : Prop := w.rangeAt g0 0 x ∧ w.rangeAt g1 0 y ∧ w.rangeAt g2 0 z ∧ g0 < w.heap.size ∧ g1 < w.heap.size ∧ g2 < w.heap.size
theorem rangeAt_blk {w w1 : World} {b o : Nat} {cs : List Value} (e : w1.heap[b]? = w.heap[b]?) (h : w.rangeAt b o cs) : w1.rangeAt b o cs := fun j v hv => by
  rw [World.cell?_of_block (w := w) (by simpa using e)]; exact h j v hv
theorem R3.below {g0 g1 g2 : Nat} {x y z : List Value} {w w' : World} (h : R3 g0 g1 g2 x y z w) (hB : Below w.heap.size w w') : R3 g0 g1 g2 x y z w' := by
  obtain ⟨h0, h1, h2, l0, l1, l2⟩ := h
  have := hB.size
  exact ⟨rangeAt_blk (hB.block _ l0) h0, rangeAt_blk (hB.block _ l1) h1, rangeAt_blk (hB.block _ l2) h2, by omega, by omega, by omega⟩
theorem range_of_blk {w : World} {g : Nat} {cs : List Value} {t : TypeId} {fr : Nat × Nat} (h : w.heap[g]? = some (.cells cs.toArray t fr)) : w.rangeAt g 0 cs := fun j u hu => by
  simp only [World.cell?, h]
  simpa using hu
theorem r3_boxes (w : World) (x y z : List Value) (t0 t1 t2 : TypeId) : ∀ w3, w3 = ((w.alloc (.cells x.toArray t0)).alloc (.cells y.toArray t1)).alloc (.cells z.toArray t2) →
    Below w.heap.size w w3 ∧ R3 w.heap.size (w.heap.size + 1) (w.heap.size + 2) x y z w3 := by
  intro w3 h
  subst h
  have e1 : (w.alloc (.cells x.toArray t0)).heap.size = w.heap.size + 1 := by simp
  have e2 : ((w.alloc (.cells x.toArray t0)).alloc (.cells y.toArray t1)).heap.size = w.heap.size + 2 := by simp
  have n1 := heap_alloc_new w (.cells x.toArray t0)
  have n2 := heap_alloc_new (w.alloc (.cells x.toArray t0)) (.cells y.toArray t1)
  have n3 := heap_alloc_new ((w.alloc (.cells x.toArray t0)).alloc (.cells y.toArray t1)) (.cells z.toArray t2)
  rw [e1] at n2
  rw [e2] at n3
  have m1 : (((w.alloc (.cells x.toArray t0)).alloc (.cells y.toArray t1)).alloc (.cells z.toArray t2)).heap[w.heap.size]? = some (.cells x.toArray t0 (0, 0)) := by
    rw [Below.heap_alloc _ _ _ (by omega), Below.heap_alloc _ _ _ (by omega)]; exact n1
  have m2 : (((w.alloc (.cells x.toArray t0)).alloc (.cells y.toArray t1)).alloc (.cells z.toArray t2)).heap[w.heap.size + 1]? = some (.cells y.toArray t1 (0, 0)) := by
    rw [Below.heap_alloc _ _ _ (by omega)]; exact n2
  exact ⟨(((Below.refl _ w).alloc (Nat.le_refl _) _).alloc (by omega) _).alloc (by omega) _, range_of_blk m1, range_of_blk m2, range_of_blk n3, by simp; omega, by simp, by simp⟩

set_option maxHeartbeats 1000000 in
theorem btw17 (x a b : List UInt8) (hx : x.length = 20) (ha : a.length = 20) (hb : b.length = 20) (w : World) :
    Calls Yba.prog 17 #[.agg (idC x).toArray, .agg (idC a).toArray, .agg (idC b).toArray] w fun e w' => e = .returned (.bool (btw x a b)) ∧ Below w.heap.size w w' := by
  obtain ⟨hB3, hR3⟩ := r3_boxes w (idC x) (idC a) (idC b) 65 65 65 _ rfl
  have HB0 : Hid _ := hB3
  have HR0 : Hid (R3 w.heap.size (w.heap.size + 1) (w.heap.size + 2) (idC x) (idC a) (idC b) _) := hR3
  clear hB3 hR3
  go_enter Yba.func17, Yba.ntmps17
  go_wp2_with (first
    | (refine gate (some 7) rfl ?_; refine wpList_val rfl (.agg (idC a).toArray) (exec_load 65 (.tmp 4) rfl (w.heap.size + 1) 0 rfl (idC a) _ HR0.out.2.1 Yba.underlying65 rfl (by rw [sz65, len_idC, ha])) ?_; simp only [Act.put, List.setIfInBounds_toArray, List.set_cons_zero, List.set_cons_succ])
    | (refine gate (some 8) rfl ?_; refine wpList_val rfl (.agg (idC b).toArray) (exec_load 65 (.tmp 5) rfl (w.heap.size + 2) 0 rfl (idC b) _ HR0.out.2.2.1 Yba.underlying65 rfl (by rw [sz65, len_idC, hb])) ?_; simp only [Act.put, List.setIfInBounds_toArray, List.set_cons_zero, List.set_cons_succ]))
  refine (cmp26 a b ha hb _).mono ?_
  rintro e w1 ⟨rfl, hB1⟩
  have HR1 : Hid (R3 w.heap.size (w.heap.size + 1) (w.heap.size + 2) (idC x) (idC a) (idC b) w1) := HR0.out.below hB1
  have HB1 : Hid (Below w.heap.size w w1) := HB0.out.trans (hB1.mono HB0.out.size)
  clear hB1
  by_cases c1 : cmpI a b < 0
  · have d1 : decide (cmpI a b < 0) = true := by simp [c1]
    go_wp2_with (first
      | (refine gate (some 11) rfl ?_; refine wpList_val rfl (.agg (idC a).toArray) (exec_load 65 (.tmp 4) rfl (w.heap.size + 1) 0 rfl (idC a) _ HR1.out.2.1 Yba.underlying65 rfl (by rw [sz65, len_idC, ha])) ?_; simp only [Act.put, List.setIfInBounds_toArray, List.set_cons_zero, List.set_cons_succ])
      | (refine gate (some 12) rfl ?_; refine wpList_val rfl (.agg (idC x).toArray) (exec_load 65 (.tmp 3) rfl w.heap.size 0 rfl (idC x) _ HR1.out.1 Yba.underlying65 rfl (by rw [sz65, len_idC, hx])) ?_; simp only [Act.put, List.setIfInBounds_toArray, List.set_cons_zero, List.set_cons_succ]))
    refine (cmp26 a x ha hx _).mono ?_
    rintro e w2 ⟨rfl, hB2⟩
    have HR2 : Hid (R3 w.heap.size (w.heap.size + 1) (w.heap.size + 2) (idC x) (idC a) (idC b) w2) := HR1.out.below hB2
    have HB2 : Hid (Below w.heap.size w w2) := HB1.out.trans (hB2.mono HB1.out.size)
    clear hB2
    by_cases c2 : cmpI a x < 0
    · have d2 : decide (cmpI a x < 0) = true := decide_eq_true c2
      go_wp2_with (first
        | (refine gate (some 16) rfl ?_; refine wpList_val rfl (.agg (idC x).toArray) (exec_load 65 (.tmp 3) rfl w.heap.size 0 rfl (idC x) _ HR2.out.1 Yba.underlying65 rfl (by rw [sz65, len_idC, hx])) ?_; simp only [Act.put, List.setIfInBounds_toArray, List.set_cons_zero, List.set_cons_succ])
        | (refine gate (some 17) rfl ?_; refine wpList_val rfl (.agg (idC b).toArray) (exec_load 65 (.tmp 5) rfl (w.heap.size + 2) 0 rfl (idC b) _ HR2.out.2.2.1 Yba.underlying65 rfl (by rw [sz65, len_idC, hb])) ?_; simp only [Act.put, List.setIfInBounds_toArray, List.set_cons_zero, List.set_cons_succ]))
      refine (cmp26 x b hx hb _).mono ?_
      rintro e w3 ⟨rfl, hB3⟩
      have HR3 : Hid (R3 w.heap.size (w.heap.size + 1) (w.heap.size + 2) (idC x) (idC a) (idC b) w3) := HR2.out.below hB3
      have HB3 : Hid (Below w.heap.size w w3) := HB2.out.trans (hB3.mono HB2.out.size)
      clear hB3
      go_wp2_with fail
      go_ret
      exact ⟨by unfold btw; rw [if_pos (show cmpI a b < 0 by omega), d2]; simp, HB3.out⟩
    · have d2 : decide (cmpI a x < 0) = false := decide_eq_false c2
      go_wp2_with fail
      go_ret
      exact ⟨by unfold btw; rw [if_pos (show cmpI a b < 0 by omega), d2]; simp, HB2.out⟩
  · have d1 : decide (cmpI a b < 0) = false := decide_eq_false c1
    go_wp2_with (first
      | (refine gate (some 21) rfl ?_; refine wpList_val rfl (.agg (idC a).toArray) (exec_load 65 (.tmp 4) rfl (w.heap.size + 1) 0 rfl (idC a) _ HR1.out.2.1 Yba.underlying65 rfl (by rw [sz65, len_idC, ha])) ?_; simp only [Act.put, List.setIfInBounds_toArray, List.set_cons_zero, List.set_cons_succ])
      | (refine gate (some 22) rfl ?_; refine wpList_val rfl (.agg (idC x).toArray) (exec_load 65 (.tmp 3) rfl w.heap.size 0 rfl (idC x) _ HR1.out.1 Yba.underlying65 rfl (by rw [sz65, len_idC, hx])) ?_; simp only [Act.put, List.setIfInBounds_toArray, List.set_cons_zero, List.set_cons_succ]))
    refine (cmp26 a x ha hx _).mono ?_
    rintro e w2 ⟨rfl, hB2⟩
    have HR2 : Hid (R3 w.heap.size (w.heap.size + 1) (w.heap.size + 2) (idC x) (idC a) (idC b) w2) := HR1.out.below hB2
    have HB2 : Hid (Below w.heap.size w w2) := HB1.out.trans (hB2.mono HB1.out.size)
    clear hB2
    by_cases c2 : cmpI a x < 0
    · have d2 : decide (cmpI a x < 0) = true := decide_eq_true c2
      go_wp2_with fail
      go_ret
      exact ⟨by unfold btw; rw [if_neg (show ¬ cmpI a b < 0 by omega), d2]; simp, HB2.out⟩
    · have d2 : decide (cmpI a x < 0) = false := decide_eq_false c2
      go_wp2_with (first
        | (refine gate (some 26) rfl ?_; refine wpList_val rfl (.agg (idC x).toArray) (exec_load 65 (.tmp 3) rfl w.heap.size 0 rfl (idC x) _ HR2.out.1 Yba.underlying65 rfl (by rw [sz65, len_idC, hx])) ?_; simp only [Act.put, List.setIfInBounds_toArray, List.set_cons_zero, List.set_cons_succ])
        | (refine gate (some 27) rfl ?_; refine wpList_val rfl (.agg (idC b).toArray) (exec_load 65 (.tmp 5) rfl (w.heap.size + 2) 0 rfl (idC b) _ HR2.out.2.2.1 Yba.underlying65 rfl (by rw [sz65, len_idC, hb])) ?_; simp only [Act.put, List.setIfInBounds_toArray, List.set_cons_zero, List.set_cons_succ]))
      refine (cmp26 x b hx hb _).mono ?_
      rintro e w3 ⟨rfl, hB3⟩
      have HR3 : Hid (R3 w.heap.size (w.heap.size + 1) (w.heap.size + 2) (idC x) (idC a) (idC b) w3) := HR2.out.below hB3
      have HB3 : Hid (Below w.heap.size w w3) := HB2.out.trans (hB3.mono HB2.out.size)
      clear hB3
      go_wp2_with fail
      go_ret
      exact ⟨by unfold btw; rw [if_neg (show ¬ cmpI a b < 0 by omega), d2]; simp, HB3.out⟩

set_option maxHeartbeats 1000000 in
theorem btw30 (x a b : List UInt8) (hx : x.length = 20) (ha : a.length = 20) (hb : b.length = 20) (w : World) :
    Calls Yba.prog 30 #[.agg (idC x).toArray, .agg (idC a).toArray, .agg (idC b).toArray] w fun e w' => e = .returned (.bool (btw x a b)) ∧ Below w.heap.size w w' := by
  obtain ⟨hB3, hR3⟩ := r3_boxes w (idC x) (idC a) (idC b) 65 65 65 _ rfl
  have HB0 : Hid _ := hB3
  have HR0 : Hid (R3 w.heap.size (w.heap.size + 1) (w.heap.size + 2) (idC x) (idC a) (idC b) _) := hR3
  clear hB3 hR3
  go_enter Yba.func30, Yba.ntmps30
  go_wp2_with (first
    | (refine gate (some 7) rfl ?_; refine wpList_val rfl (.agg (idC a).toArray) (exec_load 65 (.tmp 4) rfl (w.heap.size + 1) 0 rfl (idC a) _ HR0.out.2.1 Yba.underlying65 rfl (by rw [sz65, len_idC, ha])) ?_; simp only [Act.put, List.setIfInBounds_toArray, List.set_cons_zero, List.set_cons_succ])
    | (refine gate (some 8) rfl ?_; refine wpList_val rfl (.agg (idC b).toArray) (exec_load 65 (.tmp 5) rfl (w.heap.size + 2) 0 rfl (idC b) _ HR0.out.2.2.1 Yba.underlying65 rfl (by rw [sz65, len_idC, hb])) ?_; simp only [Act.put, List.setIfInBounds_toArray, List.set_cons_zero, List.set_cons_succ]))
  refine (cmp32 a b ha hb _).mono ?_
  rintro e w1 ⟨rfl, hB1⟩
  have HR1 : Hid (R3 w.heap.size (w.heap.size + 1) (w.heap.size + 2) (idC x) (idC a) (idC b) w1) := HR0.out.below hB1
  have HB1 : Hid (Below w.heap.size w w1) := HB0.out.trans (hB1.mono HB0.out.size)
  clear hB1
  by_cases c1 : cmpI a b < 0
  · have d1 : decide (cmpI a b < 0) = true := by simp [c1]
    go_wp2_with (first
      | (refine gate (some 11) rfl ?_; refine wpList_val rfl (.agg (idC a).toArray) (exec_load 65 (.tmp 4) rfl (w.heap.size + 1) 0 rfl (idC a) _ HR1.out.2.1 Yba.underlying65 rfl (by rw [sz65, len_idC, ha])) ?_; simp only [Act.put, List.setIfInBounds_toArray, List.set_cons_zero, List.set_cons_succ])
      | (refine gate (some 12) rfl ?_; refine wpList_val rfl (.agg (idC x).toArray) (exec_load 65 (.tmp 3) rfl w.heap.size 0 rfl (idC x) _ HR1.out.1 Yba.underlying65 rfl (by rw [sz65, len_idC, hx])) ?_; simp only [Act.put, List.setIfInBounds_toArray, List.set_cons_zero, List.set_cons_succ]))
    refine (cmp32 a x ha hx _).mono ?_
    rintro e w2 ⟨rfl, hB2⟩
    have HR2 : Hid (R3 w.heap.size (w.heap.size + 1) (w.heap.size + 2) (idC x) (idC a) (idC b) w2) := HR1.out.below hB2
    have HB2 : Hid (Below w.heap.size w w2) := HB1.out.trans (hB2.mono HB1.out.size)
    clear hB2
    by_cases c2 : cmpI a x < 0
    · have d2 : decide (cmpI a x < 0) = true := decide_eq_true c2
      go_wp2_with (first
        | (refine gate (some 16) rfl ?_; refine wpList_val rfl (.agg (idC x).toArray) (exec_load 65 (.tmp 3) rfl w.heap.size 0 rfl (idC x) _ HR2.out.1 Yba.underlying65 rfl (by rw [sz65, len_idC, hx])) ?_; simp only [Act.put, List.setIfInBounds_toArray, List.set_cons_zero, List.set_cons_succ])
        | (refine gate (some 17) rfl ?_; refine wpList_val rfl (.agg (idC b).toArray) (exec_load 65 (.tmp 5) rfl (w.heap.size + 2) 0 rfl (idC b) _ HR2.out.2.2.1 Yba.underlying65 rfl (by rw [sz65, len_idC, hb])) ?_; simp only [Act.put, List.setIfInBounds_toArray, List.set_cons_zero, List.set_cons_succ]))
      refine (cmp32 x b hx hb _).mono ?_
      rintro e w3 ⟨rfl, hB3⟩
      have HR3 : Hid (R3 w.heap.size (w.heap.size + 1) (w.heap.size + 2) (idC x) (idC a) (idC b) w3) := HR2.out.below hB3
      have HB3 : Hid (Below w.heap.size w w3) := HB2.out.trans (hB3.mono HB2.out.size)
      clear hB3
      go_wp2_with fail
      go_ret
      exact ⟨by unfold btw; rw [if_pos (show cmpI a b < 0 by omega), d2]; simp, HB3.out⟩
    · have d2 : decide (cmpI a x < 0) = false := decide_eq_false c2
      go_wp2_with fail
      go_ret
      exact ⟨by unfold btw; rw [if_pos (show cmpI a b < 0 by omega), d2]; simp, HB2.out⟩
  · have d1 : decide (cmpI a b < 0) = false := decide_eq_false c1
    go_wp2_with (first
      | (refine gate (some 21) rfl ?_; refine wpList_val rfl (.agg (idC a).toArray) (exec_load 65 (.tmp 4) rfl (w.heap.size + 1) 0 rfl (idC a) _ HR1.out.2.1 Yba.underlying65 rfl (by rw [sz65, len_idC, ha])) ?_; simp only [Act.put, List.setIfInBounds_toArray, List.set_cons_zero, List.set_cons_succ])
      | (refine gate (some 22) rfl ?_; refine wpList_val rfl (.agg (idC x).toArray) (exec_load 65 (.tmp 3) rfl w.heap.size 0 rfl (idC x) _ HR1.out.1 Yba.underlying65 rfl (by rw [sz65, len_idC, hx])) ?_; simp only [Act.put, List.setIfInBounds_toArray, List.set_cons_zero, List.set_cons_succ]))
    refine (cmp32 a x ha hx _).mono ?_
    rintro e w2 ⟨rfl, hB2⟩
    have HR2 : Hid (R3 w.heap.size (w.heap.size + 1) (w.heap.size + 2) (idC x) (idC a) (idC b) w2) := HR1.out.below hB2
    have HB2 : Hid (Below w.heap.size w w2) := HB1.out.trans (hB2.mono HB1.out.size)
    clear hB2
    by_cases c2 : cmpI a x < 0
    · have d2 : decide (cmpI a x < 0) = true := decide_eq_true c2
      go_wp2_with fail
      go_ret
      exact ⟨by unfold btw; rw [if_neg (show ¬ cmpI a b < 0 by omega), d2]; simp, HB2.out⟩
    · have d2 : decide (cmpI a x < 0) = false := decide_eq_false c2
      go_wp2_with (first
        | (refine gate (some 26) rfl ?_; refine wpList_val rfl (.agg (idC x).toArray) (exec_load 65 (.tmp 3) rfl w.heap.size 0 rfl (idC x) _ HR2.out.1 Yba.underlying65 rfl (by rw [sz65, len_idC, hx])) ?_; simp only [Act.put, List.setIfInBounds_toArray, List.set_cons_zero, List.set_cons_succ])
        | (refine gate (some 27) rfl ?_; refine wpList_val rfl (.agg (idC b).toArray) (exec_load 65 (.tmp 5) rfl (w.heap.size + 2) 0 rfl (idC b) _ HR2.out.2.2.1 Yba.underlying65 rfl (by rw [sz65, len_idC, hb])) ?_; simp only [Act.put, List.setIfInBounds_toArray, List.set_cons_zero, List.set_cons_succ]))
      refine (cmp32 x b hx hb _).mono ?_
      rintro e w3 ⟨rfl, hB3⟩
      have HR3 : Hid (R3 w.heap.size (w.heap.size + 1) (w.heap.size + 2) (idC x) (idC a) (idC b) w3) := HR2.out.below hB3
      have HB3 : Hid (Below w.heap.size w w3) := HB2.out.trans (hB3.mono HB2.out.size)
      clear hB3
      go_wp2_with fail
      go_ret
      exact ⟨by unfold btw; rw [if_neg (show ¬ cmpI a b < 0 by omega), d2]; simp, HB3.out⟩

end Go.Proofs.Ybulkdfgw
