import Derived.Test.YbulkdfeeGreatDoorLeaf
namespace Go.Proofs.YbulkdfeeGreatDoor
open Go.ChangeShapes Go.WideShapes Go.ChangeAt Go.RowKit
set_option linter.unusedVariables false
set_option linter.unusedSimpArgs false

/-! ### A row of which the first cells are known -/
def PB (w : World) (g n : Nat) (f : Nat → Int) : Prop := ∃ cur : List Value, CB w g 3 cur ∧ ∀ j, j < n → cur[j]? = some (.int .i64 (f j))
section
variable {w w' : World} {g g' n i B : Nat} {f f' : Nat → Int} {v : Value}
theorem PB.lt (h : PB w g n f) : g < w.heap.size := by obtain ⟨c, h1, _⟩ := h; exact h1.lt
theorem PB.cell (h : PB w g n f) (hi : i < n) : w.cell? ⟨g, i, none⟩ = some (.int .i64 (f i)) := by obtain ⟨c, h1, h2⟩ := h; exact h1.cell (h2 i hi)
theorem PB.froz (h : PB w g n f) : w.frozen? ⟨g, i, none⟩ = false := by obtain ⟨c, h1, _⟩ := h; exact h1.froz
theorem PB.set (h : PB w g n f) (i : Nat) (y : Int) : PB (w.setCell ⟨g, i, none⟩ (.int .i64 y)) g n (fun j => if j = i then y else f j) := by
  obtain ⟨c, h1, h2⟩ := h
  refine ⟨_, h1.set, fun j hj => ?_⟩
  rw [List.getElem?_set]
  by_cases e : i = j
  · subst e
    have : i < c.length := (List.getElem?_eq_some_iff.1 (h2 i hj)).1
    simp [this]
  · have e' : ¬ j = i := fun h => e h.symm
    simp only [e, e', if_false]; exact h2 j hj
theorem PB.other (h : PB w g n f) (hne : g' ≠ g) : PB (w.setCell ⟨g', i, none⟩ v) g n f := by obtain ⟨c, h1, h2⟩ := h; exact ⟨c, h1.other hne, h2⟩
theorem PB.alloc (h : PB w g n f) (o : Obj) : PB (w.alloc o) g n f := by obtain ⟨c, h1, h2⟩ := h; exact ⟨c, h1.alloc o, h2⟩
theorem PB.below (h : PB w g n f) (hB : Below B w w') (hg : g < B) : PB w' g n f := by obtain ⟨c, h1, h2⟩ := h; exact ⟨c, h1.below hB hg, h2⟩
theorem PB.congr (h : PB w g n f) (e : ∀ i, i < n → f i = f' i) : PB w g n f' := by obtain ⟨c, h1, h2⟩ := h; exact ⟨c, h1, fun j hj => by rw [← e j hj]; exact h2 j hj⟩
theorem FB.pb (h : FB w g n f) : PB w g n f := ⟨_, h, fun j hj => get_fcells f hj⟩
theorem FB.below (h : FB w g n f) (hB : Below B w w') (hg : g < B) : FB w' g n f := CB.below h hB hg
theorem FB.lt (h : FB w g n f) : g < w.heap.size := CB.lt h
end

set_option maxHeartbeats 1000000 in
set_option maxRecDepth 20000 in
theorem newG16 (T : Nat) (hT : 1 ≤ T ∧ T ≤ 16) (w : World) : Calls Ybaz.prog 16 #[.int .i64 T] w fun e w' => ∃ g, e = .returned (.agg #[.slice (some ⟨g, 0, none⟩) (T + 1) (T + 1), .slice none 0 0]) ∧ FB w' g (T + 1) (fun _ => 0) ∧ w.heap.size ≤ g ∧ Below w.heap.size w w' := by
  obtain ⟨w1, hw1⟩ : ∃ w1, w1 = w.alloc (.cells #[.slice none 0 0, .slice none 0 0] 71) := ⟨_, rfl⟩
  have HW1 : Hid _ := hw1
  have z1 : w1.heap.size = w.heap.size + 1 := by rw [hw1]; simp
  have Z1 : Hid _ := z1
  have hmk := run_make28 w1 (T + 1) (by omega)
  obtain ⟨w2, hw2⟩ : ∃ w2, w2 = w1.alloc (.cells (fcells (T + 1) (fun _ => 0)).toArray 3) := ⟨_, rfl⟩
  rw [← hw2] at hmk
  have hmk' : (Instr.makeSlice 28 (.int .i64 ((T : Int) + 1)) (.int .i64 ((T : Int) + 1))).run Ybaz.prog w1 = .ok (.slice (some ⟨w1.heap.size, 0, none⟩) (T + 1) (T + 1)) w2 := hmk
  clear hmk
  have N1 : CB w1 w.heap.size 71 [.slice none 0 0, .slice none 0 0] := by rw [hw1]; exact CB.new w
  have N2 : Hid (CB w2 w.heap.size 71 [.slice none 0 0, .slice none 0 0]) := by rw [hw2]; exact N1.alloc _
  have F2 : Hid (FB w2 w1.heap.size (T + 1) (fun _ => 0)) := by rw [hw2]; exact CB.new w1
  have B2 : Hid (Below w.heap.size w w2) := by rw [hw2, hw1]; exact (step_alloc _ _).trans ((step_alloc _ _).mono (by simp))
  clear N1 z1 hw2 hw1
  have c0 : w2.cell? ⟨w.heap.size, 0, none⟩ = some (.slice none 0 0) := N2.out.cell rfl
  have c1 : w2.cell? ⟨w.heap.size, 1, none⟩ = some (.slice none 0 0) := N2.out.cell rfl
  have f0 : w2.frozen? ⟨w.heap.size, 0, none⟩ = false := N2.out.froz
  have f1 : w2.frozen? ⟨w.heap.size, 1, none⟩ = false := N2.out.froz
  go_enter Ybaz.func16, Ybaz.ntmps16
  go_upto_region 1 with fail
  rw [← HW1.out]
  clear HW1
  go_wp2_with fail
  have hne : w.heap.size ≠ w1.heap.size := by rw [Z1.out]; omega
  have HF := ((N2.out.set (i := 0) (v := .slice (some ⟨w1.heap.size, 0, none⟩) (T + 1) (T + 1))).set (i := 1) (v := .slice none 0 0))
  refine bodyPost_ret (v := .agg #[.slice (some ⟨w1.heap.size, 0, none⟩) (T + 1) (T + 1), .slice none 0 0]) (results_cell_row rfl _ _ w.heap.size 71 _ (0, 0) _ rfl HF Ybaz.underlying71 rfl (by kernel_rfl)) rfl ?_
  exact ⟨_, rfl, CB.other (CB.other F2.out hne) hne, by rw [Z1.out]; omega, (B2.out.setCell (Nat.le_refl _) _).setCell (Nat.le_refl _) _⟩

theorem count17 (gg gs m k : Nat) (nx : Value) (f : Nat → Int) (w : World) (hg : CB w gg 71 [.slice (some ⟨gs, 0, none⟩) m m, nx]) (hs : FB w gs m f) (hk : k + 1 < m) (hm : m ≤ 100) (hf : 0 ≤ f (k + 1) ∧ f (k + 1) ≤ 1000000) :
    Calls Ybaz.prog 17 #[.pointer (some ⟨gg, 0, none⟩), .int .i64 k] w fun e w' => e = .returned (.tuple #[]) ∧ w' = w.setCell ⟨gs, k + 1, none⟩ (.int .i64 (f (k + 1) + 1)) := by
  obtain ⟨f1, f2⟩ := hf
  have c0 : w.cell? ⟨gg, 0, none⟩ = some (.slice (some ⟨gs, 0, none⟩) m m) := hg.cell rfl
  have c1 : w.cell? ⟨gs, k + 1, none⟩ = some (.int .i64 (f (k + 1))) := hs.cell hk
  have fz : w.frozen? ⟨gs, k + 1, none⟩ = false := CB.froz hs
  have h1 : (k : Int) + 1 < (m : Int) := by omega
  clear hg hs
  go_enter Ybaz.func17, Ybaz.ntmps17
  go_wp2_with fail
  go_end0
  exact ⟨rfl, rfl⟩

theorem place19 (gg gn T k : Nat) (st : Value) (cap : Nat) (f : Nat → Int) (w : World) (hg : CB w gg 71 [st, .slice (some ⟨gn, 0, none⟩) T cap]) (hs : PB w gn T f) (hk : k < T) (hm : T ≤ 100) (hf : 0 ≤ f k ∧ f k ≤ 1000000) :
    Calls Ybaz.prog 19 #[.pointer (some ⟨gg, 0, none⟩), .int .i64 k] w fun e w' => e = .returned (.int .i64 (f k)) ∧ w' = w.setCell ⟨gn, k, none⟩ (.int .i64 (f k + 1)) := by
  obtain ⟨f1, f2⟩ := hf
  have c0 : w.cell? ⟨gg, 1, none⟩ = some (.slice (some ⟨gn, 0, none⟩) T cap) := hg.cell rfl
  have c1 : w.cell? ⟨gn, k, none⟩ = some (.int .i64 (f k)) := hs.cell hk
  have fz : w.frozen? ⟨gn, k, none⟩ = false := hs.froz
  have h1 : (k : Int) < (T : Int) := by omega
  clear hg hs
  go_enter Ybaz.func19, Ybaz.ntmps19
  go_wp2_with fail
  go_ret
  exact ⟨rfl, rfl⟩

set_option maxRecDepth 20000 in
theorem clone41 (gs T c : Nat) (f : Nat → Int) (hT : T ≤ 16) (w : World) (h : PB w gs T f) :
    Calls Ybaz.prog 41 #[.slice (some ⟨gs, 0, none⟩) T c] w fun e w' => ∃ g cap, e = .returned (.slice (some ⟨g, 0, none⟩) T cap) ∧ PB w' g T f ∧ w.heap.size ≤ g ∧ Below w.heap.size w w' := by
  have HA : Hid (PB w gs T f) := h
  clear h
  have he : (binOp .eql 28 (.slice (some ⟨gs, 0, none⟩) T c) (.slice none 0 0)).run Ybaz.prog w = .ok (.bool false) w := Go.Lib.run_eql_slice_nil w 28 3 (some ⟨gs, 0, none⟩) T c 0 0 Ybaz.underlying28
  have hbs : (Instr.buildSlice 28 0 #[]).run Ybaz.prog w = .ok (.slice (some ⟨w.heap.size, 0, none⟩) 0 0) (w.alloc (.cells #[] 3)) := by kernel_rfl
  obtain ⟨i3, hi3, h3a, h3b, h3c⟩ := info_parts inf3
  have HOW : Hid ((w.alloc (.cells #[] 3)).ownsRow w.heap.size 3 1 (.slice (some ⟨w.heap.size, 0, none⟩) 0 0) 0 []) :=
    ⟨rfl, Or.inr ⟨w.heap.size, 0, #[], rfl, Nat.le_refl _, heap_new _ _, Nat.le_refl _, by unfold maxLen; omega, rfl, rfl⟩⟩
  have HB1 : Hid (Below w.heap.size w (w.alloc (.cells #[] 3))) := step_alloc _ _
  have HNW : Hid (∀ j u, (fcells T f)[j]? = some u → (w.alloc (.cells #[] 3)).cell? ((⟨gs, 0, none⟩ : Addr).add j) = some u) := by
    intro j u hu
    have hj : j < T := by have := (List.getElem?_eq_some_iff.1 hu).1; rwa [len_fcells] at this
    rw [get_fcells f hj] at hu
    cases hu
    rw [add_plain, Nat.zero_add]
    exact (HA.out.alloc _).cell hj
  have H1 : Hid (∀ u ∈ fcells T f, u.oneCell' = true) := by intro u hu; obtain ⟨z, _, rfl⟩ := List.mem_map.1 hu; rfl
  go_enter Ybaz.func41, Ybaz.ntmps41
  go_wp2_with (refine gate (some 7) rfl ?_; refine wpList_append_own_at (w.alloc (.cells #[] 3)) rfl (.tmp 5) (.tmp 6) 28 rfl w.heap.size 3 i3 (.int .i64 0) 1 8 Ybaz.underlying28 hi3 h3a h3b h3c rfl (by decide) (.slice (some ⟨w.heap.size, 0, none⟩) 0 0) 0 [] rfl HOW.out ⟨gs, 0, none⟩ T c (fcells T f) rfl (by rw [len_fcells]; omega) HNW.out H1.out (by unfold maxLen; omega) (by omega) (by simp) ?_)
  intro v5 w5 hO5 hG5 hne5 hL5
  obtain ⟨g5, cap5, rfl, hg5, hpb⟩ : ∃ g5 cap5, v5 = .slice (some ⟨g5, 0, none⟩) T cap5 ∧ w.heap.size ≤ g5 ∧ PB w5 g5 T f := by
    rcases hO5.2 with ⟨h0, _⟩ | ⟨g, c, cur, h0, hb, hg, hr⟩
    · exact absurd h0 hne5
    · refine ⟨g, c, h0, hb, cur.toList, by unfold CB; simpa using hg, fun j hj => ?_⟩
      have e := hr.2.2.2
      rw [Nat.mul_one] at e
      have : (cur.toList.take T)[j]? = some (.int .i64 (f j)) := by rw [e]; exact get_fcells f hj
      rwa [List.getElem?_take, if_pos hj] at this
  have HPB : Hid _ := hpb
  have HBF : Hid (Below w.heap.size w w5) := HB1.out.grown hG5 (by simp) (fun q hq => by simp [Value.ownBlock] at hq; omega)
  clear hO5 hG5 hne5 hL5 hpb
  go_wp2_with fail
  go_ret
  exact ⟨_, _, rfl, HPB.out, hg5, HBF.out⟩

/-! ### Counting keys -/
def pre (ks : List Nat) (j : Nat) : Nat := ks.countP (fun k => decide (k < j))
theorem pre_zero (ks : List Nat) : pre ks 0 = 0 := by simp [pre]
theorem pre_succ (ks : List Nat) (k : Nat) : pre ks (k + 1) = pre ks k + ks.count k := by
  unfold pre
  induction ks with
  | nil => rfl
  | cons x xs ih =>
    rw [List.countP_cons, List.countP_cons, List.count_cons, ih]
    by_cases h1 : x < k
    · have : ¬ x = k := by omega
      simp [h1, this, show x < k + 1 by omega]; omega
    · by_cases h2 : x = k
      · subst h2; simp; omega
      · have : ¬ x < k + 1 := by omega
        simp [h1, h2, this]
theorem pre_top {ks : List Nat} {T : Nat} (h : ∀ k ∈ ks, k < T) : pre ks T = ks.length := by
  unfold pre
  exact List.countP_eq_length.2 fun k hk => by simpa using h k hk
theorem pre_mono {ks : List Nat} {i j : Nat} (h : i ≤ j) : pre ks i ≤ pre ks j := by
  unfold pre
  exact List.countP_mono_left fun k _ hk => by simp at hk ⊢; omega
theorem pre_le (ks : List Nat) (j : Nat) : pre ks j ≤ ks.length := List.countP_le_length
theorem count_le (ks : List Nat) (k : Nat) : ks.count k ≤ ks.length := List.count_le_length
end Go.Proofs.YbulkdfeeGreatDoor
