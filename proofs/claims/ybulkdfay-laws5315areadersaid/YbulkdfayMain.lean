import Derived.Test.YbulkdfayCopy
namespace Go.Proofs.Ybulkdfay
open Go.ChangeShapes Go.WideShapes Go.ChangeAt Go.RowKit
set_option linter.unusedVariables false
set_option linter.unusedSimpArgs false

theorem main_long (a0 : Option Addr) (len0 cap0 : Nat) (a1 a2 a3 : Int) (w : World) (hl : 1024 < len0) (hm : len0 ≤ maxLen) :
    Calls Yba.prog 3 #[.slice a0 len0 cap0, .int .u16 a1, .int .u16 a2, .int .u8 a3] w fun e w' => e = .returned (.bool true) ∧ Below w.heap.size w w' := by
  unfold maxLen at hm
  go_enter Yba.func3, Yba.ntmps3
  go_wp2_with fail
  go_ret
  exact ⟨rfl, Below.refl _ _⟩

theorem sized_of_block {w : World} {g : Nat} {o : Obj} (h : w.heap[g]? = some o) : g < w.heap.size := by
  have := (Array.getElem?_eq_some_iff.1 h).1
  exact this

set_option maxHeartbeats 1000000 in
theorem main_0 (a0 : Option Addr) (n cap0 : Nat) (cs : List Value) (lo k : Nat) (a1 a2 a3 : Int) (w w2 : World) (hn : n ≤ 1024)
    (hrun : (Builtin.copy_ #[22, 22] 3 #[.slice (some ⟨w.heap.size, 0, none⟩) n n, .slice a0 n cap0]).run Yba.prog (w.alloc (.cells (madeCells #[.int .u8 0] n) 5)) = .ok (.int .i64 n) w2)
    (hg2 : w2.heap[w.heap.size]? = some (.cells cs.toArray 5 (0, 0))) (hB2 : Below w.heap.size w w2)
    (hlo : a1 % ((n : Int) + 1) = lo) (hk : a2 % ((n : Int) - lo + 1) = k) (hlk : lo + k ≤ n) (b1 : 0 ≤ a1 ∧ a1 ≤ 65535) (b2 : 0 ≤ a2 ∧ a2 ≤ 65535) (b3 : 0 ≤ a3 ∧ a3 ≤ 255) (hmode : a3 % 4 = 0) :
    Calls Yba.prog 3 #[.slice a0 n cap0, .int .u16 a1, .int .u16 a2, .int .u8 a3] w fun e w' => e = .returned (.bool true) ∧ Below w.heap.size w w' := by
  have HG : Hid _ := hg2
  have HB : Hid _ := hB2
  have hlt := sized_of_block hg2
  clear hg2 hB2
  obtain ⟨b1a, b1b⟩ := b1
  obtain ⟨b2a, b2b⟩ := b2
  obtain ⟨b3a, b3b⟩ := b3
  have hmk := fun wx => run_make_row' (P := Yba.prog) 22 5 (.int .u8 0) 1 Yba.underlying22 info5 rfl .i64 .i64 n (by omega) (by omega) wx
  have hnil := fun wx a n c => Lib.run_eql_slice_nil (P := Yba.prog) wx 22 5 a n c 0 0 Yba.underlying22
  go_enter Yba.func3, Yba.ntmps3
  go_wp2_with fail
  all_goals
    refine (textOf_any _ _ _ _).mono ?_
    rintro e w3 ⟨rfl, hb3⟩
    obtain ⟨hc3, hf3⟩ := bcell hb3
    have hz3 : w2.heap.size < w3.heap.size := by have := hb3.size; simp at this; omega
    have HB3 : Hid _ := hb3
    clear hb3
    go_wp2_with fail
    refine (treader_nil _ _ _ _ _ _ _ _).mono ?_
    rintro e w4 ⟨rfl, hb4⟩
    obtain ⟨hc4, hf4⟩ := bcell hb4
    have hz4 : w3.heap.size ≤ w4.heap.size := by have := hb4.size; simp at this; omega
    have HB4 : Hid _ := hb4
    clear hb4
    go_wp2_with fail
    refine (same_any _ _ _ _ (fun _ => ⟨_, _, rfl⟩) _).mono ?_
    rintro e w5 ⟨rfl, nq, rfl⟩
    go_wp2_with fail
    go_ret
    refine ⟨rfl, below_drewN (Below.alloc (Below.trans ?_ (HB4.out.mono (by simp; omega))) (by omega) _) _⟩
    repeat (refine Below.setCell ?_ (by simp; omega) _)
    exact (Below.alloc HB.out (by omega) _).trans (HB3.out.mono (by simp; omega))

set_option maxHeartbeats 1000000 in
theorem main_1y (a0 : Option Addr) (n cap0 : Nat) (cs : List Value) (lo k : Nat) (a1 a2 a3 : Int) (w w2 : World) (hn : n ≤ 1024)
    (hrun : (Builtin.copy_ #[22, 22] 3 #[.slice (some ⟨w.heap.size, 0, none⟩) n n, .slice a0 n cap0]).run Yba.prog (w.alloc (.cells (madeCells #[.int .u8 0] n) 5)) = .ok (.int .i64 n) w2)
    (hg2 : w2.heap[w.heap.size]? = some (.cells cs.toArray 5 (0, 0))) (hB2 : Below w.heap.size w w2)
    (hlo : a1 % ((n : Int) + 1) = lo) (hk : a2 % ((n : Int) - lo + 1) = k) (hlk : lo + k ≤ n) (b1 : 0 ≤ a1 ∧ a1 ≤ 65535) (b2 : 0 ≤ a2 ∧ a2 ≤ 65535) (b3 : 0 ≤ a3 ∧ a3 ≤ 255) (hmode : a3 % 4 = 1) (hk0 : 0 < k) :
    Calls Yba.prog 3 #[.slice a0 n cap0, .int .u16 a1, .int .u16 a2, .int .u8 a3] w fun e w' => e = .returned (.bool true) ∧ Below w.heap.size w w' := by
  have HG : Hid _ := hg2
  have HB : Hid _ := hB2
  have hlt := sized_of_block hg2
  clear hg2 hB2
  obtain ⟨b1a, b1b⟩ := b1
  obtain ⟨b2a, b2b⟩ := b2
  obtain ⟨b3a, b3b⟩ := b3
  have hmk := fun wx => run_make_row' (P := Yba.prog) 22 5 (.int .u8 0) 1 Yba.underlying22 info5 rfl .i64 .i64 n (by omega) (by omega) wx
  have hnil := fun wx a n c => Lib.run_eql_slice_nil (P := Yba.prog) wx 22 5 a n c 0 0 Yba.underlying22
  have hd : decide (0 < k) = true := decide_eq_true hk0
  have hnlo : ¬ n = lo := by omega
  go_enter Yba.func3, Yba.ntmps3
  go_wp2_with fail
  all_goals
    refine (treader_some _ _ _ _ _ _ _ _ (some ⟨w.heap.size, 0, none⟩) n n lo _ ?_).mono ?_
    · intro W hb
      refine mreader_yes _ _ _ _ _ _ _ _ W ?_ ?_ ?_
      · have := hb.size; simp at this; omega
      · rw [hb.cell (by simp)]; simp <;> omega
      · intro W' hb'
        exact off_same _ n lo k hk0 hlk hn W'
    rintro e w4 ⟨rfl, hb4⟩
    obtain ⟨hc4, hf4⟩ := bcell hb4
    have hz4 : w2.heap.size + 1 < w4.heap.size := by have := hb4.size; simp at this; omega
    have HB4 : Hid _ := hb4
    clear hb4
    go_wp2_with fail
    refine (same_any _ _ _ _ (fun _ => ⟨_, _, rfl⟩) _).mono ?_
    rintro e w5 ⟨rfl, nq, rfl⟩
    go_wp2_with fail
    refine (same_any _ _ _ _ (fun _ => ⟨_, _, rfl⟩) _).mono ?_
    rintro e w5 ⟨rfl, nq, rfl⟩
    go_wp2_with fail
    go_ret
    refine ⟨rfl, below_drewN (Below.alloc (Below.trans ?_ (HB4.out.mono (by simp; omega))) (by omega) _) _⟩
    exact Below.alloc (Below.alloc HB.out (by omega) _) (by simp; omega) _

set_option maxHeartbeats 1000000 in
theorem main_1n (a0 : Option Addr) (n cap0 : Nat) (cs : List Value) (lo k : Nat) (a1 a2 a3 : Int) (w w2 : World) (hn : n ≤ 1024)
    (hrun : (Builtin.copy_ #[22, 22] 3 #[.slice (some ⟨w.heap.size, 0, none⟩) n n, .slice a0 n cap0]).run Yba.prog (w.alloc (.cells (madeCells #[.int .u8 0] n) 5)) = .ok (.int .i64 n) w2)
    (hg2 : w2.heap[w.heap.size]? = some (.cells cs.toArray 5 (0, 0))) (hB2 : Below w.heap.size w w2)
    (hlo : a1 % ((n : Int) + 1) = lo) (hk : a2 % ((n : Int) - lo + 1) = k) (hlk : lo + k ≤ n) (b1 : 0 ≤ a1 ∧ a1 ≤ 65535) (b2 : 0 ≤ a2 ∧ a2 ≤ 65535) (b3 : 0 ≤ a3 ∧ a3 ≤ 255) (hmode : a3 % 4 = 1) (HK : Hid (k = 0)) :
    Calls Yba.prog 3 #[.slice a0 n cap0, .int .u16 a1, .int .u16 a2, .int .u8 a3] w fun e w' => e = .returned (.bool true) ∧ Below w.heap.size w w' := by
  have HG : Hid _ := hg2
  have HB : Hid _ := hB2
  have hlt := sized_of_block hg2
  clear hg2 hB2
  obtain ⟨b1a, b1b⟩ := b1
  obtain ⟨b2a, b2b⟩ := b2
  obtain ⟨b3a, b3b⟩ := b3
  have hmk := fun wx => run_make_row' (P := Yba.prog) 22 5 (.int .u8 0) 1 Yba.underlying22 info5 rfl .i64 .i64 n (by omega) (by omega) wx
  have hnil := fun wx a n c => Lib.run_eql_slice_nil (P := Yba.prog) wx 22 5 a n c 0 0 Yba.underlying22
  have hd : decide ((lo : Int) < (lo : Int) + (k : Int)) = false := decide_eq_false (by have := HK.out; omega)
  go_enter Yba.func3, Yba.ntmps3
  go_wp2_with fail
  all_goals
    refine (treader_some _ _ _ _ _ _ _ _ none 0 0 0 _ ?_).mono ?_
    · intro W hb
      refine mreader_no _ (some ⟨w.heap.size, 0, none⟩) n n _ _ _ W ?_ ?_ ?_
      · have := hb.size; simp at this; omega
      · rw [hb.cell (by simp)]; simp <;> omega
      · intro W' hb'
        exact off_zero _ _ _ _ _ _ HK.out (by omega) (by omega) W'
    rintro e w4 ⟨rfl, hb4⟩
    obtain ⟨hc4, hf4⟩ := bcell hb4
    have hz4 : w2.heap.size + 1 < w4.heap.size := by have := hb4.size; simp at this; omega
    have HB4 : Hid _ := hb4
    clear hb4
    go_wp2_with fail
    refine (same_any _ _ _ _ (fun _ => ⟨_, _, rfl⟩) _).mono ?_
    rintro e w5 ⟨rfl, nq, rfl⟩
    go_wp2_with fail
    go_ret
    refine ⟨rfl, below_drewN (Below.alloc (Below.trans ?_ (HB4.out.mono (by simp; omega))) (by omega) _) _⟩
    exact Below.alloc (Below.alloc HB.out (by omega) _) (by simp; omega) _

set_option maxHeartbeats 1000000 in
theorem main_3y (a0 : Option Addr) (n cap0 : Nat) (cs : List Value) (lo k : Nat) (a1 a2 a3 : Int) (w w2 : World) (hn : n ≤ 1024)
    (hrun : (Builtin.copy_ #[22, 22] 3 #[.slice (some ⟨w.heap.size, 0, none⟩) n n, .slice a0 n cap0]).run Yba.prog (w.alloc (.cells (madeCells #[.int .u8 0] n) 5)) = .ok (.int .i64 n) w2)
    (hg2 : w2.heap[w.heap.size]? = some (.cells cs.toArray 5 (0, 0))) (hB2 : Below w.heap.size w w2)
    (hlo : a1 % ((n : Int) + 1) = lo) (hk : a2 % ((n : Int) - lo + 1) = k) (hlk : lo + k ≤ n) (b1 : 0 ≤ a1 ∧ a1 ≤ 65535) (b2 : 0 ≤ a2 ∧ a2 ≤ 65535) (b3 : 0 ≤ a3 ∧ a3 ≤ 255) (hmode : a3 % 4 = 3) (hk0 : 0 < k) :
    Calls Yba.prog 3 #[.slice a0 n cap0, .int .u16 a1, .int .u16 a2, .int .u8 a3] w fun e w' => e = .returned (.bool true) ∧ Below w.heap.size w w' := by
  have HG : Hid _ := hg2
  have HB : Hid _ := hB2
  have hlt := sized_of_block hg2
  clear hg2 hB2
  obtain ⟨b1a, b1b⟩ := b1
  obtain ⟨b2a, b2b⟩ := b2
  obtain ⟨b3a, b3b⟩ := b3
  have hmk := fun wx => run_make_row' (P := Yba.prog) 22 5 (.int .u8 0) 1 Yba.underlying22 info5 rfl .i64 .i64 n (by omega) (by omega) wx
  have hnil := fun wx a n c => Lib.run_eql_slice_nil (P := Yba.prog) wx 22 5 a n c 0 0 Yba.underlying22
  have hd : decide (0 < k) = true := decide_eq_true hk0
  have hnlo : ¬ n = lo := by omega
  go_enter Yba.func3, Yba.ntmps3
  go_wp2_with fail
  all_goals
    refine (treader_some _ _ _ _ _ _ _ _ none 0 0 0 _ ?_).mono ?_
    · intro W hb
      refine mreader_no _ none 0 0 _ _ _ W ?_ ?_ ?_
      · have := hb.size; simp at this; omega
      · rw [hb.cell (by simp)]; simp <;> omega
      · intro W' hb'
        exact off_nil _ _ _ hk0 (by omega) (by omega) W'
    rintro e w4 ⟨rfl, hb4⟩
    obtain ⟨hc4, hf4⟩ := bcell hb4
    have hz4 : w2.heap.size + 1 < w4.heap.size := by have := hb4.size; simp at this; omega
    have HB4 : Hid _ := hb4
    clear hb4
    go_wp2_with fail
    refine (same_any _ _ _ _ (fun _ => ⟨_, _, rfl⟩) _).mono ?_
    rintro e w5 ⟨rfl, nq, rfl⟩
    go_wp2_with fail
    go_ret
    refine ⟨rfl, below_drewN (Below.alloc (Below.trans ?_ (HB4.out.mono (by simp; omega))) (by omega) _) _⟩
    exact Below.alloc (Below.alloc HB.out (by omega) _) (by simp; omega) _

set_option maxHeartbeats 1000000 in
theorem main_3n (a0 : Option Addr) (n cap0 : Nat) (cs : List Value) (lo k : Nat) (a1 a2 a3 : Int) (w w2 : World) (hn : n ≤ 1024)
    (hrun : (Builtin.copy_ #[22, 22] 3 #[.slice (some ⟨w.heap.size, 0, none⟩) n n, .slice a0 n cap0]).run Yba.prog (w.alloc (.cells (madeCells #[.int .u8 0] n) 5)) = .ok (.int .i64 n) w2)
    (hg2 : w2.heap[w.heap.size]? = some (.cells cs.toArray 5 (0, 0))) (hB2 : Below w.heap.size w w2)
    (hlo : a1 % ((n : Int) + 1) = lo) (hk : a2 % ((n : Int) - lo + 1) = k) (hlk : lo + k ≤ n) (b1 : 0 ≤ a1 ∧ a1 ≤ 65535) (b2 : 0 ≤ a2 ∧ a2 ≤ 65535) (b3 : 0 ≤ a3 ∧ a3 ≤ 255) (hmode : a3 % 4 = 3) (HK : Hid (k = 0)) :
    Calls Yba.prog 3 #[.slice a0 n cap0, .int .u16 a1, .int .u16 a2, .int .u8 a3] w fun e w' => e = .returned (.bool true) ∧ Below w.heap.size w w' := by
  have HG : Hid _ := hg2
  have HB : Hid _ := hB2
  have hlt := sized_of_block hg2
  clear hg2 hB2
  obtain ⟨b1a, b1b⟩ := b1
  obtain ⟨b2a, b2b⟩ := b2
  obtain ⟨b3a, b3b⟩ := b3
  have hmk := fun wx => run_make_row' (P := Yba.prog) 22 5 (.int .u8 0) 1 Yba.underlying22 info5 rfl .i64 .i64 n (by omega) (by omega) wx
  have hnil := fun wx a n c => Lib.run_eql_slice_nil (P := Yba.prog) wx 22 5 a n c 0 0 Yba.underlying22
  have hd : decide ((lo : Int) < (lo : Int) + (k : Int)) = false := decide_eq_false (by have := HK.out; omega)
  go_enter Yba.func3, Yba.ntmps3
  go_wp2_with fail
  all_goals
    refine (treader_some _ _ _ _ _ _ _ _ none 0 0 0 _ ?_).mono ?_
    · intro W hb
      refine mreader_no _ none 0 0 _ _ _ W ?_ ?_ ?_
      · have := hb.size; simp at this; omega
      · rw [hb.cell (by simp)]; simp <;> omega
      · intro W' hb'
        exact off_zero _ _ _ _ _ _ HK.out (by omega) (by omega) W'
    rintro e w4 ⟨rfl, hb4⟩
    obtain ⟨hc4, hf4⟩ := bcell hb4
    have hz4 : w2.heap.size + 1 < w4.heap.size := by have := hb4.size; simp at this; omega
    have HB4 : Hid _ := hb4
    clear hb4
    go_wp2_with fail
    refine (same_any _ _ _ _ (fun _ => ⟨_, _, rfl⟩) _).mono ?_
    rintro e w5 ⟨rfl, nq, rfl⟩
    go_wp2_with fail
    go_ret
    refine ⟨rfl, below_drewN (Below.alloc (Below.trans ?_ (HB4.out.mono (by simp; omega))) (by omega) _) _⟩
    exact Below.alloc (Below.alloc HB.out (by omega) _) (by simp; omega) _

end Go.Proofs.Ybulkdfay
