import Derived.Test.YbulkdfayMain
namespace Go.Proofs.Ybulkdfay
open Go.ChangeShapes Go.WideShapes Go.ChangeAt Go.RowKit
set_option linter.unusedVariables false
set_option linter.unusedSimpArgs false

set_option maxHeartbeats 1000000 in
theorem main_2y (a0 : Option Addr) (n cap0 : Nat) (cs : List Value) (lo k : Nat) (a1 a2 a3 : Int) (w w2 w6 : World) (hn : n ≤ 1024)
    (hrun : (Builtin.copy_ #[22, 22] 3 #[.slice (some ⟨w.heap.size, 0, none⟩) n n, .slice a0 n cap0]).run Yba.prog (w.alloc (.cells (madeCells #[.int .u8 0] n) 5)) = .ok (.int .i64 n) w2)
    (hg2 : w2.heap[w.heap.size]? = some (.cells cs.toArray 5 (0, 0))) (hB2 : Below w.heap.size w w2)
    (hrun6 : (Builtin.copy_ #[22, 22] 3 #[.slice (some ⟨w2.heap.size + 1, 0, none⟩) n n, .slice a0 n cap0]).run Yba.prog ((w2.alloc (.cells #[.pointer none, .bool false, .slice none 0 0] 26)).alloc (.cells (madeCells #[.int .u8 0] n) 5)) = .ok (.int .i64 n) w6)
    (hg6 : w6.heap[w2.heap.size + 1]? = some (.cells cs.toArray 5 (0, 0))) (hB6 : Below (w2.heap.size + 1) (w2.alloc (.cells #[.pointer none, .bool false, .slice none 0 0] 26)) w6)
    (hlo : a1 % ((n : Int) + 1) = lo) (hk : a2 % ((n : Int) - lo + 1) = k) (hlk : lo + k ≤ n) (b1 : 0 ≤ a1 ∧ a1 ≤ 65535) (b2 : 0 ≤ a2 ∧ a2 ≤ 65535) (b3 : 0 ≤ a3 ∧ a3 ≤ 255) (hmode : a3 % 4 = 2) (hk0 : 0 < k) :
    Calls Yba.prog 3 #[.slice a0 n cap0, .int .u16 a1, .int .u16 a2, .int .u8 a3] w fun e w' => e = .returned (.bool true) ∧ Below w.heap.size w w' := by
  have HG : Hid _ := hg2
  have HB : Hid _ := hB2
  have hlt := sized_of_block hg2
  have HG6 : Hid _ := hg6
  have HB6 : Hid _ := hB6
  have hlt6 := sized_of_block hg6
  have hc6 : ∀ o, w6.cell? ⟨w2.heap.size, o, none⟩ = (w2.alloc (.cells #[.pointer none, .bool false, .slice none 0 0] 26)).cell? ⟨w2.heap.size, o, none⟩ := fun o => hB6.cell (p := ⟨w2.heap.size, o, none⟩) (by simp)
  have hf6 : ∀ o, w6.frozen? ⟨w2.heap.size, o, none⟩ = (w2.alloc (.cells #[.pointer none, .bool false, .slice none 0 0] 26)).frozen? ⟨w2.heap.size, o, none⟩ := fun o => hB6.frozen (p := ⟨w2.heap.size, o, none⟩) (by simp)
  have hlt7 : w2.heap.size < w6.heap.size := by omega
  clear hg2 hB2 hg6 hB6
  obtain ⟨b1a, b1b⟩ := b1
  obtain ⟨b2a, b2b⟩ := b2
  obtain ⟨b3a, b3b⟩ := b3
  have hmk := fun wx => run_make_row' (P := Yba.prog) 22 5 (.int .u8 0) 1 Yba.underlying22 info5 rfl .i64 .i64 n (by omega) (by omega) wx
  have hnil := fun wx a n c => Lib.run_eql_slice_nil (P := Yba.prog) wx 22 5 a n c 0 0 Yba.underlying22
  have hd : decide (0 < k) = true := decide_eq_true hk0
  have hnlo : ¬ n = lo := by omega
  go_enter Yba.func3, Yba.ntmps3
  go_wp2_with fail
  all_goals
    refine (treader_some _ _ _ _ _ _ _ _ none 0 0 0 _ ?_).mono ?_
    · intro W hb
      refine mreader_no _ (some ⟨w2.heap.size + 1, 0, none⟩) n n _ _ _ W ?_ ?_ ?_
      · have := hb.size; simp at this; omega
      · have e := hb.cell (p := ⟨w6.heap.size, 4, none⟩) (by show w6.heap.size < _; simp)
        refine e.trans ?_
        rw [World.cell?_alloc_at _ _ _ _ (by simp)]
        simp <;> omega
      · intro W' hb'
        refine off_other _ _ n lo k hk0 hlk hn (by omega) W' cs.toArray cs.toArray ?_ ?_
        · have hs := hb.size
          simp at hs
          rw [hb'.block _ (by omega), hb.block _ (by simp; omega), Below.heap_alloc _ _ _ (by simp; omega), Below.heap_setCell _ _ _ _ (by simp), Below.heap_setCell _ _ _ _ (by simp), Below.heap_setCell _ _ _ _ (by simp)]
          exact HG6.out
        · have hs := hb.size
          simp at hs
          rw [hb'.block _ (by omega), hb.block _ (by simp; omega), Below.heap_alloc _ _ _ (by simp; omega), Below.heap_setCell _ _ _ _ (by simp; omega), Below.heap_setCell _ _ _ _ (by simp; omega), Below.heap_setCell _ _ _ _ (by simp; omega), HB6.out.block _ (by omega), Below.heap_alloc _ _ _ (by omega)]
          exact HG.out
    rintro e w4 ⟨rfl, hb4⟩
    obtain ⟨hc4, hf4⟩ := bcell hb4
    have hz4 : w6.heap.size < w4.heap.size := by have := hb4.size; simp at this; omega
    have HB4 : Hid _ := hb4
    clear hb4
    go_wp2_with fail
    refine (same_any _ _ _ _ (fun _ => ⟨_, _, rfl⟩) _).mono ?_
    rintro e w5 ⟨rfl, nq, rfl⟩
    go_wp2_with fail
    go_ret
    refine ⟨rfl, below_drewN (Below.alloc (Below.trans ?_ (HB4.out.mono (by simp; omega))) (by omega) _) _⟩
    refine Below.alloc ?_ (by simp; omega) _
    repeat (refine Below.setCell ?_ (by simp; omega) _)
    exact (Below.alloc HB.out (by omega) _).trans (HB6.out.mono (by omega))

set_option maxHeartbeats 1000000 in
theorem main_2n (a0 : Option Addr) (n cap0 : Nat) (cs : List Value) (lo k : Nat) (a1 a2 a3 : Int) (w w2 w6 : World) (hn : n ≤ 1024)
    (hrun : (Builtin.copy_ #[22, 22] 3 #[.slice (some ⟨w.heap.size, 0, none⟩) n n, .slice a0 n cap0]).run Yba.prog (w.alloc (.cells (madeCells #[.int .u8 0] n) 5)) = .ok (.int .i64 n) w2)
    (hg2 : w2.heap[w.heap.size]? = some (.cells cs.toArray 5 (0, 0))) (hB2 : Below w.heap.size w w2)
    (hrun6 : (Builtin.copy_ #[22, 22] 3 #[.slice (some ⟨w2.heap.size + 1, 0, none⟩) n n, .slice a0 n cap0]).run Yba.prog ((w2.alloc (.cells #[.pointer none, .bool false, .slice none 0 0] 26)).alloc (.cells (madeCells #[.int .u8 0] n) 5)) = .ok (.int .i64 n) w6)
    (hg6 : w6.heap[w2.heap.size + 1]? = some (.cells cs.toArray 5 (0, 0))) (hB6 : Below (w2.heap.size + 1) (w2.alloc (.cells #[.pointer none, .bool false, .slice none 0 0] 26)) w6)
    (hlo : a1 % ((n : Int) + 1) = lo) (hk : a2 % ((n : Int) - lo + 1) = k) (hlk : lo + k ≤ n) (b1 : 0 ≤ a1 ∧ a1 ≤ 65535) (b2 : 0 ≤ a2 ∧ a2 ≤ 65535) (b3 : 0 ≤ a3 ∧ a3 ≤ 255) (hmode : a3 % 4 = 2) (HK : Hid (k = 0)) :
    Calls Yba.prog 3 #[.slice a0 n cap0, .int .u16 a1, .int .u16 a2, .int .u8 a3] w fun e w' => e = .returned (.bool true) ∧ Below w.heap.size w w' := by
  have HG : Hid _ := hg2
  have HB : Hid _ := hB2
  have hlt := sized_of_block hg2
  have HG6 : Hid _ := hg6
  have HB6 : Hid _ := hB6
  have hlt6 := sized_of_block hg6
  have hc6 : ∀ o, w6.cell? ⟨w2.heap.size, o, none⟩ = (w2.alloc (.cells #[.pointer none, .bool false, .slice none 0 0] 26)).cell? ⟨w2.heap.size, o, none⟩ := fun o => hB6.cell (p := ⟨w2.heap.size, o, none⟩) (by simp)
  have hf6 : ∀ o, w6.frozen? ⟨w2.heap.size, o, none⟩ = (w2.alloc (.cells #[.pointer none, .bool false, .slice none 0 0] 26)).frozen? ⟨w2.heap.size, o, none⟩ := fun o => hB6.frozen (p := ⟨w2.heap.size, o, none⟩) (by simp)
  have hlt7 : w2.heap.size < w6.heap.size := by omega
  clear hg2 hB2 hg6 hB6
  obtain ⟨b1a, b1b⟩ := b1
  obtain ⟨b2a, b2b⟩ := b2
  obtain ⟨b3a, b3b⟩ := b3
  have hmk := fun wx => run_make_row' (P := Yba.prog) 22 5 (.int .u8 0) 1 Yba.underlying22 info5 rfl .i64 .i64 n (by omega) (by omega) wx
  have hnil := fun wx a n c => Lib.run_eql_slice_nil (P := Yba.prog) wx 22 5 a n c 0 0 Yba.underlying22
  have hd : decide ((lo : Int) < (lo : Int) + (k : Int)) = false := decide_eq_false (by have := HK.out; omega)
  go_enter Yba.func3, Yba.ntmps3
  go_wp2_with fail
  all_goals
    refine (treader_some _ _ _ _ _ _ _ _ none 0 0 0 _ ?_).mono ?_
    · intro W hb
      refine mreader_no _ (some ⟨w2.heap.size + 1, 0, none⟩) n n _ _ _ W ?_ ?_ ?_
      · have := hb.size; simp at this; omega
      · have e := hb.cell (p := ⟨w6.heap.size, 4, none⟩) (by show w6.heap.size < _; simp)
        refine e.trans ?_
        rw [World.cell?_alloc_at _ _ _ _ (by simp)]
        simp <;> omega
      · intro W' hb'
        exact off_zero _ _ _ _ _ _ HK.out (by omega) (by omega) W'
    rintro e w4 ⟨rfl, hb4⟩
    obtain ⟨hc4, hf4⟩ := bcell hb4
    have hz4 : w6.heap.size < w4.heap.size := by have := hb4.size; simp at this; omega
    have HB4 : Hid _ := hb4
    clear hb4
    go_wp2_with fail
    refine (same_any _ _ _ _ (fun _ => ⟨_, _, rfl⟩) _).mono ?_
    rintro e w5 ⟨rfl, nq, rfl⟩
    go_wp2_with fail
    go_ret
    refine ⟨rfl, below_drewN (Below.alloc (Below.trans ?_ (HB4.out.mono (by simp; omega))) (by omega) _) _⟩
    refine Below.alloc ?_ (by simp; omega) _
    repeat (refine Below.setCell ?_ (by simp; omega) _)
    exact (Below.alloc HB.out (by omega) _).trans (HB6.out.mono (by omega))

end Go.Proofs.Ybulkdfay
