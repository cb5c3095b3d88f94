import Derived.Test.YbulkdfeeWalks
namespace Go.Proofs.Ybulkdfee
open Go.ChangeShapes Go.WideShapes Go.ChangeAt Go.RowKit
set_option linter.unusedVariables false
set_option linter.unusedSimpArgs false

theorem sized_of_block {w : World} {g : Nat} {o : Obj} (h : w.heap[g]? = some o) : g < w.heap.size := (Array.getElem?_eq_some_iff.1 h).1

/-- 'copy(cp, src)', cp a row of n cells made just now, src n cells: the row holds the cells. -/
theorem copy_made (g n cap0 : Nat) (a0 : Option Addr) (cs : List Value) (W : World) (hcs : cs.length = n) (h1c : ∀ v ∈ cs, v.oneCell' = true)
    (hg : W.heap[g]? = some (.cells (madeCells #[.int .u8 0] n) 5 (0, 0)))
    (hsrc : 0 < n → ∃ ad, a0 = some ad ∧ ∀ j v, cs[j]? = some v → W.cell? (ad.add j) = some v) :
    ∃ w2, (Builtin.copy_ #[62, 62] 3 #[.slice (some ⟨g, 0, none⟩) n n, .slice a0 n cap0]).run Yba.prog W = .ok (.int .i64 n) w2 ∧
      w2.heap[g]? = some (.cells cs.toArray 5 (0, 0)) ∧ w2.heap.size = W.heap.size ∧ ∀ B, B ≤ g → Below B W w2 := by
  obtain ⟨i0, hi, hz0, hz1, hz2⟩ := info_parts info5
  by_cases h0 : n = 0
  · subst h0
    obtain rfl : cs = [] := List.eq_nil_of_length_eq_zero hcs
    refine ⟨W, ?_, ?_, rfl, fun B _ => Below.refl _ _⟩
    · exact run_copy_none (P := Yba.prog) W 62 62 3 5 (some ⟨g, 0, none⟩) a0 0 0 0 cap0 Yba.underlying62 (by rw [hi]; simp [hz1]) (by simp)
    · rw [hg]; simp [madeCells]
  · obtain ⟨ad, rfl, hc⟩ := hsrc (by omega)
    refine ⟨W.setRow g cs.toArray, ?_, ?_, by simp [World.setRow], fun B hB => below_setRow (Below.refl _ _) hB _⟩
    · have h := run_copy_row (P := Yba.prog) W 62 62 3 5 g 0 n n ad n cap0 (madeCells #[.int .u8 0] n) 5 cs Yba.underlying62 (by rw [hi]; simp [hz1]) hg (by simp [hcs]) hc (by simp [size_madeCells, hcs]) h1c
      rw [h, hcs]
      have e : ((madeCells #[Value.int .u8 0] n).toList.take 0 ++ cs ++ (madeCells #[Value.int .u8 0] n).toList.drop (0 + n)).toArray = cs.toArray := by
        rw [List.drop_eq_nil_of_le (by simp [size_madeCells])]; simp
      rw [e]
      rfl
    · exact setRow_heap W g _ _ 5 _ hg

theorem main_out (a0 : Option Addr) (len0 cap0 : Nat) (a1 a2 a3 a4 : Int) (w : World) (hl : 1024 < len0 ∨ len0 = 0) (hm : len0 ≤ maxLen) :
    Calls Yba.prog 4 #[.slice a0 len0 cap0, .int .u64 a1, .int .u8 a2, .int .i64 a3, .int .i64 a4] w fun e w' => e = .returned (.bool true) ∧ Below w.heap.size w w' := by
  unfold maxLen at hm
  rcases hl with hl | rfl
  · go_enter Yba.func4, Yba.ntmps4
    go_wp2_with fail
    go_ret
    exact ⟨rfl, Below.refl _ _⟩
  · go_enter Yba.func4, Yba.ntmps4
    go_wp2_with fail
    go_ret
    exact ⟨rfl, Below.refl _ _⟩

set_option maxRecDepth 100000 in
set_option maxHeartbeats 1000000 in
theorem main_cr (b off : Nat) (n cap0 : Nat) (zs : List Int) (k : Nat) (a1 a2 a3 a4 sz : Int) (w w2 : World) (hn : n ≤ 1024) (h0 : 0 < n) (hkn : k < n) (hzs : zs.length = n)
    (hrun : (Builtin.copy_ #[62, 62] 3 #[.slice (some ⟨w.heap.size, 0, none⟩) n n, .slice (some ⟨b, off, none⟩) n cap0]).run Yba.prog (w.alloc (.cells (madeCells #[.int .u8 0] n) 5)) = .ok (.int .i64 n) w2)
    (hg2 : w2.heap[w.heap.size]? = some (.cells (zs.map (Value.int .u8)).toArray 5 (0, 0))) (hB2 : Below w.heap.size w w2)
    (hsrc : ∀ j, j < n → w.cell? ⟨b, off + j, none⟩ = some (.int .u8 (zs.getD j 0)))
    (hk : a1 % (n : Int) = k) (hsz : a2 % 4 = sz) (hsz0 : 0 ≤ sz ∧ sz ≤ 3) (b1 : 0 ≤ a1 ∧ a1 ≤ 18446744073709551615) (b2 : 0 ≤ a2 ∧ a2 ≤ 255)
    (c : Int) (hc : zs.getD k 0 = c) (hnl : (c == 10) = false) (hcr : (c == 13) = true) (h2 : (sz == 2) = true) :
    Calls Yba.prog 4 #[.slice (some ⟨b, off, none⟩) n cap0, .int .u64 a1, .int .u8 a2, .int .i64 a3, .int .i64 a4] w fun e w' => e = .returned (.bool true) ∧ Below w.heap.size w w' := by
  have HG : Hid _ := hg2
  have HB : Hid _ := hB2
  have HS : Hid _ := hsrc
  have HZ : Hid _ := hzs
  have hlt := sized_of_block hg2
  have hcell : w2.cell? ⟨w.heap.size, k, none⟩ = some (.int .u8 c) := by
    have hkz : k < zs.length := by omega
    simp [World.cell?, hg2, hkz] ; simpa [hkz] using hc
  clear hg2 hB2 hsrc hc hzs
  obtain ⟨b1a, b1b⟩ := b1
  obtain ⟨b2a, b2b⟩ := b2
  obtain ⟨s0, s1⟩ := hsz0
  have hnz : ((n : Int) == 0) = false := by simp; omega
  have hkI : (0 : Int) ≤ (k : Int) := by omega
  have hkI2 : (k : Int) < (n : Int) := by omega
  have hmk := fun wx => run_make_row' (P := Yba.prog) 62 5 (.int .u8 0) 1 Yba.underlying62 info5 rfl .i64 .i64 n (by omega) (by omega) wx
  go_enter Yba.func4, Yba.ntmps4
  go_wp2_with fail
  refine (next_cr w2.heap.size w.heap.size n sz a3 a4 k c _ hkn hn ⟨s0, s1⟩ (by simp) (by simp) (by simp) (by simp) (by simp) (by simp) (by simp) (by simp) (by rw [World.cell?_alloc_past _ _ _ hlt]; exact hcell) hnl hcr h2).mono ?_
  rintro e w3 ⟨rfl, nq, rfl⟩
  go_wp2_with fail
  refine (equal_same _ _ (strOfNums zs) _ (run_convert_bytes_arg _ 62 5 Yba.underlying62 Yba.underlying5 _ _ n n zs HZ.out ?_ 9 Yba.underlying9) (run_convert_bytes_arg _ 62 5 Yba.underlying62 Yba.underlying5 _ _ n cap0 zs HZ.out ?_ 9 Yba.underlying9)).mono ?_
  · intro i hi
    refine cell_later (w := w2) (below_drewN (Below.alloc (Below.refl _ _) (Nat.le_refl _) _) _) ?_
    have hz := HZ.out
    have hiz : i < zs.length := by omega
    rw [Nat.zero_add]
    simp [World.cell?, HG.out, hiz]
  · intro i hi
    exact cell_later (w := w) (below_drewN (Below.alloc HB.out (by omega) _) _) (HS.out i hi)
  rintro e w4 ⟨rfl, rfl⟩
  go_wp2_with fail
  go_ret
  exact ⟨rfl, below_drewN (Below.alloc HB.out (by omega) _) _⟩
set_option maxRecDepth 100000 in
set_option maxHeartbeats 1000000 in
theorem main_a (b off : Nat) (n cap0 : Nat) (zs : List Int) (k : Nat) (a1 a2 a3 a4 sz : Int) (w w2 : World) (hn : n ≤ 1024) (h0 : 0 < n) (hkn : k < n) (hzs : zs.length = n)
    (hrun : (Builtin.copy_ #[62, 62] 3 #[.slice (some ⟨w.heap.size, 0, none⟩) n n, .slice (some ⟨b, off, none⟩) n cap0]).run Yba.prog (w.alloc (.cells (madeCells #[.int .u8 0] n) 5)) = .ok (.int .i64 n) w2)
    (hg2 : w2.heap[w.heap.size]? = some (.cells (zs.map (Value.int .u8)).toArray 5 (0, 0))) (hB2 : Below w.heap.size w w2)
    (hsrc : ∀ j, j < n → w.cell? ⟨b, off + j, none⟩ = some (.int .u8 (zs.getD j 0)))
    (hk : a1 % (n : Int) = k) (hsz : a2 % 4 = sz) (hsz0 : 0 ≤ sz ∧ sz ≤ 3) (b1 : 0 ≤ a1 ∧ a1 ≤ 18446744073709551615) (b2 : 0 ≤ a2 ∧ a2 ≤ 255)
    (c : Int) (hc : zs.getD k 0 = c) (hnl : (c == 10) = false) (hcr : (c == 13) = false) :
    Calls Yba.prog 4 #[.slice (some ⟨b, off, none⟩) n cap0, .int .u64 a1, .int .u8 a2, .int .i64 a3, .int .i64 a4] w fun e w' => e = .returned (.bool true) ∧ Below w.heap.size w w' := by
  have HG : Hid _ := hg2
  have HB : Hid _ := hB2
  have HS : Hid _ := hsrc
  have HZ : Hid _ := hzs
  have hlt := sized_of_block hg2
  have hcell : w2.cell? ⟨w.heap.size, k, none⟩ = some (.int .u8 c) := by
    have hkz : k < zs.length := by omega
    simp [World.cell?, hg2, hkz] ; simpa [hkz] using hc
  clear hg2 hB2 hsrc hc hzs
  obtain ⟨b1a, b1b⟩ := b1
  obtain ⟨b2a, b2b⟩ := b2
  obtain ⟨s0, s1⟩ := hsz0
  have hnz : ((n : Int) == 0) = false := by simp; omega
  have hkI : (0 : Int) ≤ (k : Int) := by omega
  have hkI2 : (k : Int) < (n : Int) := by omega
  have hmk := fun wx => run_make_row' (P := Yba.prog) 62 5 (.int .u8 0) 1 Yba.underlying62 info5 rfl .i64 .i64 n (by omega) (by omega) wx
  go_enter Yba.func4, Yba.ntmps4
  go_wp2_with fail
  refine (next_a w2.heap.size w.heap.size n sz a3 a4 k c _ hkn hn ⟨s0, s1⟩ (by simp) (by simp) (by simp) (by simp) (by simp) (by simp) (by simp) (by simp) (by rw [World.cell?_alloc_past _ _ _ hlt]; exact hcell) hnl hcr).mono ?_
  rintro e w3 ⟨rfl, nq, rfl⟩
  go_wp2_with fail
  refine (equal_same _ _ (strOfNums zs) _ (run_convert_bytes_arg _ 62 5 Yba.underlying62 Yba.underlying5 _ _ n n zs HZ.out ?_ 9 Yba.underlying9) (run_convert_bytes_arg _ 62 5 Yba.underlying62 Yba.underlying5 _ _ n cap0 zs HZ.out ?_ 9 Yba.underlying9)).mono ?_
  · intro i hi
    refine cell_later (w := w2) (below_drewN (Below.alloc (Below.refl _ _) (Nat.le_refl _) _) _) ?_
    have hz := HZ.out
    have hiz : i < zs.length := by omega
    rw [Nat.zero_add]
    simp [World.cell?, HG.out, hiz]
  · intro i hi
    exact cell_later (w := w) (below_drewN (Below.alloc HB.out (by omega) _) _) (HS.out i hi)
  rintro e w4 ⟨rfl, rfl⟩
  go_wp2_with fail
  go_ret
  exact ⟨rfl, below_drewN (Below.alloc HB.out (by omega) _) _⟩
set_option maxRecDepth 100000 in
set_option maxHeartbeats 1000000 in
theorem main_b (b off : Nat) (n cap0 : Nat) (zs : List Int) (k : Nat) (a1 a2 a3 a4 sz : Int) (w w2 : World) (hn : n ≤ 1024) (h0 : 0 < n) (hkn : k < n) (hzs : zs.length = n)
    (hrun : (Builtin.copy_ #[62, 62] 3 #[.slice (some ⟨w.heap.size, 0, none⟩) n n, .slice (some ⟨b, off, none⟩) n cap0]).run Yba.prog (w.alloc (.cells (madeCells #[.int .u8 0] n) 5)) = .ok (.int .i64 n) w2)
    (hg2 : w2.heap[w.heap.size]? = some (.cells (zs.map (Value.int .u8)).toArray 5 (0, 0))) (hB2 : Below w.heap.size w w2)
    (hsrc : ∀ j, j < n → w.cell? ⟨b, off + j, none⟩ = some (.int .u8 (zs.getD j 0)))
    (hk : a1 % (n : Int) = k) (hsz : a2 % 4 = sz) (hsz0 : 0 ≤ sz ∧ sz ≤ 3) (b1 : 0 ≤ a1 ∧ a1 ≤ 18446744073709551615) (b2 : 0 ≤ a2 ∧ a2 ≤ 255)
    (c : Int) (hc : zs.getD k 0 = c) (hnl : (c == 10) = false) (hcr : (c == 13) = true) (h2 : (sz == 2) = false) :
    Calls Yba.prog 4 #[.slice (some ⟨b, off, none⟩) n cap0, .int .u64 a1, .int .u8 a2, .int .i64 a3, .int .i64 a4] w fun e w' => e = .returned (.bool true) ∧ Below w.heap.size w w' := by
  have HG : Hid _ := hg2
  have HB : Hid _ := hB2
  have HS : Hid _ := hsrc
  have HZ : Hid _ := hzs
  have hlt := sized_of_block hg2
  have hcell : w2.cell? ⟨w.heap.size, k, none⟩ = some (.int .u8 c) := by
    have hkz : k < zs.length := by omega
    simp [World.cell?, hg2, hkz] ; simpa [hkz] using hc
  clear hg2 hB2 hsrc hc hzs
  obtain ⟨b1a, b1b⟩ := b1
  obtain ⟨b2a, b2b⟩ := b2
  obtain ⟨s0, s1⟩ := hsz0
  have hnz : ((n : Int) == 0) = false := by simp; omega
  have hkI : (0 : Int) ≤ (k : Int) := by omega
  have hkI2 : (k : Int) < (n : Int) := by omega
  have hmk := fun wx => run_make_row' (P := Yba.prog) 62 5 (.int .u8 0) 1 Yba.underlying62 info5 rfl .i64 .i64 n (by omega) (by omega) wx
  go_enter Yba.func4, Yba.ntmps4
  go_wp2_with fail
  refine (next_b w2.heap.size w.heap.size n sz a3 a4 k c _ hkn hn ⟨s0, s1⟩ (by simp) (by simp) (by simp) (by simp) (by simp) (by simp) (by simp) (by simp) (by rw [World.cell?_alloc_past _ _ _ hlt]; exact hcell) hnl hcr h2).mono ?_
  rintro e w3 ⟨rfl, nq, rfl⟩
  go_wp2_with fail
  refine (equal_same _ _ (strOfNums zs) _ (run_convert_bytes_arg _ 62 5 Yba.underlying62 Yba.underlying5 _ _ n n zs HZ.out ?_ 9 Yba.underlying9) (run_convert_bytes_arg _ 62 5 Yba.underlying62 Yba.underlying5 _ _ n cap0 zs HZ.out ?_ 9 Yba.underlying9)).mono ?_
  · intro i hi
    refine cell_later (w := w2) (below_drewN (Below.alloc (Below.refl _ _) (Nat.le_refl _) _) _) ?_
    have hz := HZ.out
    have hiz : i < zs.length := by omega
    rw [Nat.zero_add]
    simp [World.cell?, HG.out, hiz]
  · intro i hi
    exact cell_later (w := w) (below_drewN (Below.alloc HB.out (by omega) _) _) (HS.out i hi)
  rintro e w4 ⟨rfl, rfl⟩
  go_wp2_with fail
  go_ret
  exact ⟨rfl, below_drewN (Below.alloc HB.out (by omega) _) _⟩
set_option maxRecDepth 100000 in
set_option maxHeartbeats 1000000 in
theorem main_nl (b off : Nat) (n cap0 : Nat) (zs : List Int) (k : Nat) (a1 a2 a3 a4 sz : Int) (w w2 : World) (hn : n ≤ 1024) (h0 : 0 < n) (hkn : k < n) (hzs : zs.length = n)
    (hrun : (Builtin.copy_ #[62, 62] 3 #[.slice (some ⟨w.heap.size, 0, none⟩) n n, .slice (some ⟨b, off, none⟩) n cap0]).run Yba.prog (w.alloc (.cells (madeCells #[.int .u8 0] n) 5)) = .ok (.int .i64 n) w2)
    (hg2 : w2.heap[w.heap.size]? = some (.cells (zs.map (Value.int .u8)).toArray 5 (0, 0))) (hB2 : Below w.heap.size w w2)
    (hsrc : ∀ j, j < n → w.cell? ⟨b, off + j, none⟩ = some (.int .u8 (zs.getD j 0)))
    (hk : a1 % (n : Int) = k) (hsz : a2 % 4 = sz) (hsz0 : 0 ≤ sz ∧ sz ≤ 3) (b1 : 0 ≤ a1 ∧ a1 ≤ 18446744073709551615) (b2 : 0 ≤ a2 ∧ a2 ≤ 255)
    (c : Int) (hc : zs.getD k 0 = c) (hnl : (c == 10) = true) :
    Calls Yba.prog 4 #[.slice (some ⟨b, off, none⟩) n cap0, .int .u64 a1, .int .u8 a2, .int .i64 a3, .int .i64 a4] w fun e w' => e = .returned (.bool true) ∧ Below w.heap.size w w' := by
  have HG : Hid _ := hg2
  have HB : Hid _ := hB2
  have HS : Hid _ := hsrc
  have HZ : Hid _ := hzs
  have hlt := sized_of_block hg2
  have hcell : w2.cell? ⟨w.heap.size, k, none⟩ = some (.int .u8 c) := by
    have hkz : k < zs.length := by omega
    simp [World.cell?, hg2, hkz] ; simpa [hkz] using hc
  clear hg2 hB2 hsrc hc hzs
  obtain ⟨b1a, b1b⟩ := b1
  obtain ⟨b2a, b2b⟩ := b2
  obtain ⟨s0, s1⟩ := hsz0
  have hnz : ((n : Int) == 0) = false := by simp; omega
  have hkI : (0 : Int) ≤ (k : Int) := by omega
  have hkI2 : (k : Int) < (n : Int) := by omega
  have hmk := fun wx => run_make_row' (P := Yba.prog) 62 5 (.int .u8 0) 1 Yba.underlying62 info5 rfl .i64 .i64 n (by omega) (by omega) wx
  go_enter Yba.func4, Yba.ntmps4
  go_wp2_with fail
  refine (next_nl w2.heap.size w.heap.size n sz a3 a4 k c _ hkn hn ⟨s0, s1⟩ (by simp) (by simp) (by simp) (by simp) (by simp) (by simp) (by simp) (by simp) (by rw [World.cell?_alloc_past _ _ _ hlt]; exact hcell) hnl).mono ?_
  rintro e w3 ⟨rfl, nq, rfl⟩
  go_wp2_with fail
  refine (equal_same _ _ (strOfNums zs) _ (run_convert_bytes_arg _ 62 5 Yba.underlying62 Yba.underlying5 _ _ n n zs HZ.out ?_ 9 Yba.underlying9) (run_convert_bytes_arg _ 62 5 Yba.underlying62 Yba.underlying5 _ _ n cap0 zs HZ.out ?_ 9 Yba.underlying9)).mono ?_
  · intro i hi
    refine cell_later (w := w2) (below_drewN (Below.alloc (Below.refl _ _) (Nat.le_refl _) _) _) ?_
    have hz := HZ.out
    have hiz : i < zs.length := by omega
    rw [Nat.zero_add]
    simp [World.cell?, HG.out, hiz]
  · intro i hi
    exact cell_later (w := w) (below_drewN (Below.alloc HB.out (by omega) _) _) (HS.out i hi)
  rintro e w4 ⟨rfl, rfl⟩
  go_wp2_with fail
  go_ret
  exact ⟨rfl, below_drewN (Below.alloc HB.out (by omega) _) _⟩
end Go.Proofs.Ybulkdfee
