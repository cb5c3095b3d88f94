import Derived.Test.YbulkdfdcLeaf3
namespace Go.Proofs.Ybulkdfdc
open Go.ChangeShapes Go.WideShapes Go.ChangeAt Go.RowKit
set_option linter.unusedVariables false
set_option linter.unusedSimpArgs false

structure Dg where
  s : Int
  a : Int
  b : Int
  c : Int
  d : Int

structure Dg.Ok (x : Dg) : Prop where
  a0 : 0 ≤ x.a
  a1 : x.a ≤ 18446744073709551615
  b0 : 0 ≤ x.b
  b1 : x.b ≤ 18446744073709551615
  c0 : 0 ≤ x.c
  c1 : x.c ≤ 18446744073709551615
  d0 : 0 ≤ x.d
  d1 : x.d ≤ 18446744073709551615

def Dg.cells (x : Dg) : List Value := [.int .i64 x.s, .int .u64 x.a, .int .u64 x.b, .int .u64 x.c, .int .u64 x.d]
def Dg.enc (x : Dg) : List Value := bytesBE 8 (IntKind.u64.wrap x.s) ++ bytesBE 8 x.a ++ bytesBE 8 x.b ++ bytesBE 8 x.c ++ bytesBE 8 x.d
@[simp] theorem Dg.length_enc (x : Dg) : x.enc.length = 40 := by simp [Dg.enc]

/-- The next piece, behind what has been appended so far. -/
theorem App.next {B : Nat} {w w1 w2 : World} {v v1 v2 : Value} {xs ys zs : List Value} (h0 : w.ownsRow B 5 1 v xs.length xs) (h1 : App B 5 w v xs w1 v1 (xs ++ ys)) (h2 : App B 5 w1 v1 (xs ++ ys) w2 v2 (xs ++ ys ++ zs)) : App B 5 w v xs w2 v2 (xs ++ (ys ++ zs)) := by
  rw [← List.append_assoc]
  exact App.trans h0 h1 h2

theorem App.first {B : Nat} {w : World} {v : Value} {xs : List Value} (h : w.ownsRow B 5 1 v xs.length xs) (o : Obj) : App B 5 w v xs (w.alloc o) v (xs ++ []) := by
  rw [List.append_nil]; exact App.start h o

theorem inf22 : (Yba.prog.info? 22).map (fun i => (i.zero, i.size, i.bytes)) = some (some (.int .u64 0), 1, 8) := by kernel_rfl

/-- One element of a [4]uint64 by value. -/
theorem run_index101 (w : World) (cs : Array Value) (k : Nat) (u : Value) (i : Int) (hi : i = (k : Int)) (hk : k < 4) (hu : cs[k]? = some u) : (Instr.index 101 (.agg cs) (.int .i64 i)).run Yba.prog w = .ok u w := by
  subst hi
  obtain ⟨i22, hi22, h22a, h22b, h22c⟩ := info_parts inf22
  have hU := run_underlying Yba.underlying101 w
  have hG : (isAgg 22).run Yba.prog w = .ok false w := by
    unfold isAgg
    rw [Sem.run_bind, run_underlying Yba.underlying22 w]
    rfl
  simp only [Instr.index, asIntOf, Sem.run_bind, Sem.run_pure, Result.andThen_ok, hU]
  rw [if_pos ⟨by omega, by omega⟩]
  simp [Sem.run_bind, part, hG, sizeOf, typeInfo, hi22, h22b, hu]

theorem dig27 (B : Nat) (v : Value) (xs : List Value) (x : Dg) (hx : x.Ok) (w : World) (hown : w.ownsRow B 5 1 v xs.length xs) (hlen : xs.length + 40 ≤ 1099511627776) (hB : B ≤ w.heap.size) :
    Calls Yba.prog 27 #[v, .agg x.cells.toArray] w fun e w' => ∃ v', e = .returned v' ∧ App B 5 w v xs w' v' (xs ++ x.enc) := by
  obtain ⟨s, a, b, c, d⟩ := x
  have HO : Hid _ := hown
  have HX : Hid _ := hx
  clear hown hx
  simp only [Dg.cells]
  have hA0 : Hid (App B 5 w v xs (w.alloc (.cells #[.int .i64 s, .int .u64 a, .int .u64 b, .int .u64 c, .int .u64 d] 103)) v (xs ++ [])) := App.first HO.out _
  have hb0 : (w.alloc (.cells #[.int .i64 s, .int .u64 a, .int .u64 b, .int .u64 c, .int .u64 d] 103)).heap[w.heap.size]? = some (.cells [.int .i64 s, .int .u64 a, .int .u64 b, .int .u64 c, .int .u64 d].toArray 103 (0, 0)) := heap_alloc_new _ _
  have HB0 : Hid _ := hb0
  clear hb0
  go_enter Yba.func27, Yba.ntmps27
  go_wp2_with fail
  refine (put25 B v (xs ++ []) _ 8 (Or.inl rfl) _ hA0.out.own (by simp; omega) (by simp; omega) (wrap64 s).1 (wrap64 s).2).mono ?_
  rintro e w1 ⟨v1, rfl, hA⟩
  have H1 : Hid _ := App.next HO.out hA0.out hA
  have HB1 : Hid _ := App.other hA0.out.own hA HB0.out (by decide)
  have hz1 := H1.out.grown.size
  clear hA hA0 HB0
  have c1 : w1.cell? ⟨w.heap.size, 1, none⟩ = some (.int .u64 a) := cell_of_block HB1.out rfl
  go_wp2_with fail
  refine wp_loop_rounds 5 ?_
  rw [rounds_succ]
  go_wp2_with fail
  refine (put25 B v1 _ a 8 (Or.inl rfl) _ H1.out.own (by simp; omega) (by omega) HX.out.a0 HX.out.a1).mono ?_
  rintro e w2 ⟨v2, rfl, hA⟩
  have H2 : Hid _ := App.next HO.out H1.out hA
  have HB2 : Hid _ := App.other H1.out.own hA HB1.out (by decide)
  have hz2 := H2.out.grown.size
  have c2 : w2.cell? ⟨w.heap.size, 2, none⟩ = some (.int .u64 b) := cell_of_block HB2.out rfl
  clear hA H1 HB1 hz1 c1
  go_wp2_with fail
  rw [rounds_succ]
  go_wp2_with fail
  refine (put25 B v2 _ b 8 (Or.inl rfl) _ H2.out.own (by simp; omega) (by omega) HX.out.b0 HX.out.b1).mono ?_
  rintro e w3 ⟨v3, rfl, hA⟩
  have H3 : Hid _ := App.next HO.out H2.out hA
  have HB3 : Hid _ := App.other H2.out.own hA HB2.out (by decide)
  have hz3 := H3.out.grown.size
  have c3 : w3.cell? ⟨w.heap.size, 3, none⟩ = some (.int .u64 c) := cell_of_block HB3.out rfl
  clear hA H2 HB2 hz2 c2
  go_wp2_with fail
  rw [rounds_succ]
  go_wp2_with fail
  refine (put25 B v3 _ c 8 (Or.inl rfl) _ H3.out.own (by simp; omega) (by omega) HX.out.c0 HX.out.c1).mono ?_
  rintro e w4 ⟨v4, rfl, hA⟩
  have H4 : Hid _ := App.next HO.out H3.out hA
  have HB4 : Hid _ := App.other H3.out.own hA HB3.out (by decide)
  have hz4 := H4.out.grown.size
  have c4 : w4.cell? ⟨w.heap.size, 4, none⟩ = some (.int .u64 d) := cell_of_block HB4.out rfl
  clear hA H3 HB3 hz3 c3
  go_wp2_with fail
  rw [rounds_succ]
  go_wp2_with fail
  refine (put25 B v4 _ d 8 (Or.inl rfl) _ H4.out.own (by simp; omega) (by omega) HX.out.d0 HX.out.d1).mono ?_
  rintro e w5 ⟨v5, rfl, hA⟩
  have H5 : Hid _ := App.next HO.out H4.out hA
  have HB5 : Hid _ := App.other H4.out.own hA HB4.out (by decide)
  have hz5 := H5.out.grown.size
  clear hA H4 HB4 hz4 c4
  go_wp2_with fail
  rw [rounds_succ]
  go_wp2_with fail
  go_ret
  exact ⟨v5, rfl, by simpa [Dg.enc] using H5.out⟩

set_option maxRecDepth 20000 in
theorem digest23 (B : Nat) (v : Value) (xs : List Value) (x : Dg) (hx : x.Ok) (w : World) (hown : w.ownsRow B 5 1 v xs.length xs) (hlen : xs.length + 40 ≤ 1099511627776) (hB : B ≤ w.heap.size) :
    Calls Yba.prog 23 #[v, .agg x.cells.toArray] w fun e w' => ∃ v', e = .returned v' ∧ App B 5 w v xs w' v' (xs ++ x.enc) := by
  obtain ⟨s, a, b, c, d⟩ := x
  have HO : Hid _ := hown
  have HX : Hid _ := hx
  clear hown hx
  simp only [Dg.cells]
  have hA0 : Hid (App B 5 w v xs (w.alloc (.cells #[.int .i64 s, .int .u64 a, .int .u64 b, .int .u64 c, .int .u64 d] 111)) v (xs ++ [])) := App.first HO.out _
  have hb0 : (w.alloc (.cells #[.int .i64 s, .int .u64 a, .int .u64 b, .int .u64 c, .int .u64 d] 111)).heap[w.heap.size]? = some (.cells [.int .i64 s, .int .u64 a, .int .u64 b, .int .u64 c, .int .u64 d].toArray 111 (0, 0)) := heap_alloc_new _ _
  have HB0 : Hid _ := hb0
  clear hb0
  go_enter Yba.func23, Yba.ntmps23
  go_wp2_with fail
  refine (u64_20 B v (xs ++ []) _ _ hA0.out.own (by simp; omega) (by simp; omega) (wrap64 s).1 (wrap64 s).2).mono ?_
  rintro e w1 ⟨v1, rfl, hA⟩
  have H1 : Hid _ := App.next HO.out hA0.out hA
  have HB1 : Hid _ := App.other hA0.out.own hA HB0.out (by decide)
  have hz1 := H1.out.grown.size
  clear hA hA0 HB0
  have c1 : w1.cell? ⟨w.heap.size, 1, none⟩ = some (.int .u64 a) := cell_of_block HB1.out rfl
  have c2 : w1.cell? ⟨w.heap.size, 2, none⟩ = some (.int .u64 b) := cell_of_block HB1.out rfl
  have c3 : w1.cell? ⟨w.heap.size, 3, none⟩ = some (.int .u64 c) := cell_of_block HB1.out rfl
  have c4 : w1.cell? ⟨w.heap.size, 4, none⟩ = some (.int .u64 d) := cell_of_block HB1.out rfl
  go_wp2_with fail
  refine wp_loop_rounds 5 ?_
  clear c1 c2 c3 c4
  rw [rounds_succ]
  have hix := run_index101 w1 #[.int .u64 a, .int .u64 b, .int .u64 c, .int .u64 d] 0 (.int .u64 a) 0 rfl (by decide) rfl
  go_wp2_with fail
  clear hix
  refine (u64_20 B v1 _ a _ H1.out.own (by simp; omega) (by omega) HX.out.a0 HX.out.a1).mono ?_
  rintro e w2 ⟨v2, rfl, hA⟩
  have H2 : Hid _ := App.next HO.out H1.out hA
  have HB2 : Hid _ := App.other H1.out.own hA HB1.out (by decide)
  have hz2 := H2.out.grown.size
  clear hA H1 HB1 hz1
  go_wp2_with fail
  rw [rounds_succ]
  have hix := run_index101 w2 #[.int .u64 a, .int .u64 b, .int .u64 c, .int .u64 d] 1 (.int .u64 b) 1 rfl (by decide) rfl
  go_wp2_with fail
  clear hix
  refine (u64_20 B v2 _ b _ H2.out.own (by simp; omega) (by omega) HX.out.b0 HX.out.b1).mono ?_
  rintro e w3 ⟨v3, rfl, hA⟩
  have H3 : Hid _ := App.next HO.out H2.out hA
  have HB3 : Hid _ := App.other H2.out.own hA HB2.out (by decide)
  have hz3 := H3.out.grown.size
  clear hA H2 HB2 hz2
  go_wp2_with fail
  rw [rounds_succ]
  have hix := run_index101 w3 #[.int .u64 a, .int .u64 b, .int .u64 c, .int .u64 d] 2 (.int .u64 c) 2 rfl (by decide) rfl
  go_wp2_with fail
  clear hix
  refine (u64_20 B v3 _ c _ H3.out.own (by simp; omega) (by omega) HX.out.c0 HX.out.c1).mono ?_
  rintro e w4 ⟨v4, rfl, hA⟩
  have H4 : Hid _ := App.next HO.out H3.out hA
  have HB4 : Hid _ := App.other H3.out.own hA HB3.out (by decide)
  have hz4 := H4.out.grown.size
  clear hA H3 HB3 hz3
  go_wp2_with fail
  rw [rounds_succ]
  have hix := run_index101 w4 #[.int .u64 a, .int .u64 b, .int .u64 c, .int .u64 d] 3 (.int .u64 d) 3 rfl (by decide) rfl
  go_wp2_with fail
  clear hix
  refine (u64_20 B v4 _ d _ H4.out.own (by simp; omega) (by omega) HX.out.d0 HX.out.d1).mono ?_
  rintro e w5 ⟨v5, rfl, hA⟩
  have H5 : Hid _ := App.next HO.out H4.out hA
  have HB5 : Hid _ := App.other H4.out.own hA HB4.out (by decide)
  have hz5 := H5.out.grown.size
  clear hA H4 HB4 hz4
  go_wp2_with fail
  rw [rounds_succ]
  go_wp2_with fail
  go_ret
  exact ⟨v5, rfl, by simpa [Dg.enc] using H5.out⟩

end Go.Proofs.Ybulkdfdc
