import Derived.Test.YbulkdfgwLawA
import Derived.Deep.CutRange
namespace Go.Proofs.Ybulkdfgw
open Go.ChangeShapes Go.WideShapes Go.ChangeAt Go.RowKit
set_option linter.unusedVariables false
set_option linter.unusedSimpArgs false

theorem wpList_alloc_store {P : Program} {w : World} {ops : Array Oper} {rest : List Oper} {o1 o2 : Oper} {a : Act} {Q : Exit → Act → World → Prop} (g1 : o1.guard = none) (g2 : o2.guard = none) (T : TypeId) (d : Nat) (y : Operand)
    (h1 : o1.op = .alloc T) (hd1 : o1.dst = some d) (h2 : o2.op = .store T (.tmp d) y) (hd2 : o2.dst = none) (z : Value) (n : Nat) (hi : (P.info? T).map (fun i => (i.zero, i.size)) = some (some z, n)) (hzn : z.cells.size = n) (cells : Array Value) (hcn : cells.size = n)
    (h1c : cells.all (·.oneCell') = true) (hx : (a.put (some d) (.pointer (some ⟨w.heap.size, 0, none⟩))).eval (.tmp d) = .pointer (some ⟨w.heap.size, 0, none⟩)) (hy : (a.put (some d) (.pointer (some ⟨w.heap.size, 0, none⟩))).eval y = .agg cells)
    (h : wpList P ops Q rest (a.put (some d) (.pointer (some ⟨w.heap.size, 0, none⟩))) (w.alloc (.cells cells T))) : wpList P ops Q (o1 :: o2 :: rest) a w := by
  subst hcn
  have hzs := hzn
  obtain ⟨hz, hsz⟩ := zero_of_info hi
  refine wpList_plain g1 fun K hK => ?_
  unfold Oper.wp
  simp [execOp, h1, Instr.alloc, hz, newVar, newRow, Result.andThen]
  refine hK (a.put o1.dst (.pointer (some ⟨w.heap.size, 0, none⟩))) _ ?_
  rw [hd1]
  refine wpList_plain g2 fun K2 hK2 => ?_
  unfold Oper.wp
  have hst := run_storeAt_new (P := P) w T z.cells cells hsz hzs h1c
  simp [execOp, h2, hx, hy, hst, Result.andThen]
  have e : (a.put (some d) (.pointer (some ⟨w.heap.size, 0, none⟩))).put o2.dst undef = a.put (some d) (.pointer (some ⟨w.heap.size, 0, none⟩)) := by rw [hd2]; rfl
  exact hK2 _ _ (by first | exact h | (rw [e]; exact h))

def PA (g : Nat) (p : Pr) (w : World) : Prop := w.rangeAt g 0 p.cells ∧ g < w.heap.size
theorem PA.below {g : Nat} {p : Pr} {w w' : World} (h : PA g p w) (hB : Below w.heap.size w w') : PA g p w' := ⟨rangeAt_blk (hB.block _ h.2) h.1, Nat.lt_of_lt_of_le h.2 hB.size⟩
theorem PA.new (w : World) (p : Pr) (t : TypeId) : PA w.heap.size p (w.alloc (.cells p.cells.toArray t)) := ⟨range_of_blk (heap_alloc_new _ _), by simp⟩
def RA (g : Nat) (x : List UInt8) (w : World) : Prop := w.rangeAt g 0 (idC x) ∧ g < w.heap.size
theorem RA.below {g : Nat} {x : List UInt8} {w w' : World} (h : RA g x w) (hB : Below w.heap.size w w') : RA g x w' := ⟨rangeAt_blk (hB.block _ h.2) h.1, Nat.lt_of_lt_of_le h.2 hB.size⟩
def peerZ : Value := .agg zeroP.cells.toArray
theorem info67 : (Yba.prog.info? 67).map (fun i => (i.zero, i.size)) = some (some peerZ, 21) := by kernel_rfl
def thZ : Value := .agg Z87
theorem info87 : (Yba.prog.info? 87).map (fun i => (i.zero, i.size)) = some (some thZ, 63) := by kernel_rfl
theorem step_alloc (w : World) (o : Obj) : Below w.heap.size w (w.alloc o) := (Below.refl _ _).alloc (Nat.le_refl _) _

theorem exec_eql67v {o : Oper} {x y : Operand} {p q : Pr} {v : Bool} (hv : eqP p q = v) (ho : o.op = .binOp .eql 67 x y 67) {a : Act} (hx : a.eval x = .agg p.cells.toArray) (hy : a.eval y = .agg q.cells.toArray) (hp : p.Ok) (hq : q.Ok) (w : World) : (execOp a.eval o).run Yba.prog w = .ok (.value (.bool v)) w := by
  rw [← hv]; exact exec_eql67 ho hx hy hp hq w
theorem exec_neq67v {o : Oper} {x y : Operand} {p q : Pr} {v : Bool} (hv : (!eqP p q) = v) (ho : o.op = .binOp .neq 67 x y 67) {a : Act} (hx : a.eval x = .agg p.cells.toArray) (hy : a.eval y = .agg q.cells.toArray) (hp : p.Ok) (hq : q.Ok) (w : World) : (execOp a.eval o).run Yba.prog w = .ok (.value (.bool v)) w := by
  rw [← hv]; exact exec_neq67 ho hx hy hp hq w

/-- A goal that is not looked into while terms are read against it. -/
structure Sld (p : Prop) : Prop where
  out : p
theorem Sld.byVal {w : World} {ops : Array Oper} {rest : List Oper} {o : Oper} {a : Act} {Q : Exit → Act → World → Prop} (hw : Region.wanted o (yielded ops a.tmps) = true) (v : Value) (hr : (execOp a.eval o).run Yba.prog w = .ok (.value v) w)
    (h : Sld (wpList Yba.prog ops Q rest (a.put o.dst v) w)) : Sld (wpList Yba.prog ops Q (o :: rest) a w) := ⟨wpList_val hw v hr h.out⟩
theorem Sld.byPast {w : World} {ops : Array Oper} {rest : List Oper} {o : Oper} {a : Act} {Q : Exit → Act → World → Prop} (hw : Region.wanted o (yielded ops a.tmps) = false)
    (h : Sld (wpList Yba.prog ops Q rest (a.put o.dst undef) w)) : Sld (wpList Yba.prog ops Q (o :: rest) a w) :=
  ⟨by rw [wpList, hw, if_neg Bool.false_ne_true]; exact h.out⟩

/-- The wanted answer in the making: nothing else has turned since 'w0'. -/
def MS (w0 : World) (row : List Value) (w : World) : Prop := Below w0.heap.size w0 w ∧ w.heap[w0.heap.size]? = some (.cells row.toArray 87 (0, 0))
theorem MS.cell {w0 : World} {row : List Value} {w : World} (h : MS w0 row w) {j : Nat} {u : Value} (hu : row[j]? = some u) : w.cell? ⟨w0.heap.size, j, none⟩ = some u := by
  have := range_of_blk h.2 j u hu
  simpa using this
theorem MS.froz {w0 : World} {row : List Value} {w : World} (h : MS w0 row w) (j : Nat) : w.frozen? ⟨w0.heap.size, j, none⟩ = false := by simp [World.frozen?, h.2]
theorem MS.set {w0 : World} {row : List Value} {w : World} (h : MS w0 row w) (j : Nat) (v : Value) : MS w0 (row.set j v) (w.setCell ⟨w0.heap.size, j, none⟩ v) :=
  ⟨h.1.setCell (Nat.le_refl _) v, by simp [World.setCell, Array.getElem?_modify, h.2]⟩
theorem MS.size {w0 : World} {row : List Value} {w : World} (h : MS w0 row w) : w0.heap.size < w.heap.size := (Array.getElem?_eq_some_iff.1 h.2).1
theorem MS.below {w0 : World} {row : List Value} {w w' : World} (h : MS w0 row w) (hB : Below w.heap.size w w') : MS w0 row w' := ⟨h.1.trans (hB.mono h.1.size), by rw [hB.block _ h.size]; exact h.2⟩

/-- The five peers' variables. -/
structure A5 (W : World) (g0 g1 g2 g3 g4 : Nat) (p0 p1 p2 p3 p4 : Pr) (w : World) : Prop where
  bel : Below W.heap.size W w
  a0 : PA g0 p0 w
  a1 : PA g1 p1 w
  a2 : PA g2 p2 w
  a3 : PA g3 p3 w
  a4 : PA g4 p4 w
theorem A5.below {W : World} {g0 g1 g2 g3 g4 : Nat} {p0 p1 p2 p3 p4 : Pr} {w w' : World} (h : A5 W g0 g1 g2 g3 g4 p0 p1 p2 p3 p4 w) (hB : Below w.heap.size w w') : A5 W g0 g1 g2 g3 g4 p0 p1 p2 p3 p4 w' :=
  ⟨h.bel.trans (hB.mono h.bel.size), h.a0.below hB, h.a1.below hB, h.a2.below hB, h.a3.below hB, h.a4.below hB⟩

theorem step_store_mid {P : Program} {w : World} {ops : Array Oper} {o : Oper} {a : Act} {K : Act → World → Prop} {Q : Exit → Act → World → Prop} {E : Prop} (hgd : o.guard = none) (ty : TypeId) (x y : Operand) (ho : o.op = .store ty x y)
    (b off : Nat) (cells : Array Value) (hx : a.eval x = .pointer (some ⟨b, off, none⟩)) (hy : a.eval y = .agg cells)
    (ht : w.there b off cells.size) (hi : (P.info? ty).map (·.size) = some cells.size) (h1 : cells.all (·.oneCell') = true)
    (h : K (a.put o.dst undef) (w.setCells b off cells.toList)) : if Region.wanted o (yielded ops a.tmps) = true then Oper.wp P o a w K Q else E := by
  have hw : Region.wanted o (yielded ops a.tmps) = true := by simp [Region.wanted, hgd]
  rw [if_pos hw]
  exact wp_store_mid ty x y ho b off cells hx hy ht hi h1 h
theorem exec_nil75 {o : Oper} {x : Operand} (ho : o.op = .binOp .eql 75 x (.const (.slice none 0 0)) 75) {act : Act} {a : Option Addr} {n c : Nat} {b : Bool} (hx : act.eval x = .slice a n c) (hb : a.isNone = b) (w : World) :
    (execOp act.eval o).run Yba.prog w = .ok (.value (.bool b)) w := by
  have he := Go.Lib.run_eql_slice_nil w 75 27 a n c 0 0 Yba.underlying75
  rw [hb] at he
  have h2 : act.eval (.const (.slice none 0 0)) = .slice none 0 0 := rfl
  unfold execOp
  simp only [ho, hx, h2, Sem.run_bind]
  go_simp
theorem th_row (me own rs pred st : Pr) (ho : own.Ok) (hp : pred.Ok) (ns : List Int) (z : Int) : ∃ (f a : Bool) (p q : Pr) (b c u : Bool) (t : List Int), p.Ok ∧ q.Ok ∧ t.length = 16 ∧ thV me own rs pred st ns z = rowTH f a (tbCells p q b c u) (t.map (Value.int .u64)) := by
  have ht : tk16 ns = (ns.take 16 ++ List.replicate (16 - ns.length) 0).map (Value.int .u64) := by simp [tk16]
  have hl : (ns.take 16 ++ List.replicate (16 - ns.length) (0 : Int)).length = 16 := by simp; omega
  cases hz : eqP own zeroP
  · exact ⟨_, _, _, _, _, _, _, _, hp, ho, hl, by unfold thV bkV tbV; rw [hz, ht]; rfl⟩
  · exact ⟨_, _, _, _, _, _, _, _, zeroP_ok, zeroP_ok, hl, by unfold thV bkV zb; rw [hz, ht]; rfl⟩
theorem exec_neqTH {o : Oper} {x y : Operand} (ho : o.op = .binOp .neq 87 x y 87) {act : Act} {V : List Value} {me own rs pred st : Pr} (hw : own.Ok) (hp : pred.Ok) {ns : List Int} {z : Int} (hV : V = thV me own rs pred st ns z) (hx : act.eval x = .agg V.toArray) (hy : act.eval y = .agg V.toArray) (w : World) :
    (execOp act.eval o).run Yba.prog w = .ok (.value (.bool false)) w := by
  obtain ⟨f, a, p, q, b, c, u, t, h1, h2, h3, h4⟩ := th_row me own rs pred st hw hp ns z
  rw [hV, h4] at hx hy
  exact exec_neq87 ho h1 h2 h3 hx hy w
theorem isNone_same {a b : Option Addr} (h : a = none ↔ b = none) : a.isNone = b.isNone := by
  cases a <;> cases b <;> simp_all
def tkI (ns : List Int) (i : Nat) : List Value := (ns.take i).map (Value.int .u64) ++ List.replicate (16 - i) (.int .u64 0)
theorem tkI_zero (ns : List Int) : tkI ns 0 = zt := by simp [tkI, zt]
theorem tkI_last (ns : List Int) (i : Nat) (h : i = 16 ∨ (i = ns.length ∧ i ≤ 16)) (h' : i ≤ ns.length) : tkI ns i = tk16 ns := by
  unfold tkI tk16
  rcases h with rfl | ⟨rfl, h⟩
  · rw [show 16 - ns.length = 0 by omega]
  · rw [List.take_of_length_le (Nat.le_refl _), List.take_of_length_le h]
theorem tkI_set (ns : List Int) (i : Nat) (y : Int) (hi : i < 16) (hy : ns[i]? = some y) : (tkI ns i).set i (.int .u64 y) = tkI ns (i + 1) := by
  have hl : i < ns.length := (List.getElem?_eq_some_iff.1 hy).1
  have hm : ((ns.take i).map (Value.int .u64)).length = i := by simp; omega
  unfold tkI
  rw [List.set_append_right _ _ (by omega), hm, Nat.sub_self, List.take_add_one, hy, show 16 - i = (16 - (i + 1)) + 1 by omega, List.replicate_succ, List.set_cons_zero]
  simp
theorem row_set (f a : Bool) (b t : List Value) (hb : b.length = 45) (i : Nat) (v : Value) : (rowTH f a b t).set (47 + i) v = rowTH f a b (t.set i v) := by
  have e : 47 + i = (45 + i) + 2 := by omega
  unfold rowTH
  rw [e, List.set_cons_succ, List.set_cons_succ, List.set_append_right _ _ (by omega), hb, Nat.add_sub_cancel_left]
theorem row_get (f a : Bool) (b : List Value) (hb : b.length = 45) (ns : List Int) (i : Nat) (hi : i < 16) (hl : i < ns.length) : (rowTH f a b (tkI ns i))[47 + i]? = some (.int .u64 0) := by
  have e : 47 + i = (45 + i) + 2 := by omega
  have hm : ((ns.take i).map (Value.int .u64)).length = i := by simp; omega
  unfold rowTH tkI
  rw [e, List.getElem?_cons_succ, List.getElem?_cons_succ, List.getElem?_append_right (by omega), hb, Nat.add_sub_cancel_left, List.getElem?_append_right (by omega), hm, Nat.sub_self]
  rw [List.getElem?_replicate, if_pos (by omega)]

set_option maxHeartbeats 8000000 in
set_option maxRecDepth 40000 in
theorem main_model (s0 s1 s2 s3 s4 : Nat) (h0 : s0 ≤ 255) (h1 : s1 ≤ 255) (h2 : s2 ≤ 255) (h3 : s3 ≤ 255) (h4 : s4 ≤ 255) (raw : List UInt8) (hr : raw.length = 20) (ta : Option Addr) (ns : List Int) (tc : Nat) (hn : ns.length ≤ 1024) (z : Int) (W : World) (hN : NumsAt W ta ns) (hnil : ta = none → ns = [] ∧ tc = 0) :
    Calls Yba.prog 5 #[.int .u8 s0, .int .u8 s1, .int .u8 s2, .int .u8 s3, .int .u8 s4, .agg (idC raw).toArray, .slice ta ns.length tc, .int .u64 z] W fun e w' => e = .returned (.bool true) ∧ Below W.heap.size W w' := by
  have HNS : Hid (NumsAt W ta ns) := hN
  have HNIL : Hid _ := hnil
  have HB0 : Hid (Below W.heap.size W (W.alloc (.cells (idC raw).toArray 64))) := step_alloc _ _
  have HRW0 : Hid (RA W.heap.size raw (W.alloc (.cells (idC raw).toArray 64))) := ⟨range_of_blk (heap_alloc_new _ _), by simp⟩
  have d0 : ¬ (1024 : Int) < (ns.length : Int) := by omega
  clear hN hnil
  go_enter Yba.func5, Yba.ntmps5
  go_wp2_with (first
    | (refine gate (some 34) rfl ?_; refine wpList_val rfl (.agg (idC raw).toArray) (exec_load 64 (.tmp 13) rfl W.heap.size 0 rfl (idC raw) _ HRW0.out.1 Yba.underlying64 rfl (by rw [sz64, len_idC, hr])) ?_; simp only [Act.put, List.setIfInBounds_toArray, List.set_cons_zero, List.set_cons_succ]))
  refine (cpeer13 s0 h0 raw hr _).mono ?_
  rintro e w1 ⟨p0, hp0, rfl, hB1⟩
  have hBa : Below _ _ (w1.alloc (.cells p0.cells.toArray 67)) := hB1.trans ((step_alloc w1 (.cells p0.cells.toArray 67)).mono hB1.size)
  have HB1 : Hid (Below W.heap.size W (w1.alloc (.cells p0.cells.toArray 67))) := HB0.out.trans (hBa.mono HB0.out.size)
  have HRW1 : Hid (RA W.heap.size raw (w1.alloc (.cells p0.cells.toArray 67))) := HRW0.out.below hBa
  have HP0_1 : Hid (PA w1.heap.size p0 (w1.alloc (.cells p0.cells.toArray 67))) := PA.new _ _ _
  clear hBa hB1 HB0 HRW0 
  go_wp2_with (first
    | (refine gate (some 37) rfl ?_; refine wpList_val rfl (.agg (idC raw).toArray) (exec_load 64 (.tmp 13) rfl W.heap.size 0 rfl (idC raw) _ HRW1.out.1 Yba.underlying64 rfl (by rw [sz64, len_idC, hr])) ?_; simp only [Act.put, List.setIfInBounds_toArray, List.set_cons_zero, List.set_cons_succ])
    | (refine gate (some 17) rfl ?_; refine wpList_alloc_store rfl rfl 67 17 (.tmp 35) rfl rfl rfl rfl peerZ 21 info67 rfl p0.cells.toArray (by simp [hp0.cells]) (all_one p0) rfl rfl ?_; simp only [Act.put, List.setIfInBounds_toArray, List.set_cons_zero, List.set_cons_succ]))
  refine (cpeer13 s1 h1 raw hr _).mono ?_
  rintro e w2 ⟨p1, hp1, rfl, hB2⟩
  have hBa : Below _ _ (w2.alloc (.cells p1.cells.toArray 67)) := hB2.trans ((step_alloc w2 (.cells p1.cells.toArray 67)).mono hB2.size)
  have HB2 : Hid (Below W.heap.size W (w2.alloc (.cells p1.cells.toArray 67))) := HB1.out.trans (hBa.mono HB1.out.size)
  have HRW2 : Hid (RA W.heap.size raw (w2.alloc (.cells p1.cells.toArray 67))) := HRW1.out.below hBa
  have HP0_2 : Hid (PA w1.heap.size p0 (w2.alloc (.cells p1.cells.toArray 67))) := HP0_1.out.below hBa
  have HP1_2 : Hid (PA w2.heap.size p1 (w2.alloc (.cells p1.cells.toArray 67))) := PA.new _ _ _
  clear hBa hB2 HB1 HRW1 HP0_1
  go_wp2_with (first
    | (refine gate (some 40) rfl ?_; refine wpList_val rfl (.agg (idC raw).toArray) (exec_load 64 (.tmp 13) rfl W.heap.size 0 rfl (idC raw) _ HRW2.out.1 Yba.underlying64 rfl (by rw [sz64, len_idC, hr])) ?_; simp only [Act.put, List.setIfInBounds_toArray, List.set_cons_zero, List.set_cons_succ])
    | (refine gate (some 18) rfl ?_; refine wpList_alloc_store rfl rfl 67 18 (.tmp 38) rfl rfl rfl rfl peerZ 21 info67 rfl p1.cells.toArray (by simp [hp1.cells]) (all_one p1) rfl rfl ?_; simp only [Act.put, List.setIfInBounds_toArray, List.set_cons_zero, List.set_cons_succ]))
  refine (cpeer13 s2 h2 raw hr _).mono ?_
  rintro e w3 ⟨p2, hp2, rfl, hB3⟩
  have hBa : Below _ _ (w3.alloc (.cells p2.cells.toArray 67)) := hB3.trans ((step_alloc w3 (.cells p2.cells.toArray 67)).mono hB3.size)
  have HB3 : Hid (Below W.heap.size W (w3.alloc (.cells p2.cells.toArray 67))) := HB2.out.trans (hBa.mono HB2.out.size)
  have HRW3 : Hid (RA W.heap.size raw (w3.alloc (.cells p2.cells.toArray 67))) := HRW2.out.below hBa
  have HP0_3 : Hid (PA w1.heap.size p0 (w3.alloc (.cells p2.cells.toArray 67))) := HP0_2.out.below hBa
  have HP1_3 : Hid (PA w2.heap.size p1 (w3.alloc (.cells p2.cells.toArray 67))) := HP1_2.out.below hBa
  have HP2_3 : Hid (PA w3.heap.size p2 (w3.alloc (.cells p2.cells.toArray 67))) := PA.new _ _ _
  clear hBa hB3 HB2 HRW2 HP0_2 HP1_2
  go_wp2_with (first
    | (refine gate (some 43) rfl ?_; refine wpList_val rfl (.agg (idC raw).toArray) (exec_load 64 (.tmp 13) rfl W.heap.size 0 rfl (idC raw) _ HRW3.out.1 Yba.underlying64 rfl (by rw [sz64, len_idC, hr])) ?_; simp only [Act.put, List.setIfInBounds_toArray, List.set_cons_zero, List.set_cons_succ])
    | (refine gate (some 19) rfl ?_; refine wpList_alloc_store rfl rfl 67 19 (.tmp 41) rfl rfl rfl rfl peerZ 21 info67 rfl p2.cells.toArray (by simp [hp2.cells]) (all_one p2) rfl rfl ?_; simp only [Act.put, List.setIfInBounds_toArray, List.set_cons_zero, List.set_cons_succ]))
  refine (cpeer13 s3 h3 raw hr _).mono ?_
  rintro e w4 ⟨p3, hp3, rfl, hB4⟩
  have hBa : Below _ _ (w4.alloc (.cells p3.cells.toArray 67)) := hB4.trans ((step_alloc w4 (.cells p3.cells.toArray 67)).mono hB4.size)
  have HB4 : Hid (Below W.heap.size W (w4.alloc (.cells p3.cells.toArray 67))) := HB3.out.trans (hBa.mono HB3.out.size)
  have HRW4 : Hid (RA W.heap.size raw (w4.alloc (.cells p3.cells.toArray 67))) := HRW3.out.below hBa
  have HP0_4 : Hid (PA w1.heap.size p0 (w4.alloc (.cells p3.cells.toArray 67))) := HP0_3.out.below hBa
  have HP1_4 : Hid (PA w2.heap.size p1 (w4.alloc (.cells p3.cells.toArray 67))) := HP1_3.out.below hBa
  have HP2_4 : Hid (PA w3.heap.size p2 (w4.alloc (.cells p3.cells.toArray 67))) := HP2_3.out.below hBa
  have HP3_4 : Hid (PA w4.heap.size p3 (w4.alloc (.cells p3.cells.toArray 67))) := PA.new _ _ _
  clear hBa hB4 HB3 HRW3 HP0_3 HP1_3 HP2_3
  go_wp2_with (first
    | (refine gate (some 46) rfl ?_; refine wpList_val rfl (.agg (idC raw).toArray) (exec_load 64 (.tmp 13) rfl W.heap.size 0 rfl (idC raw) _ HRW4.out.1 Yba.underlying64 rfl (by rw [sz64, len_idC, hr])) ?_; simp only [Act.put, List.setIfInBounds_toArray, List.set_cons_zero, List.set_cons_succ])
    | (refine gate (some 20) rfl ?_; refine wpList_alloc_store rfl rfl 67 20 (.tmp 44) rfl rfl rfl rfl peerZ 21 info67 rfl p3.cells.toArray (by simp [hp3.cells]) (all_one p3) rfl rfl ?_; simp only [Act.put, List.setIfInBounds_toArray, List.set_cons_zero, List.set_cons_succ]))
  refine (cpeer13 s4 h4 raw hr _).mono ?_
  rintro e w5 ⟨p4, hp4, rfl, hB5⟩
  have hBa : Below _ _ (w5.alloc (.cells p4.cells.toArray 67)) := hB5.trans ((step_alloc w5 (.cells p4.cells.toArray 67)).mono hB5.size)
  have HB5 : Hid (Below W.heap.size W (w5.alloc (.cells p4.cells.toArray 67))) := HB4.out.trans (hBa.mono HB4.out.size)
  have HRW5 : Hid (RA W.heap.size raw (w5.alloc (.cells p4.cells.toArray 67))) := HRW4.out.below hBa
  have HP0_5 : Hid (PA w1.heap.size p0 (w5.alloc (.cells p4.cells.toArray 67))) := HP0_4.out.below hBa
  have HP1_5 : Hid (PA w2.heap.size p1 (w5.alloc (.cells p4.cells.toArray 67))) := HP1_4.out.below hBa
  have HP2_5 : Hid (PA w3.heap.size p2 (w5.alloc (.cells p4.cells.toArray 67))) := HP2_4.out.below hBa
  have HP3_5 : Hid (PA w4.heap.size p3 (w5.alloc (.cells p4.cells.toArray 67))) := HP3_4.out.below hBa
  have HP4_5 : Hid (PA w5.heap.size p4 (w5.alloc (.cells p4.cells.toArray 67))) := PA.new _ _ _
  clear hBa hB5 HB4 HRW4 HP0_4 HP1_4 HP2_4 HP3_4
  go_wp2_with (first
    | (refine gate (some 21) rfl ?_; refine wpList_alloc_store rfl rfl 67 21 (.tmp 47) rfl rfl rfl rfl peerZ 21 info67 rfl p4.cells.toArray (by simp [hp4.cells]) (all_one p4) rfl rfl ?_; simp only [Act.put, List.setIfInBounds_toArray, List.set_cons_zero, List.set_cons_succ]))
  obtain ⟨w6, hw6⟩ : ∃ w6, w6 = w5.alloc (.cells p4.cells.toArray 67) := ⟨_, rfl⟩
  rw [← hw6] at HB5 HRW5 HP0_5 HP1_5 HP2_5 HP3_5 HP4_5 ⊢
  clear hw6
  obtain ⟨g0, hg0⟩ : ∃ g, g = w1.heap.size := ⟨_, rfl⟩
  obtain ⟨g1, hg1⟩ : ∃ g, g = w2.heap.size := ⟨_, rfl⟩
  obtain ⟨g2, hg2⟩ : ∃ g, g = w3.heap.size := ⟨_, rfl⟩
  obtain ⟨g3, hg3⟩ : ∃ g, g = w4.heap.size := ⟨_, rfl⟩
  obtain ⟨g4, hg4⟩ : ∃ g, g = w5.heap.size := ⟨_, rfl⟩
  rw [← hg0] at HP0_5 ⊢
  rw [← hg1] at HP1_5 ⊢
  rw [← hg2] at HP2_5 ⊢
  rw [← hg3] at HP3_5 ⊢
  rw [← hg4] at HP4_5 ⊢
  have SA : Hid (A5 W g0 g1 g2 g3 g4 p0 p1 p2 p3 p4 w6.drew) := ⟨HB5.out.drew, HP0_5.out, HP1_5.out, HP2_5.out, HP3_5.out, HP4_5.out⟩
  clear hg0 hg1 hg2 hg3 hg4 HB5 HRW5 HP0_5 HP1_5 HP2_5 HP3_5 HP4_5
  refine wp_region_noPanic ?_
  refine wp_region_held_drew (S := A5 W g0 g1 g2 g3 g4 p0 p1 p2 p3 p4) (by kernel_rfl) SA.out (fun _ => ?_)
  refine wpAnyH_take (i := 0) (oi := { dst := some 48, op := _, type := _, pos := _, after := _, guard := _ }) (v := .agg p0.cells.toArray) rfl (by kernel_rfl) (by kernel_rfl) (by kernel_rfl) (fun _ _ _ h => h) (yieldsIf_load_mid (by rfl) 67 (.tmp 17) rfl g0 0 rfl _ _ (fun W hW => hW.a0.1) Yba.underlying67 rfl (by rw [sz67, hp0.cells])) SA.out ?_
  simp only [Act.put, List.setIfInBounds_toArray, List.set_cons_zero, List.set_cons_succ]
  refine wpAnyH_take (i := 1) (oi := { dst := some 49, op := _, type := _, pos := _, after := _, guard := _ }) (v := .agg p1.cells.toArray) rfl (by kernel_rfl) (by kernel_rfl) (by kernel_rfl) (fun _ _ _ h => h) (yieldsIf_load_mid (by rfl) 67 (.tmp 18) rfl g1 0 rfl _ _ (fun W hW => hW.a1.1) Yba.underlying67 rfl (by rw [sz67, hp1.cells])) SA.out ?_
  simp only [Act.put, List.setIfInBounds_toArray, List.set_cons_zero, List.set_cons_succ]
  refine wpAnyH_take (i := 2) (oi := { dst := some 50, op := _, type := _, pos := _, after := _, guard := _ }) (v := .agg p2.cells.toArray) rfl (by kernel_rfl) (by kernel_rfl) (by kernel_rfl) (fun _ _ _ h => h) (yieldsIf_load_mid (by rfl) 67 (.tmp 19) rfl g2 0 rfl _ _ (fun W hW => hW.a2.1) Yba.underlying67 rfl (by rw [sz67, hp2.cells])) SA.out ?_
  simp only [Act.put, List.setIfInBounds_toArray, List.set_cons_zero, List.set_cons_succ]
  refine wpAnyH_take (i := 3) (oi := { dst := some 51, op := _, type := _, pos := _, after := _, guard := _ }) (v := .slice ta ns.length tc) rfl (by kernel_rfl) (by kernel_rfl) (by kernel_rfl) (fun _ _ _ h => h) (Or.inl ⟨by rfl, fun W hW => by clear hW; go_simp⟩) SA.out ?_
  simp only [Act.put, List.setIfInBounds_toArray, List.set_cons_zero, List.set_cons_succ]
  refine wpAnyH_ready (rs := [4]) (by kernel_rfl) (by simp) ?_
  refine AllReadyH.cons rfl (fun K hK => ?_) AllReadyH.nil
  rw [if_pos (by rfl)]
  go_simp
  refine (clone14 ta ns tc hn w6.drew (HNS.out.below SA.out.bel) HNIL.out).mono ?_
  rintro e w7 ⟨a', cap', rfl, hN7, hB7, hnn⟩
  have SB : Hid (A5 W g0 g1 g2 g3 g4 p0 p1 p2 p3 p4 w7) := SA.out.below hB7
  have HN7 : Hid (NumsAt w7 a' ns) := hN7
  have HNN : Hid (a' = none ↔ ta = none) := hnn
  clear hB7 hN7 hnn
  refine hK.out _ _ SB.out (fun _ => ?_)
  clear hK K
  refine wpAnyH_take (i := 5) (oi := { dst := some 53, op := _, type := _, pos := _, after := _, guard := _ }) (v := .agg (rngCells p0 p1 p2 (.slice a' ns.length cap')).toArray) rfl (by kernel_rfl) (by kernel_rfl) (by kernel_rfl) (fun _ _ _ h => h) (Or.inl ⟨by rfl, fun W hW => exec_build82 rfl rfl rfl rfl rfl hp0 hp1 hp2 W⟩) SB.out ?_
  simp only [Act.put, List.setIfInBounds_toArray, List.set_cons_zero, List.set_cons_succ]
  refine wpAnyH_ready (rs := [6]) (by kernel_rfl) (by simp) ?_
  refine AllReadyH.cons rfl (fun K hK => ?_) AllReadyH.nil
  rw [if_pos (by rfl)]
  go_simp
  have SC : Hid (A5 W g0 g1 g2 g3 g4 p0 p1 p2 p3 p4 (w7.alloc (.cells (rngCells p0 p1 p2 (.slice a' ns.length cap')).toArray 82))) := SB.out.below (step_alloc _ _)
  have HRG : Hid (RngAt w7.heap.size p0 p1 p2 (.slice a' ns.length cap') (w7.alloc (.cells (rngCells p0 p1 p2 (.slice a' ns.length cap')).toArray 82))) := rng_made hp0 hp1 hp2 (heap_alloc_new _ _)
  have HN8 : Hid (NumsAt (w7.alloc (.cells (rngCells p0 p1 p2 (.slice a' ns.length cap')).toArray 82)) a' ns) := HN7.out.below (step_alloc _ _)
  refine hK.out _ _ SC.out (fun _ => ?_)
  clear hK K
  refine wpAnyH_take (i := 7) (oi := { dst := some 22, op := _, type := _, pos := _, after := _, guard := _ }) (v := .pointer (some ⟨w7.heap.size, 0, none⟩)) rfl (by kernel_rfl) (by kernel_rfl) (by kernel_rfl) (fun _ _ _ h => h) (Or.inl ⟨by rfl, fun W hW => by clear hW; go_simp⟩) SC.out ?_
  simp only [Act.put, List.setIfInBounds_toArray, List.set_cons_zero, List.set_cons_succ]
  refine wpAnyH_done (by kernel_rfl) ?_ _
  refine NoPanic.normal ?_
  obtain ⟨w8, hw8⟩ : ∃ w8, w8 = w7.alloc (.cells (rngCells p0 p1 p2 (.slice a' ns.length cap')).toArray 82) := ⟨_, rfl⟩
  obtain ⟨gr, hgr⟩ : ∃ gr, gr = w7.heap.size := ⟨_, rfl⟩
  rw [← hw8] at SC HRG HN8 ⊢
  rw [← hgr] at HRG ⊢
  clear hw8 hgr SA SB HN7
  go_wp2_with (first
    | (refine gate (some 56) rfl ?_; refine wpList_val rfl (.agg p3.cells.toArray) (exec_load 67 (.tmp 20) rfl g3 0 rfl p3.cells _ SC.out.a3.1 Yba.underlying67 rfl (by rw [sz67, hp3.cells])) ?_; simp only [Act.put, List.setIfInBounds_toArray, List.set_cons_zero, List.set_cons_succ])
    | (refine gate (some 57) rfl ?_; refine wpList_val rfl (.agg p4.cells.toArray) (exec_load 67 (.tmp 21) rfl g4 0 rfl p4.cells _ SC.out.a4.1 Yba.underlying67 rfl (by rw [sz67, hp4.cells])) ?_; simp only [Act.put, List.setIfInBounds_toArray, List.set_cons_zero, List.set_cons_succ]))
  refine (hand15 gr p0 p1 p2 a' cap' ns p3 p4 z hp0 hp1 hp2 hp3 hp4 hn w8 HRG.out HN8.out).mono ?_
  rintro e w9 ⟨rfl, hB9⟩
  obtain ⟨tv, htv⟩ : ∃ tv, tv = thV p0 p1 p2 p3 p4 ns z := ⟨_, rfl⟩
  have HTV : Hid _ := htv
  have HTL : Hid (tv.length = 63) := by rw [htv]; exact len_row (len_bk hp1 hp3) (len_tk ns)
  have HT1 : Hid (∀ u ∈ tv, u.oneCell' = true) := by rw [htv]; exact one_row (one_bk _ _ _ _ _) (one_tk ns)
  rw [← htv]
  obtain ⟨g23, hg23⟩ : ∃ g, g = w9.heap.size := ⟨_, rfl⟩
  obtain ⟨g24, hg24⟩ : ∃ g, g = (w9.alloc (.cells tv.toArray 87)).heap.size := ⟨_, rfl⟩
  obtain ⟨w10, hw10⟩ : ∃ w10, w10 = (w9.alloc (.cells tv.toArray 87)).alloc (.cells zeroP.cells.toArray 67) := ⟨_, rfl⟩
  have hBa : Below w8.heap.size w8 w10 := by rw [hw10]; exact hB9.trans (((step_alloc _ _).trans ((step_alloc _ _).mono (by simp))).mono hB9.size)
  have SD : Hid (A5 W g0 g1 g2 g3 g4 p0 p1 p2 p3 p4 w10) := SC.out.below hBa
  have HRG2 : Hid (RngAt gr p0 p1 p2 (.slice a' ns.length cap') w10) := HRG.out.below hBa
  have HN9 : Hid (NumsAt w10 a' ns) := HN8.out.below hBa
  have HTH : Hid (w10.heap[g23]? = some (.cells tv.toArray 87 (0, 0))) := by rw [hw10, hg23, Below.heap_alloc _ _ _ (by simp)]; exact heap_alloc_new _ _
  have HZP : Hid (PA g24 zeroP w10) := by rw [hw10, hg24]; exact PA.new _ _ _
  have HW10 : Hid _ := hw10
  have HG23 : Hid _ := hg23
  have HG24 : Hid _ := hg24
  clear htv hBa hB9 HRG HN8 SC hw10 hg23 hg24
  go_upto_region 11 with (first
    | (refine gate (some 23) rfl ?_; refine wpList_alloc_store rfl rfl 87 23 (.tmp 59) rfl rfl rfl rfl thZ 63 info87 rfl tv.toArray (by simp [HTL.out]) (all_oneCell_toArray HT1.out) rfl rfl ?_; simp only [Act.put, List.setIfInBounds_toArray, List.set_cons_zero, List.set_cons_succ])
    | (refine gate (some 60) rfl ?_; refine wpList_val rfl (.agg zeroP.cells.toArray) (exec_build0 rfl _) ?_; simp only [Act.put, List.setIfInBounds_toArray, List.set_cons_zero, List.set_cons_succ])
    | (refine gate (some 24) rfl ?_; refine wpList_alloc_store rfl rfl 67 24 (.tmp 60) rfl rfl rfl rfl peerZ 21 info67 rfl zeroP.cells.toArray rfl (all_one zeroP) rfl rfl ?_; simp only [Act.put, List.setIfInBounds_toArray, List.set_cons_zero, List.set_cons_succ]))
  rw [← HW10.out, ← HG23.out, ← HG24.out]
  clear HW10 HG23 HG24
  obtain ⟨w11, hw11⟩ : ∃ w11, w11 = w10.alloc (.cells Z87 87) := ⟨_, rfl⟩
  have M0 : Hid (MS w10 (rowTH false false zb zt) w11) := by rw [hw11]; exact ⟨step_alloc _ _, by rw [← z87_eq]; exact heap_alloc_new _ _⟩
  unfold Z87 at hw11
  go_upto_region 12 with fail
  rw [← hw11]
  clear hw11
  obtain ⟨g25, hg25⟩ : ∃ g, g = w10.heap.size := ⟨_, rfl⟩
  have HG25 : Hid (w10.heap.size = g25) := hg25.symm
  rw [← hg25]
  clear hg25
  have cN0 : w11.cell? ⟨g25, 0, none⟩ = some (.bool false) := by rw [← HG25.out]; exact M0.out.cell rfl
  have fN0 : w11.frozen? ⟨g25, 0, none⟩ = false := by rw [← HG25.out]; exact M0.out.froz 0
  have M1 : Hid (MS w10 (rowTH (eqP p1 zeroP) false zb zt) (w11.setCell ⟨g25, 0, none⟩ (.bool (eqP p1 zeroP)))) := by
    rw [← HG25.out]; exact M0.out.set 0 (.bool (eqP p1 zeroP))
  go_upto_if 66 with (first
    | (refine gate (some 61) rfl ?_; refine wpList_val rfl (.agg p1.cells.toArray) (exec_load 67 (.tmp 18) rfl g1 0 rfl p1.cells _ (SD.out.below M0.out.1).a1.1 Yba.underlying67 rfl (by rw [sz67, hp1.cells])) ?_; simp only [Act.put, List.setIfInBounds_toArray, List.set_cons_zero, List.set_cons_succ])
    | (refine gate (some 62) rfl ?_; refine wpList_val rfl (.agg zeroP.cells.toArray) (exec_load 67 (.tmp 24) rfl g24 0 rfl zeroP.cells _ (HZP.out.below M0.out.1).1 Yba.underlying67 rfl (by rw [sz67, zeroP_ok.cells])) ?_; simp only [Act.put, List.setIfInBounds_toArray, List.set_cons_zero, List.set_cons_succ])
    | (refine gate (some 63) rfl ?_; refine wpList_val rfl (.bool (eqP p1 zeroP)) (exec_eql67 (x := .tmp 61) (y := .tmp 62) rfl rfl rfl hp1 zeroP_ok _) ?_; simp only [Act.put, List.setIfInBounds_toArray, List.set_cons_zero, List.set_cons_succ]))
  obtain ⟨w12, hw12⟩ : ∃ w12, w12 = w11.setCell ⟨g25, 0, none⟩ (.bool (eqP p1 zeroP)) := ⟨_, rfl⟩
  rw [← hw12] at M1 ⊢
  clear hw12 cN0 fN0 M0
  go_cut [26] from 67 to 79 (fun s26 wx => MS w10 (rowTH (eqP p1 zeroP) (agV ns z) zb zt) wx)
  case first =>
    by_cases hz0 : z = 0
    · subst hz0
      go_wp2_with fail
      go_meet
      case rel => exact (show agV ns 0 = false by simp [agV]) ▸ M1.out
    · have hz1 : (z == 0) = false := by simpa using hz0
      go_wp2_with fail
      go_loopw [26] (fun v26 wq => ∃ (i : Nat), i ≤ ns.length ∧ v26 = .int .i64 i ∧ MS w10 (rowTH (eqP p1 zeroP) (decide (z ∈ ns.take i)) zb zt) wq) (fun v26 _ => ns.length - (intOf v26).toNat)
      case atStart => exact ⟨0, by omega, rfl, by simpa using M1.out⟩
      case round =>
        obtain ⟨i, hi, rfl, hM⟩ := hrel
        have HM : Hid (MS w10 (rowTH (eqP p1 zeroP) (decide (z ∈ ns.take i)) zb zt) wr) := hM
        clear hM
        by_cases hil : i < ns.length
        · have hil' : (i : Int) < (ns.length : Int) := by omega
          obtain ⟨y, hy⟩ : ∃ y, ns[i]? = some y := ⟨ns[i], List.getElem?_eq_getElem _⟩
          obtain ⟨g, o, rfl, hg, hc⟩ := (HNS.out.below (SD.out.bel.trans (HM.out.1.mono SD.out.bel.size))) i y hy
          have HY : Hid _ := hy
          have cN1 : wr.cell? ⟨g25, 1, none⟩ = some (.bool (decide (z ∈ ns.take i))) := by rw [← HG25.out]; exact HM.out.cell rfl
          have fN1 : wr.frozen? ⟨g25, 1, none⟩ = false := by rw [← HG25.out]; exact HM.out.froz 1
          clear hy hg
          by_cases hyz : y = z
          · subst hyz
            have M2 : Hid (MS w10 (rowTH (eqP p1 zeroP) (decide (y ∈ ns.take (i + 1))) zb zt) (wr.setCell ⟨g25, 1, none⟩ (.bool true))) := by
              have e : decide (y ∈ ns.take (i + 1)) = true := by rw [List.take_add_one, HY.out]; simp
              rw [e, ← HG25.out]; exact HM.out.set 1 (.bool true)
            go_wp2_with fail
            go_roundw
            case rel => exact ⟨i + 1, by omega, by simp, M2.out⟩
            case measure => simp [intOf]; omega
          · have hb : (y == z) = false := by simpa using hyz
            have M2 : Hid (MS w10 (rowTH (eqP p1 zeroP) (decide (z ∈ ns.take (i + 1))) zb zt) wr) := by
              have e : decide (z ∈ ns.take (i + 1)) = decide (z ∈ ns.take i) := by
                refine decide_eq_decide.2 ?_
                rw [List.take_add_one, HY.out]
                simp only [Option.toList_some, List.mem_append, List.mem_singleton]
                exact ⟨fun h => h.elim id (fun h => absurd h.symm hyz), Or.inl⟩
              rw [e]; exact HM.out
            go_wp2_with fail
            go_roundw
            case rel => exact ⟨i + 1, by omega, by simp, M2.out⟩
            case measure => simp [intOf]; omega
        · obtain rfl : i = ns.length := by omega
          go_wp2_with fail
          go_meet
          case rel =>
            have h0 := HM.out
            rw [List.take_of_length_le (Nat.le_refl _)] at h0
            exact (show agV ns z = decide (z ∈ ns) by simp [agV, hz1]) ▸ h0
  case rest =>
    have M2 : Hid (MS w10 (rowTH (eqP p1 zeroP) (agV ns z) zb zt) wc) := hcut
    clear hcut M1
    have cN0 : wc.cell? ⟨g25, 0, none⟩ = some (.bool (eqP p1 zeroP)) := by rw [← HG25.out]; exact M2.out.cell rfl
    go_upto_if 82 with fail
    go_cut [27, 28] from 63 to 130 (fun s27 s28 wx => MS w10 (rowTH (eqP p1 zeroP) (agV ns z) (bkV p0 p1 p2 p3 p4) zt) wx)
    case first =>
      cases hfv : eqP p1 zeroP
      · rw [hfv] at M2
        go_upto_region 20 with fail
        go_cut [27] from 83 to 93 (fun s27 wx => s27 = .bool (aheadP p0 p1 p2) ∧ MS w10 (rowTH false (agV ns z) zb zt) wx)
        case first =>
          cases he : eqP p2 zeroP
          · have hn2 : (!eqP p2 zeroP) = true := by rw [he]; rfl
            refine wp_region_lit (Sld.out ?_)
            refine Sld.byVal (by kernel_rfl) (.agg p2.cells.toArray) (exec_load 67 (.tmp 19) rfl g2 0 rfl p2.cells _ (SD.out.below M2.out.1).a2.1 Yba.underlying67 rfl (by rw [sz67, hp2.cells])) ?_
            simp only [Act.put, List.setIfInBounds_toArray, List.set_cons_zero, List.set_cons_succ]
            refine Sld.byVal (by kernel_rfl) (.agg zeroP.cells.toArray) (exec_load 67 (.tmp 24) rfl g24 0 rfl zeroP.cells _ (HZP.out.below M2.out.1).1 Yba.underlying67 rfl (by rw [sz67, zeroP_ok.cells])) ?_
            simp only [Act.put, List.setIfInBounds_toArray, List.set_cons_zero, List.set_cons_succ]
            refine Sld.byVal (by kernel_rfl) (.bool true) (exec_neq67v hn2 rfl rfl rfl hp2 zeroP_ok _) ?_
            simp only [Act.put, List.setIfInBounds_toArray, List.set_cons_zero, List.set_cons_succ]
            refine Sld.byVal (by kernel_rfl) (.bool true) (by go_simp) ?_
            simp only [Act.put, List.setIfInBounds_toArray, List.set_cons_zero, List.set_cons_succ]
            refine Sld.byVal (by kernel_rfl) (.agg p0.cells.toArray) (exec_load 67 (.tmp 17) rfl g0 0 rfl p0.cells _ (SD.out.below M2.out.1).a0.1 Yba.underlying67 rfl (by rw [sz67, hp0.cells])) ?_
            simp only [Act.put, List.setIfInBounds_toArray, List.set_cons_zero, List.set_cons_succ]
            refine Sld.byVal (by kernel_rfl) (.agg p1.cells.toArray) (exec_load 67 (.tmp 18) rfl g1 0 rfl p1.cells _ (SD.out.below M2.out.1).a1.1 Yba.underlying67 rfl (by rw [sz67, hp1.cells])) ?_
            simp only [Act.put, List.setIfInBounds_toArray, List.set_cons_zero, List.set_cons_succ]
            refine Sld.byVal (by kernel_rfl) (.pointer (some ⟨g2, 1, none⟩)) (by go_simp) ?_
            simp only [Act.put, List.setIfInBounds_toArray, List.set_cons_zero, List.set_cons_succ]
            refine Sld.byVal (by kernel_rfl) (.agg (idC p2.id).toArray) (exec_load 65 (.tmp 89) rfl g2 1 rfl (idC p2.id) _ (range_id (SD.out.below M2.out.1).a2.1) Yba.underlying65 rfl (by rw [sz65, len_idC, hp2.len])) ?_
            simp only [Act.put, List.setIfInBounds_toArray, List.set_cons_zero, List.set_cons_succ]
            refine Sld.mk ?_
            go_wp2_with fail
            refine (owns16 p0 p1 p2.id hp0 hp1 hp2.len _).mono ?_
            rintro e w13 ⟨rfl, hB13⟩
            have M3 : Hid (MS w10 (rowTH false (agV ns z) zb zt) w13) := M2.out.below hB13
            clear hB13
            go_wp2_with fail
            go_meet
            case rel => exact ⟨by unfold aheadP; rw [he]; simp, M3.out⟩
          · have hn2 : (!eqP p2 zeroP) = false := by rw [he]; rfl
            refine wp_region_lit (Sld.out ?_)
            refine Sld.byVal (by kernel_rfl) (.agg p2.cells.toArray) (exec_load 67 (.tmp 19) rfl g2 0 rfl p2.cells _ (SD.out.below M2.out.1).a2.1 Yba.underlying67 rfl (by rw [sz67, hp2.cells])) ?_
            simp only [Act.put, List.setIfInBounds_toArray, List.set_cons_zero, List.set_cons_succ]
            refine Sld.byVal (by kernel_rfl) (.agg zeroP.cells.toArray) (exec_load 67 (.tmp 24) rfl g24 0 rfl zeroP.cells _ (HZP.out.below M2.out.1).1 Yba.underlying67 rfl (by rw [sz67, zeroP_ok.cells])) ?_
            simp only [Act.put, List.setIfInBounds_toArray, List.set_cons_zero, List.set_cons_succ]
            refine Sld.byVal (by kernel_rfl) (.bool false) (exec_neq67v hn2 rfl rfl rfl hp2 zeroP_ok _) ?_
            simp only [Act.put, List.setIfInBounds_toArray, List.set_cons_zero, List.set_cons_succ]
            refine Sld.byVal (by kernel_rfl) (.bool false) (by go_simp) ?_
            simp only [Act.put, List.setIfInBounds_toArray, List.set_cons_zero, List.set_cons_succ]
            refine Sld.byPast (by kernel_rfl) ?_
            simp only [Act.put, List.setIfInBounds_toArray, List.set_cons_zero, List.set_cons_succ]
            refine Sld.byPast (by kernel_rfl) ?_
            simp only [Act.put, List.setIfInBounds_toArray, List.set_cons_zero, List.set_cons_succ]
            refine Sld.byPast (by kernel_rfl) ?_
            simp only [Act.put, List.setIfInBounds_toArray, List.set_cons_zero, List.set_cons_succ]
            refine Sld.byPast (by kernel_rfl) ?_
            simp only [Act.put, List.setIfInBounds_toArray, List.set_cons_zero, List.set_cons_succ]
            refine Sld.byPast (by kernel_rfl) ?_
            simp only [Act.put, List.setIfInBounds_toArray, List.set_cons_zero, List.set_cons_succ]
            refine Sld.byPast (by kernel_rfl) ?_
            simp only [Act.put, List.setIfInBounds_toArray, List.set_cons_zero, List.set_cons_succ]
            refine Sld.mk ?_
            go_wp2_with fail
            go_meet
            case rel => exact ⟨by unfold aheadP; rw [he]; simp, M2.out⟩
        case rest =>
          obtain ⟨rfl, hM⟩ := hcut
          have M3 : Hid (MS w10 (rowTH false (agV ns z) zb zt) wc) := hM
          clear hM M2
          go_upto_region 21 with fail
          go_cut [28] from 94 to 110 (fun s28 wx => s28 = .bool (reachP p0 p1 p3) ∧ MS w10 (rowTH false (agV ns z) zb zt) wx)
          case first =>
            cases he : eqP p3 zeroP
            · have hn3 : (!eqP p3 zeroP) = true := by rw [he]; rfl
              cases heq : eqP p3 p1
              · refine wp_region_lit (Sld.out ?_)
                refine Sld.byVal (by kernel_rfl) (.agg p3.cells.toArray) (exec_load 67 (.tmp 20) rfl g3 0 rfl p3.cells _ (SD.out.below M3.out.1).a3.1 Yba.underlying67 rfl (by rw [sz67, hp3.cells])) ?_
                simp only [Act.put, List.setIfInBounds_toArray, List.set_cons_zero, List.set_cons_succ]
                refine Sld.byVal (by kernel_rfl) (.agg zeroP.cells.toArray) (exec_load 67 (.tmp 24) rfl g24 0 rfl zeroP.cells _ (HZP.out.below M3.out.1).1 Yba.underlying67 rfl (by rw [sz67, zeroP_ok.cells])) ?_
                simp only [Act.put, List.setIfInBounds_toArray, List.set_cons_zero, List.set_cons_succ]
                refine Sld.byVal (by kernel_rfl) (.bool true) (exec_neq67v hn3 rfl rfl rfl hp3 zeroP_ok _) ?_
                simp only [Act.put, List.setIfInBounds_toArray, List.set_cons_zero, List.set_cons_succ]
                refine Sld.byVal (by kernel_rfl) (.bool true) (by go_simp) ?_
                simp only [Act.put, List.setIfInBounds_toArray, List.set_cons_zero, List.set_cons_succ]
                refine Sld.byVal (by kernel_rfl) (.agg p3.cells.toArray) (exec_load 67 (.tmp 20) rfl g3 0 rfl p3.cells _ (SD.out.below M3.out.1).a3.1 Yba.underlying67 rfl (by rw [sz67, hp3.cells])) ?_
                simp only [Act.put, List.setIfInBounds_toArray, List.set_cons_zero, List.set_cons_succ]
                refine Sld.byVal (by kernel_rfl) (.agg p1.cells.toArray) (exec_load 67 (.tmp 18) rfl g1 0 rfl p1.cells _ (SD.out.below M3.out.1).a1.1 Yba.underlying67 rfl (by rw [sz67, hp1.cells])) ?_
                simp only [Act.put, List.setIfInBounds_toArray, List.set_cons_zero, List.set_cons_succ]
                refine Sld.byVal (by kernel_rfl) (.bool false) (exec_eql67v heq rfl rfl rfl hp3 hp1 _) ?_
                simp only [Act.put, List.setIfInBounds_toArray, List.set_cons_zero, List.set_cons_succ]
                refine Sld.byVal (by kernel_rfl) (.bool false) (by go_simp) ?_
                simp only [Act.put, List.setIfInBounds_toArray, List.set_cons_zero, List.set_cons_succ]
                refine Sld.byVal (by kernel_rfl) (.pointer (some ⟨g1, 1, none⟩)) (by go_simp) ?_
                simp only [Act.put, List.setIfInBounds_toArray, List.set_cons_zero, List.set_cons_succ]
                refine Sld.byVal (by kernel_rfl) (.agg (idC p1.id).toArray) (exec_load 65 (.tmp 102) rfl g1 1 rfl (idC p1.id) _ (range_id (SD.out.below M3.out.1).a1.1) Yba.underlying65 rfl (by rw [sz65, len_idC, hp1.len])) ?_
                simp only [Act.put, List.setIfInBounds_toArray, List.set_cons_zero, List.set_cons_succ]
                refine Sld.byVal (by kernel_rfl) (.pointer (some ⟨g3, 1, none⟩)) (by go_simp) ?_
                simp only [Act.put, List.setIfInBounds_toArray, List.set_cons_zero, List.set_cons_succ]
                refine Sld.byVal (by kernel_rfl) (.agg (idC p3.id).toArray) (exec_load 65 (.tmp 104) rfl g3 1 rfl (idC p3.id) _ (range_id (SD.out.below M3.out.1).a3.1) Yba.underlying65 rfl (by rw [sz65, len_idC, hp3.len])) ?_
                simp only [Act.put, List.setIfInBounds_toArray, List.set_cons_zero, List.set_cons_succ]
                refine Sld.byVal (by kernel_rfl) (.pointer (some ⟨g0, 1, none⟩)) (by go_simp) ?_
                simp only [Act.put, List.setIfInBounds_toArray, List.set_cons_zero, List.set_cons_succ]
                refine Sld.byVal (by kernel_rfl) (.agg (idC p0.id).toArray) (exec_load 65 (.tmp 106) rfl g0 1 rfl (idC p0.id) _ (range_id (SD.out.below M3.out.1).a0.1) Yba.underlying65 rfl (by rw [sz65, len_idC, hp0.len])) ?_
                simp only [Act.put, List.setIfInBounds_toArray, List.set_cons_zero, List.set_cons_succ]
                refine Sld.mk ?_
                go_wp2_with fail
                refine (btw17 p1.id p3.id p0.id hp1.len hp3.len hp0.len _).mono ?_
                rintro e w14 ⟨rfl, hB14⟩
                have M4 : Hid (MS w10 (rowTH false (agV ns z) zb zt) w14) := M3.out.below hB14
                clear hB14
                go_wp2_with fail
                go_meet
                case rel => exact ⟨by unfold reachP; rw [he, heq]; simp, M4.out⟩
              · refine wp_region_lit (Sld.out ?_)
                refine Sld.byVal (by kernel_rfl) (.agg p3.cells.toArray) (exec_load 67 (.tmp 20) rfl g3 0 rfl p3.cells _ (SD.out.below M3.out.1).a3.1 Yba.underlying67 rfl (by rw [sz67, hp3.cells])) ?_
                simp only [Act.put, List.setIfInBounds_toArray, List.set_cons_zero, List.set_cons_succ]
                refine Sld.byVal (by kernel_rfl) (.agg zeroP.cells.toArray) (exec_load 67 (.tmp 24) rfl g24 0 rfl zeroP.cells _ (HZP.out.below M3.out.1).1 Yba.underlying67 rfl (by rw [sz67, zeroP_ok.cells])) ?_
                simp only [Act.put, List.setIfInBounds_toArray, List.set_cons_zero, List.set_cons_succ]
                refine Sld.byVal (by kernel_rfl) (.bool true) (exec_neq67v hn3 rfl rfl rfl hp3 zeroP_ok _) ?_
                simp only [Act.put, List.setIfInBounds_toArray, List.set_cons_zero, List.set_cons_succ]
                refine Sld.byVal (by kernel_rfl) (.bool true) (by go_simp) ?_
                simp only [Act.put, List.setIfInBounds_toArray, List.set_cons_zero, List.set_cons_succ]
                refine Sld.byVal (by kernel_rfl) (.agg p3.cells.toArray) (exec_load 67 (.tmp 20) rfl g3 0 rfl p3.cells _ (SD.out.below M3.out.1).a3.1 Yba.underlying67 rfl (by rw [sz67, hp3.cells])) ?_
                simp only [Act.put, List.setIfInBounds_toArray, List.set_cons_zero, List.set_cons_succ]
                refine Sld.byVal (by kernel_rfl) (.agg p1.cells.toArray) (exec_load 67 (.tmp 18) rfl g1 0 rfl p1.cells _ (SD.out.below M3.out.1).a1.1 Yba.underlying67 rfl (by rw [sz67, hp1.cells])) ?_
                simp only [Act.put, List.setIfInBounds_toArray, List.set_cons_zero, List.set_cons_succ]
                refine Sld.byVal (by kernel_rfl) (.bool true) (exec_eql67v heq rfl rfl rfl hp3 hp1 _) ?_
                simp only [Act.put, List.setIfInBounds_toArray, List.set_cons_zero, List.set_cons_succ]
                refine Sld.byVal (by kernel_rfl) (.bool true) (by go_simp) ?_
                simp only [Act.put, List.setIfInBounds_toArray, List.set_cons_zero, List.set_cons_succ]
                refine Sld.byPast (by kernel_rfl) ?_
                simp only [Act.put, List.setIfInBounds_toArray, List.set_cons_zero, List.set_cons_succ]
                refine Sld.byPast (by kernel_rfl) ?_
                simp only [Act.put, List.setIfInBounds_toArray, List.set_cons_zero, List.set_cons_succ]
                refine Sld.byPast (by kernel_rfl) ?_
                simp only [Act.put, List.setIfInBounds_toArray, List.set_cons_zero, List.set_cons_succ]
                refine Sld.byPast (by kernel_rfl) ?_
                simp only [Act.put, List.setIfInBounds_toArray, List.set_cons_zero, List.set_cons_succ]
                refine Sld.byPast (by kernel_rfl) ?_
                simp only [Act.put, List.setIfInBounds_toArray, List.set_cons_zero, List.set_cons_succ]
                refine Sld.byPast (by kernel_rfl) ?_
                simp only [Act.put, List.setIfInBounds_toArray, List.set_cons_zero, List.set_cons_succ]
                refine Sld.byPast (by kernel_rfl) ?_
                simp only [Act.put, List.setIfInBounds_toArray, List.set_cons_zero, List.set_cons_succ]
                refine Sld.mk ?_
                go_wp2_with fail
                go_meet
                case rel => exact ⟨by unfold reachP; rw [he, heq]; simp, M3.out⟩
            · have hn3 : (!eqP p3 zeroP) = false := by rw [he]; rfl
              refine wp_region_lit (Sld.out ?_)
              refine Sld.byVal (by kernel_rfl) (.agg p3.cells.toArray) (exec_load 67 (.tmp 20) rfl g3 0 rfl p3.cells _ (SD.out.below M3.out.1).a3.1 Yba.underlying67 rfl (by rw [sz67, hp3.cells])) ?_
              simp only [Act.put, List.setIfInBounds_toArray, List.set_cons_zero, List.set_cons_succ]
              refine Sld.byVal (by kernel_rfl) (.agg zeroP.cells.toArray) (exec_load 67 (.tmp 24) rfl g24 0 rfl zeroP.cells _ (HZP.out.below M3.out.1).1 Yba.underlying67 rfl (by rw [sz67, zeroP_ok.cells])) ?_
              simp only [Act.put, List.setIfInBounds_toArray, List.set_cons_zero, List.set_cons_succ]
              refine Sld.byVal (by kernel_rfl) (.bool false) (exec_neq67v hn3 rfl rfl rfl hp3 zeroP_ok _) ?_
              simp only [Act.put, List.setIfInBounds_toArray, List.set_cons_zero, List.set_cons_succ]
              refine Sld.byVal (by kernel_rfl) (.bool false) (by go_simp) ?_
              simp only [Act.put, List.setIfInBounds_toArray, List.set_cons_zero, List.set_cons_succ]
              refine Sld.byPast (by kernel_rfl) ?_
              simp only [Act.put, List.setIfInBounds_toArray, List.set_cons_zero, List.set_cons_succ]
              refine Sld.byPast (by kernel_rfl) ?_
              simp only [Act.put, List.setIfInBounds_toArray, List.set_cons_zero, List.set_cons_succ]
              refine Sld.byPast (by kernel_rfl) ?_
              simp only [Act.put, List.setIfInBounds_toArray, List.set_cons_zero, List.set_cons_succ]
              refine Sld.byPast (by kernel_rfl) ?_
              simp only [Act.put, List.setIfInBounds_toArray, List.set_cons_zero, List.set_cons_succ]
              refine Sld.byPast (by kernel_rfl) ?_
              simp only [Act.put, List.setIfInBounds_toArray, List.set_cons_zero, List.set_cons_succ]
              refine Sld.byPast (by kernel_rfl) ?_
              simp only [Act.put, List.setIfInBounds_toArray, List.set_cons_zero, List.set_cons_succ]
              refine Sld.byPast (by kernel_rfl) ?_
              simp only [Act.put, List.setIfInBounds_toArray, List.set_cons_zero, List.set_cons_succ]
              refine Sld.byPast (by kernel_rfl) ?_
              simp only [Act.put, List.setIfInBounds_toArray, List.set_cons_zero, List.set_cons_succ]
              refine Sld.byPast (by kernel_rfl) ?_
              simp only [Act.put, List.setIfInBounds_toArray, List.set_cons_zero, List.set_cons_succ]
              refine Sld.byPast (by kernel_rfl) ?_
              simp only [Act.put, List.setIfInBounds_toArray, List.set_cons_zero, List.set_cons_succ]
              refine Sld.byPast (by kernel_rfl) ?_
              simp only [Act.put, List.setIfInBounds_toArray, List.set_cons_zero, List.set_cons_succ]
              refine Sld.byPast (by kernel_rfl) ?_
              simp only [Act.put, List.setIfInBounds_toArray, List.set_cons_zero, List.set_cons_succ]
              refine Sld.mk ?_
              go_wp2_with fail
              go_meet
              case rel => exact ⟨by unfold reachP; rw [he]; simp, M3.out⟩
          case rest =>
            obtain ⟨rfl, hM⟩ := hcut
            have M4 : Hid (MS w10 (rowTH false (agV ns z) zb zt) wc) := hM
            clear hM M3
            have SA : Hid (Below w10.heap.size w10 wc.drew) := M4.out.1.drew
            go_upto_region 22 with fail
            cases hrc : reachP p0 p1 p3
            · refine wp_region_noPanic ?_
              refine wp_region_held_drew (S := Below w10.heap.size w10) (by kernel_rfl) SA.out (fun _ => ?_)
              refine wpAnyH_take (i := 0) (oi := { dst := some 111, op := _, type := _, pos := _, after := _, guard := _ }) (v := .agg p3.cells.toArray) rfl (by kernel_rfl) (by kernel_rfl) (by kernel_rfl) (fun _ _ _ h => h) (yieldsIf_load_mid (by rfl) 67 (.tmp 20) rfl g3 0 rfl _ _ (fun W hW => (SD.out.below hW).a3.1) Yba.underlying67 rfl (by rw [sz67, hp3.cells])) SA.out ?_
              simp only [Act.put, List.setIfInBounds_toArray, List.set_cons_zero, List.set_cons_succ]
              refine wpAnyH_take (i := 1) (oi := { dst := some 112, op := _, type := _, pos := _, after := _, guard := _ }) (v := .agg p1.cells.toArray) rfl (by kernel_rfl) (by kernel_rfl) (by kernel_rfl) (fun _ _ _ h => h) (yieldsIf_load_mid (by rfl) 67 (.tmp 18) rfl g1 0 rfl _ _ (fun W hW => (SD.out.below hW).a1.1) Yba.underlying67 rfl (by rw [sz67, hp1.cells])) SA.out ?_
              simp only [Act.put, List.setIfInBounds_toArray, List.set_cons_zero, List.set_cons_succ]
              refine wpAnyH_take (i := 2) (oi := { dst := some 113, op := _, type := _, pos := _, after := _, guard := _ }) (v := .bool false) rfl (by kernel_rfl) (by kernel_rfl) (by kernel_rfl) (fun _ _ _ h => h) (Or.inl ⟨by rfl, fun W hW => by clear hW; go_simp⟩) SA.out ?_
              simp only [Act.put, List.setIfInBounds_toArray, List.set_cons_zero, List.set_cons_succ]
              refine wpAnyH_take (i := 3) (oi := { dst := some 114, op := _, type := _, pos := _, after := _, guard := _ }) (v := .bool false) rfl (by kernel_rfl) (by kernel_rfl) (by kernel_rfl) (fun _ _ _ h => h) (Or.inl ⟨by rfl, fun W hW => by clear hW; go_simp⟩) SA.out ?_
              simp only [Act.put, List.setIfInBounds_toArray, List.set_cons_zero, List.set_cons_succ]
              refine wpAnyH_take (i := 4) (oi := { dst := some 115, op := _, type := _, pos := _, after := _, guard := _ }) (v := undef) rfl (by kernel_rfl) (by kernel_rfl) (by kernel_rfl) (fun _ _ _ h => h) (Or.inr ⟨by rfl, rfl⟩) SA.out ?_
              simp only [Act.put, List.setIfInBounds_toArray, List.set_cons_zero, List.set_cons_succ]
              refine wpAnyH_take (i := 5) (oi := { dst := some 116, op := _, type := _, pos := _, after := _, guard := _ }) (v := undef) rfl (by kernel_rfl) (by kernel_rfl) (by kernel_rfl) (fun _ _ _ h => h) (Or.inr ⟨by rfl, rfl⟩) SA.out ?_
              simp only [Act.put, List.setIfInBounds_toArray, List.set_cons_zero, List.set_cons_succ]
              refine wpAnyH_take (i := 6) (oi := { dst := some 117, op := _, type := _, pos := _, after := _, guard := _ }) (v := undef) rfl (by kernel_rfl) (by kernel_rfl) (by kernel_rfl) (fun _ _ _ h => h) (Or.inr ⟨by rfl, rfl⟩) SA.out ?_
              simp only [Act.put, List.setIfInBounds_toArray, List.set_cons_zero, List.set_cons_succ]
              refine wpAnyH_take (i := 7) (oi := { dst := some 118, op := _, type := _, pos := _, after := _, guard := _ }) (v := .bool false) rfl (by kernel_rfl) (by kernel_rfl) (by kernel_rfl) (fun _ _ _ h => h) (Or.inl ⟨by rfl, fun W hW => by clear hW; go_simp⟩) SA.out ?_
              simp only [Act.put, List.setIfInBounds_toArray, List.set_cons_zero, List.set_cons_succ]
              refine wpAnyH_take (i := 8) (oi := { dst := some 119, op := _, type := _, pos := _, after := _, guard := _ }) (v := .bool (aheadP p0 p1 p2)) rfl (by kernel_rfl) (by kernel_rfl) (by kernel_rfl) (fun _ _ _ h => h) (Or.inl ⟨by rfl, fun W hW => by clear hW; go_simp⟩) SA.out ?_
              simp only [Act.put, List.setIfInBounds_toArray, List.set_cons_zero, List.set_cons_succ]
              refine wpAnyH_take (i := 9) (oi := { dst := some 120, op := _, type := _, pos := _, after := _, guard := _ }) (v := .bool false) rfl (by kernel_rfl) (by kernel_rfl) (by kernel_rfl) (fun _ _ _ h => h) (Or.inl ⟨by rfl, fun W hW => by clear hW; go_simp⟩) SA.out ?_
              simp only [Act.put, List.setIfInBounds_toArray, List.set_cons_zero, List.set_cons_succ]
              refine wpAnyH_take (i := 10) (oi := { dst := some 121, op := _, type := _, pos := _, after := _, guard := _ }) (v := .bool false) rfl (by kernel_rfl) (by kernel_rfl) (by kernel_rfl) (fun _ _ _ h => h) (Or.inl ⟨by rfl, fun W hW => by clear hW; go_simp⟩) SA.out ?_
              simp only [Act.put, List.setIfInBounds_toArray, List.set_cons_zero, List.set_cons_succ]
              refine wpAnyH_take (i := 11) (oi := { dst := some 122, op := _, type := _, pos := _, after := _, guard := _ }) (v := undef) rfl (by kernel_rfl) (by kernel_rfl) (by kernel_rfl) (fun _ _ _ h => h) (Or.inr ⟨by rfl, rfl⟩) SA.out ?_
              simp only [Act.put, List.setIfInBounds_toArray, List.set_cons_zero, List.set_cons_succ]
              refine wpAnyH_take (i := 12) (oi := { dst := some 123, op := _, type := _, pos := _, after := _, guard := _ }) (v := undef) rfl (by kernel_rfl) (by kernel_rfl) (by kernel_rfl) (fun _ _ _ h => h) (Or.inr ⟨by rfl, rfl⟩) SA.out ?_
              simp only [Act.put, List.setIfInBounds_toArray, List.set_cons_zero, List.set_cons_succ]
              refine wpAnyH_take (i := 13) (oi := { dst := some 124, op := _, type := _, pos := _, after := _, guard := _ }) (v := undef) rfl (by kernel_rfl) (by kernel_rfl) (by kernel_rfl) (fun _ _ _ h => h) (Or.inr ⟨by rfl, rfl⟩) SA.out ?_
              simp only [Act.put, List.setIfInBounds_toArray, List.set_cons_zero, List.set_cons_succ]
              refine wpAnyH_take (i := 14) (oi := { dst := some 125, op := _, type := _, pos := _, after := _, guard := _ }) (v := .bool false) rfl (by kernel_rfl) (by kernel_rfl) (by kernel_rfl) (fun _ _ _ h => h) (Or.inl ⟨by rfl, fun W hW => by clear hW; go_simp⟩) SA.out ?_
              simp only [Act.put, List.setIfInBounds_toArray, List.set_cons_zero, List.set_cons_succ]
              refine wpAnyH_take (i := 15) (oi := { dst := some 126, op := _, type := _, pos := _, after := _, guard := _ }) (v := .bool false) rfl (by kernel_rfl) (by kernel_rfl) (by kernel_rfl) (fun _ _ _ h => h) (Or.inl ⟨by rfl, fun W hW => by clear hW; go_simp⟩) SA.out ?_
              simp only [Act.put, List.setIfInBounds_toArray, List.set_cons_zero, List.set_cons_succ]
              refine wpAnyH_take (i := 16) (oi := { dst := some 127, op := _, type := _, pos := _, after := _, guard := _ }) (v := undef) rfl (by kernel_rfl) (by kernel_rfl) (by kernel_rfl) (fun _ _ _ h => h) (Or.inr ⟨by rfl, rfl⟩) SA.out ?_
              simp only [Act.put, List.setIfInBounds_toArray, List.set_cons_zero, List.set_cons_succ]
              refine wpAnyH_take (i := 17) (oi := { dst := some 128, op := _, type := _, pos := _, after := _, guard := _ }) (v := .bool false) rfl (by kernel_rfl) (by kernel_rfl) (by kernel_rfl) (fun _ _ _ h => h) (Or.inl ⟨by rfl, fun W hW => by clear hW; go_simp⟩) SA.out ?_
              simp only [Act.put, List.setIfInBounds_toArray, List.set_cons_zero, List.set_cons_succ]
              refine wpAnyH_take (i := 18) (oi := { dst := some 129, op := _, type := _, pos := _, after := _, guard := _ }) (v := .agg (tbCells p3 p1 false (aheadP p0 p1 p2) false).toArray) rfl (by kernel_rfl) (by kernel_rfl) (by kernel_rfl) (fun _ _ _ h => h) (Or.inl ⟨by rfl, fun W hW => exec_build5 rfl rfl rfl rfl rfl rfl hp3 hp1 W⟩) SA.out ?_
              simp only [Act.put, List.setIfInBounds_toArray, List.set_cons_zero, List.set_cons_succ]
              refine wpAnyH_take (i := 19) (oi := { dst := some 130, op := _, type := _, pos := _, after := _, guard := _ }) (v := .pointer (some ⟨g25, 2, none⟩)) rfl (by kernel_rfl) (by kernel_rfl) (by kernel_rfl) (fun _ _ _ h => h) (Or.inl ⟨by rfl, fun W hW => by clear hW; go_simp⟩) SA.out ?_
              simp only [Act.put, List.setIfInBounds_toArray, List.set_cons_zero, List.set_cons_succ]
              refine wpAnyH_ready (rs := [20]) (by kernel_rfl) (by simp) ?_
              refine AllReadyH.cons rfl (fun K hK => ?_) AllReadyH.nil
              have hbk : bkV p0 p1 p2 p3 p4 = (tbCells p3 p1 false (aheadP p0 p1 p2) false) := by unfold bkV tbV; rw [hfv, hrc]; simp
              have HL : Hid ((tbCells p3 p1 false (aheadP p0 p1 p2) false).length = 45) := len_tb hp3 hp1 _ _ _
              have SM : Hid (MS w10 (rowTH false (agV ns z) (bkV p0 p1 p2 p3 p4) zt) (wc.drew.setCells g25 2 (tbCells p3 p1 false (aheadP p0 p1 p2) false))) := by
                rw [hbk, ← HG25.out]
                refine ⟨below_setCells _ M4.out.1.drew (Nat.le_refl _), ?_⟩
                have h0 := blk_setCells (tbCells p3 p1 false (aheadP p0 p1 p2) false) wc.drew w10.heap.size 2 _ 87 M4.out.2 (by rw [len_row rfl rfl, HL.out]; omega)
                rw [splice_back _ _ _ _ _ rfl HL.out] at h0
                exact h0
              have HTR : Hid (wc.drew.there g25 2 45) := by rw [← HG25.out]; exact there_blk (w := wc.drew) M4.out.2 (by rw [len_row rfl rfl]; omega)
              refine step_store_mid rfl 84 (.tmp 130) (.tmp 129) rfl g25 2 (tbCells p3 p1 false (aheadP p0 p1 p2) false).toArray rfl rfl (by rw [List.size_toArray, HL.out]; exact HTR.out) (by rw [sz84, List.size_toArray, HL.out]) (all_oneCell_toArray (one_tb _ _ _ _ _)) ?_
              refine hK.out _ _ SM.out.1 (fun _ => ?_)
              clear hK K
              refine wpAnyH_done (by kernel_rfl) ?_ _
              refine NoPanic.normal ?_
              go_wp2_with fail
              go_meet
              case rel => first | exact SM.out | exact hfv.symm ▸ SM.out
            · have hne : (!eqP p3 p1) = (!eqP p3 p1) := rfl
              cases hsz : eqP p4 zeroP
              · refine wp_region_noPanic ?_
                refine wp_region_held_drew (S := Below w10.heap.size w10) (by kernel_rfl) SA.out (fun _ => ?_)
                refine wpAnyH_take (i := 0) (oi := { dst := some 111, op := _, type := _, pos := _, after := _, guard := _ }) (v := .agg p3.cells.toArray) rfl (by kernel_rfl) (by kernel_rfl) (by kernel_rfl) (fun _ _ _ h => h) (yieldsIf_load_mid (by rfl) 67 (.tmp 20) rfl g3 0 rfl _ _ (fun W hW => (SD.out.below hW).a3.1) Yba.underlying67 rfl (by rw [sz67, hp3.cells])) SA.out ?_
                simp only [Act.put, List.setIfInBounds_toArray, List.set_cons_zero, List.set_cons_succ]
                refine wpAnyH_take (i := 1) (oi := { dst := some 112, op := _, type := _, pos := _, after := _, guard := _ }) (v := .agg p1.cells.toArray) rfl (by kernel_rfl) (by kernel_rfl) (by kernel_rfl) (fun _ _ _ h => h) (yieldsIf_load_mid (by rfl) 67 (.tmp 18) rfl g1 0 rfl _ _ (fun W hW => (SD.out.below hW).a1.1) Yba.underlying67 rfl (by rw [sz67, hp1.cells])) SA.out ?_
                simp only [Act.put, List.setIfInBounds_toArray, List.set_cons_zero, List.set_cons_succ]
                refine wpAnyH_take (i := 2) (oi := { dst := some 113, op := _, type := _, pos := _, after := _, guard := _ }) (v := .bool true) rfl (by kernel_rfl) (by kernel_rfl) (by kernel_rfl) (fun _ _ _ h => h) (Or.inl ⟨by rfl, fun W hW => by clear hW; go_simp⟩) SA.out ?_
                simp only [Act.put, List.setIfInBounds_toArray, List.set_cons_zero, List.set_cons_succ]
                refine wpAnyH_take (i := 3) (oi := { dst := some 114, op := _, type := _, pos := _, after := _, guard := _ }) (v := .bool true) rfl (by kernel_rfl) (by kernel_rfl) (by kernel_rfl) (fun _ _ _ h => h) (Or.inl ⟨by rfl, fun W hW => by clear hW; go_simp⟩) SA.out ?_
                simp only [Act.put, List.setIfInBounds_toArray, List.set_cons_zero, List.set_cons_succ]
                refine wpAnyH_take (i := 4) (oi := { dst := some 115, op := _, type := _, pos := _, after := _, guard := _ }) (v := .agg p3.cells.toArray) rfl (by kernel_rfl) (by kernel_rfl) (by kernel_rfl) (fun _ _ _ h => h) (yieldsIf_load_mid (by rfl) 67 (.tmp 20) rfl g3 0 rfl _ _ (fun W hW => (SD.out.below hW).a3.1) Yba.underlying67 rfl (by rw [sz67, hp3.cells])) SA.out ?_
                simp only [Act.put, List.setIfInBounds_toArray, List.set_cons_zero, List.set_cons_succ]
                refine wpAnyH_take (i := 5) (oi := { dst := some 116, op := _, type := _, pos := _, after := _, guard := _ }) (v := .agg p1.cells.toArray) rfl (by kernel_rfl) (by kernel_rfl) (by kernel_rfl) (fun _ _ _ h => h) (yieldsIf_load_mid (by rfl) 67 (.tmp 18) rfl g1 0 rfl _ _ (fun W hW => (SD.out.below hW).a1.1) Yba.underlying67 rfl (by rw [sz67, hp1.cells])) SA.out ?_
                simp only [Act.put, List.setIfInBounds_toArray, List.set_cons_zero, List.set_cons_succ]
                refine wpAnyH_take (i := 6) (oi := { dst := some 117, op := _, type := _, pos := _, after := _, guard := _ }) (v := .bool (!eqP p3 p1)) rfl (by kernel_rfl) (by kernel_rfl) (by kernel_rfl) (fun _ _ _ h => h) (Or.inl ⟨by rfl, fun W hW => exec_neq67v hne rfl rfl rfl hp3 hp1 W⟩) SA.out ?_
                simp only [Act.put, List.setIfInBounds_toArray, List.set_cons_zero, List.set_cons_succ]
                refine wpAnyH_take (i := 7) (oi := { dst := some 118, op := _, type := _, pos := _, after := _, guard := _ }) (v := .bool (!eqP p3 p1)) rfl (by kernel_rfl) (by kernel_rfl) (by kernel_rfl) (fun _ _ _ h => h) (Or.inl ⟨by rfl, fun W hW => by clear hW; go_simp⟩) SA.out ?_
                simp only [Act.put, List.setIfInBounds_toArray, List.set_cons_zero, List.set_cons_succ]
                refine wpAnyH_take (i := 8) (oi := { dst := some 119, op := _, type := _, pos := _, after := _, guard := _ }) (v := .bool (aheadP p0 p1 p2)) rfl (by kernel_rfl) (by kernel_rfl) (by kernel_rfl) (fun _ _ _ h => h) (Or.inl ⟨by rfl, fun W hW => by clear hW; go_simp⟩) SA.out ?_
                simp only [Act.put, List.setIfInBounds_toArray, List.set_cons_zero, List.set_cons_succ]
                refine wpAnyH_take (i := 9) (oi := { dst := some 120, op := _, type := _, pos := _, after := _, guard := _ }) (v := .bool true) rfl (by kernel_rfl) (by kernel_rfl) (by kernel_rfl) (fun _ _ _ h => h) (Or.inl ⟨by rfl, fun W hW => by clear hW; go_simp⟩) SA.out ?_
                simp only [Act.put, List.setIfInBounds_toArray, List.set_cons_zero, List.set_cons_succ]
                refine wpAnyH_take (i := 10) (oi := { dst := some 121, op := _, type := _, pos := _, after := _, guard := _ }) (v := .bool true) rfl (by kernel_rfl) (by kernel_rfl) (by kernel_rfl) (fun _ _ _ h => h) (Or.inl ⟨by rfl, fun W hW => by clear hW; go_simp⟩) SA.out ?_
                simp only [Act.put, List.setIfInBounds_toArray, List.set_cons_zero, List.set_cons_succ]
                refine wpAnyH_take (i := 11) (oi := { dst := some 122, op := _, type := _, pos := _, after := _, guard := _ }) (v := .agg p4.cells.toArray) rfl (by kernel_rfl) (by kernel_rfl) (by kernel_rfl) (fun _ _ _ h => h) (yieldsIf_load_mid (by rfl) 67 (.tmp 21) rfl g4 0 rfl _ _ (fun W hW => (SD.out.below hW).a4.1) Yba.underlying67 rfl (by rw [sz67, hp4.cells])) SA.out ?_
                simp only [Act.put, List.setIfInBounds_toArray, List.set_cons_zero, List.set_cons_succ]
                refine wpAnyH_take (i := 12) (oi := { dst := some 123, op := _, type := _, pos := _, after := _, guard := _ }) (v := .agg zeroP.cells.toArray) rfl (by kernel_rfl) (by kernel_rfl) (by kernel_rfl) (fun _ _ _ h => h) (yieldsIf_load_mid (by rfl) 67 (.tmp 24) rfl g24 0 rfl _ _ (fun W hW => (HZP.out.below hW).1) Yba.underlying67 rfl (by rw [sz67, zeroP_ok.cells])) SA.out ?_
                simp only [Act.put, List.setIfInBounds_toArray, List.set_cons_zero, List.set_cons_succ]
                refine wpAnyH_take (i := 13) (oi := { dst := some 124, op := _, type := _, pos := _, after := _, guard := _ }) (v := .bool false) rfl (by kernel_rfl) (by kernel_rfl) (by kernel_rfl) (fun _ _ _ h => h) (Or.inl ⟨by rfl, fun W hW => exec_eql67v hsz rfl rfl rfl hp4 zeroP_ok W⟩) SA.out ?_
                simp only [Act.put, List.setIfInBounds_toArray, List.set_cons_zero, List.set_cons_succ]
                refine wpAnyH_take (i := 14) (oi := { dst := some 125, op := _, type := _, pos := _, after := _, guard := _ }) (v := .bool false) rfl (by kernel_rfl) (by kernel_rfl) (by kernel_rfl) (fun _ _ _ h => h) (Or.inl ⟨by rfl, fun W hW => by clear hW; go_simp⟩) SA.out ?_
                simp only [Act.put, List.setIfInBounds_toArray, List.set_cons_zero, List.set_cons_succ]
                refine wpAnyH_take (i := 15) (oi := { dst := some 126, op := _, type := _, pos := _, after := _, guard := _ }) (v := .bool false) rfl (by kernel_rfl) (by kernel_rfl) (by kernel_rfl) (fun _ _ _ h => h) (Or.inl ⟨by rfl, fun W hW => by clear hW; go_simp⟩) SA.out ?_
                simp only [Act.put, List.setIfInBounds_toArray, List.set_cons_zero, List.set_cons_succ]
                refine wpAnyH_take (i := 16) (oi := { dst := some 127, op := _, type := _, pos := _, after := _, guard := _ }) (v := undef) rfl (by kernel_rfl) (by kernel_rfl) (by kernel_rfl) (fun _ _ _ h => h) (Or.inr ⟨by rfl, rfl⟩) SA.out ?_
                simp only [Act.put, List.setIfInBounds_toArray, List.set_cons_zero, List.set_cons_succ]
                refine wpAnyH_take (i := 17) (oi := { dst := some 128, op := _, type := _, pos := _, after := _, guard := _ }) (v := .bool false) rfl (by kernel_rfl) (by kernel_rfl) (by kernel_rfl) (fun _ _ _ h => h) (Or.inl ⟨by rfl, fun W hW => by clear hW; go_simp⟩) SA.out ?_
                simp only [Act.put, List.setIfInBounds_toArray, List.set_cons_zero, List.set_cons_succ]
                refine wpAnyH_take (i := 18) (oi := { dst := some 129, op := _, type := _, pos := _, after := _, guard := _ }) (v := .agg (tbCells p3 p1 (!eqP p3 p1) (aheadP p0 p1 p2) false).toArray) rfl (by kernel_rfl) (by kernel_rfl) (by kernel_rfl) (fun _ _ _ h => h) (Or.inl ⟨by rfl, fun W hW => exec_build5 rfl rfl rfl rfl rfl rfl hp3 hp1 W⟩) SA.out ?_
                simp only [Act.put, List.setIfInBounds_toArray, List.set_cons_zero, List.set_cons_succ]
                refine wpAnyH_take (i := 19) (oi := { dst := some 130, op := _, type := _, pos := _, after := _, guard := _ }) (v := .pointer (some ⟨g25, 2, none⟩)) rfl (by kernel_rfl) (by kernel_rfl) (by kernel_rfl) (fun _ _ _ h => h) (Or.inl ⟨by rfl, fun W hW => by clear hW; go_simp⟩) SA.out ?_
                simp only [Act.put, List.setIfInBounds_toArray, List.set_cons_zero, List.set_cons_succ]
                refine wpAnyH_ready (rs := [20]) (by kernel_rfl) (by simp) ?_
                refine AllReadyH.cons rfl (fun K hK => ?_) AllReadyH.nil
                have hbk : bkV p0 p1 p2 p3 p4 = (tbCells p3 p1 (!eqP p3 p1) (aheadP p0 p1 p2) false) := by unfold bkV tbV; rw [hfv, hrc, hsz]; simp
                have HL : Hid ((tbCells p3 p1 (!eqP p3 p1) (aheadP p0 p1 p2) false).length = 45) := len_tb hp3 hp1 _ _ _
                have SM : Hid (MS w10 (rowTH false (agV ns z) (bkV p0 p1 p2 p3 p4) zt) (wc.drew.setCells g25 2 (tbCells p3 p1 (!eqP p3 p1) (aheadP p0 p1 p2) false))) := by
                  rw [hbk, ← HG25.out]
                  refine ⟨below_setCells _ M4.out.1.drew (Nat.le_refl _), ?_⟩
                  have h0 := blk_setCells (tbCells p3 p1 (!eqP p3 p1) (aheadP p0 p1 p2) false) wc.drew w10.heap.size 2 _ 87 M4.out.2 (by rw [len_row rfl rfl, HL.out]; omega)
                  rw [splice_back _ _ _ _ _ rfl HL.out] at h0
                  exact h0
                have HTR : Hid (wc.drew.there g25 2 45) := by rw [← HG25.out]; exact there_blk (w := wc.drew) M4.out.2 (by rw [len_row rfl rfl]; omega)
                refine step_store_mid rfl 84 (.tmp 130) (.tmp 129) rfl g25 2 (tbCells p3 p1 (!eqP p3 p1) (aheadP p0 p1 p2) false).toArray rfl rfl (by rw [List.size_toArray, HL.out]; exact HTR.out) (by rw [sz84, List.size_toArray, HL.out]) (all_oneCell_toArray (one_tb _ _ _ _ _)) ?_
                refine hK.out _ _ SM.out.1 (fun _ => ?_)
                clear hK K
                refine wpAnyH_done (by kernel_rfl) ?_ _
                refine NoPanic.normal ?_
                go_wp2_with fail
                go_meet
                case rel => first | exact SM.out | exact hfv.symm ▸ SM.out
              · refine wp_region_noPanic ?_
                refine wp_region_held_drew (S := Below w10.heap.size w10) (by kernel_rfl) SA.out (fun _ => ?_)
                refine wpAnyH_take (i := 0) (oi := { dst := some 111, op := _, type := _, pos := _, after := _, guard := _ }) (v := .agg p3.cells.toArray) rfl (by kernel_rfl) (by kernel_rfl) (by kernel_rfl) (fun _ _ _ h => h) (yieldsIf_load_mid (by rfl) 67 (.tmp 20) rfl g3 0 rfl _ _ (fun W hW => (SD.out.below hW).a3.1) Yba.underlying67 rfl (by rw [sz67, hp3.cells])) SA.out ?_
                simp only [Act.put, List.setIfInBounds_toArray, List.set_cons_zero, List.set_cons_succ]
                refine wpAnyH_take (i := 1) (oi := { dst := some 112, op := _, type := _, pos := _, after := _, guard := _ }) (v := .agg p1.cells.toArray) rfl (by kernel_rfl) (by kernel_rfl) (by kernel_rfl) (fun _ _ _ h => h) (yieldsIf_load_mid (by rfl) 67 (.tmp 18) rfl g1 0 rfl _ _ (fun W hW => (SD.out.below hW).a1.1) Yba.underlying67 rfl (by rw [sz67, hp1.cells])) SA.out ?_
                simp only [Act.put, List.setIfInBounds_toArray, List.set_cons_zero, List.set_cons_succ]
                refine wpAnyH_take (i := 2) (oi := { dst := some 113, op := _, type := _, pos := _, after := _, guard := _ }) (v := .bool true) rfl (by kernel_rfl) (by kernel_rfl) (by kernel_rfl) (fun _ _ _ h => h) (Or.inl ⟨by rfl, fun W hW => by clear hW; go_simp⟩) SA.out ?_
                simp only [Act.put, List.setIfInBounds_toArray, List.set_cons_zero, List.set_cons_succ]
                refine wpAnyH_take (i := 3) (oi := { dst := some 114, op := _, type := _, pos := _, after := _, guard := _ }) (v := .bool true) rfl (by kernel_rfl) (by kernel_rfl) (by kernel_rfl) (fun _ _ _ h => h) (Or.inl ⟨by rfl, fun W hW => by clear hW; go_simp⟩) SA.out ?_
                simp only [Act.put, List.setIfInBounds_toArray, List.set_cons_zero, List.set_cons_succ]
                refine wpAnyH_take (i := 4) (oi := { dst := some 115, op := _, type := _, pos := _, after := _, guard := _ }) (v := .agg p3.cells.toArray) rfl (by kernel_rfl) (by kernel_rfl) (by kernel_rfl) (fun _ _ _ h => h) (yieldsIf_load_mid (by rfl) 67 (.tmp 20) rfl g3 0 rfl _ _ (fun W hW => (SD.out.below hW).a3.1) Yba.underlying67 rfl (by rw [sz67, hp3.cells])) SA.out ?_
                simp only [Act.put, List.setIfInBounds_toArray, List.set_cons_zero, List.set_cons_succ]
                refine wpAnyH_take (i := 5) (oi := { dst := some 116, op := _, type := _, pos := _, after := _, guard := _ }) (v := .agg p1.cells.toArray) rfl (by kernel_rfl) (by kernel_rfl) (by kernel_rfl) (fun _ _ _ h => h) (yieldsIf_load_mid (by rfl) 67 (.tmp 18) rfl g1 0 rfl _ _ (fun W hW => (SD.out.below hW).a1.1) Yba.underlying67 rfl (by rw [sz67, hp1.cells])) SA.out ?_
                simp only [Act.put, List.setIfInBounds_toArray, List.set_cons_zero, List.set_cons_succ]
                refine wpAnyH_take (i := 6) (oi := { dst := some 117, op := _, type := _, pos := _, after := _, guard := _ }) (v := .bool (!eqP p3 p1)) rfl (by kernel_rfl) (by kernel_rfl) (by kernel_rfl) (fun _ _ _ h => h) (Or.inl ⟨by rfl, fun W hW => exec_neq67v hne rfl rfl rfl hp3 hp1 W⟩) SA.out ?_
                simp only [Act.put, List.setIfInBounds_toArray, List.set_cons_zero, List.set_cons_succ]
                refine wpAnyH_take (i := 7) (oi := { dst := some 118, op := _, type := _, pos := _, after := _, guard := _ }) (v := .bool (!eqP p3 p1)) rfl (by kernel_rfl) (by kernel_rfl) (by kernel_rfl) (fun _ _ _ h => h) (Or.inl ⟨by rfl, fun W hW => by clear hW; go_simp⟩) SA.out ?_
                simp only [Act.put, List.setIfInBounds_toArray, List.set_cons_zero, List.set_cons_succ]
                refine wpAnyH_take (i := 8) (oi := { dst := some 119, op := _, type := _, pos := _, after := _, guard := _ }) (v := .bool (aheadP p0 p1 p2)) rfl (by kernel_rfl) (by kernel_rfl) (by kernel_rfl) (fun _ _ _ h => h) (Or.inl ⟨by rfl, fun W hW => by clear hW; go_simp⟩) SA.out ?_
                simp only [Act.put, List.setIfInBounds_toArray, List.set_cons_zero, List.set_cons_succ]
                refine wpAnyH_take (i := 9) (oi := { dst := some 120, op := _, type := _, pos := _, after := _, guard := _ }) (v := .bool true) rfl (by kernel_rfl) (by kernel_rfl) (by kernel_rfl) (fun _ _ _ h => h) (Or.inl ⟨by rfl, fun W hW => by clear hW; go_simp⟩) SA.out ?_
                simp only [Act.put, List.setIfInBounds_toArray, List.set_cons_zero, List.set_cons_succ]
                refine wpAnyH_take (i := 10) (oi := { dst := some 121, op := _, type := _, pos := _, after := _, guard := _ }) (v := .bool true) rfl (by kernel_rfl) (by kernel_rfl) (by kernel_rfl) (fun _ _ _ h => h) (Or.inl ⟨by rfl, fun W hW => by clear hW; go_simp⟩) SA.out ?_
                simp only [Act.put, List.setIfInBounds_toArray, List.set_cons_zero, List.set_cons_succ]
                refine wpAnyH_take (i := 11) (oi := { dst := some 122, op := _, type := _, pos := _, after := _, guard := _ }) (v := .agg p4.cells.toArray) rfl (by kernel_rfl) (by kernel_rfl) (by kernel_rfl) (fun _ _ _ h => h) (yieldsIf_load_mid (by rfl) 67 (.tmp 21) rfl g4 0 rfl _ _ (fun W hW => (SD.out.below hW).a4.1) Yba.underlying67 rfl (by rw [sz67, hp4.cells])) SA.out ?_
                simp only [Act.put, List.setIfInBounds_toArray, List.set_cons_zero, List.set_cons_succ]
                refine wpAnyH_take (i := 12) (oi := { dst := some 123, op := _, type := _, pos := _, after := _, guard := _ }) (v := .agg zeroP.cells.toArray) rfl (by kernel_rfl) (by kernel_rfl) (by kernel_rfl) (fun _ _ _ h => h) (yieldsIf_load_mid (by rfl) 67 (.tmp 24) rfl g24 0 rfl _ _ (fun W hW => (HZP.out.below hW).1) Yba.underlying67 rfl (by rw [sz67, zeroP_ok.cells])) SA.out ?_
                simp only [Act.put, List.setIfInBounds_toArray, List.set_cons_zero, List.set_cons_succ]
                refine wpAnyH_take (i := 13) (oi := { dst := some 124, op := _, type := _, pos := _, after := _, guard := _ }) (v := .bool true) rfl (by kernel_rfl) (by kernel_rfl) (by kernel_rfl) (fun _ _ _ h => h) (Or.inl ⟨by rfl, fun W hW => exec_eql67v hsz rfl rfl rfl hp4 zeroP_ok W⟩) SA.out ?_
                simp only [Act.put, List.setIfInBounds_toArray, List.set_cons_zero, List.set_cons_succ]
                refine wpAnyH_take (i := 14) (oi := { dst := some 125, op := _, type := _, pos := _, after := _, guard := _ }) (v := .bool true) rfl (by kernel_rfl) (by kernel_rfl) (by kernel_rfl) (fun _ _ _ h => h) (Or.inl ⟨by rfl, fun W hW => by clear hW; go_simp⟩) SA.out ?_
                simp only [Act.put, List.setIfInBounds_toArray, List.set_cons_zero, List.set_cons_succ]
                refine wpAnyH_take (i := 15) (oi := { dst := some 126, op := _, type := _, pos := _, after := _, guard := _ }) (v := .bool true) rfl (by kernel_rfl) (by kernel_rfl) (by kernel_rfl) (fun _ _ _ h => h) (Or.inl ⟨by rfl, fun W hW => by clear hW; go_simp⟩) SA.out ?_
                simp only [Act.put, List.setIfInBounds_toArray, List.set_cons_zero, List.set_cons_succ]
                refine wpAnyH_take (i := 16) (oi := { dst := some 127, op := _, type := _, pos := _, after := _, guard := _ }) (v := .bool (aheadP p0 p1 p2)) rfl (by kernel_rfl) (by kernel_rfl) (by kernel_rfl) (fun _ _ _ h => h) (Or.inl ⟨by rfl, fun W hW => by clear hW; go_simp⟩) SA.out ?_
                simp only [Act.put, List.setIfInBounds_toArray, List.set_cons_zero, List.set_cons_succ]
                refine wpAnyH_take (i := 17) (oi := { dst := some 128, op := _, type := _, pos := _, after := _, guard := _ }) (v := .bool (aheadP p0 p1 p2)) rfl (by kernel_rfl) (by kernel_rfl) (by kernel_rfl) (fun _ _ _ h => h) (Or.inl ⟨by rfl, fun W hW => by clear hW; go_simp⟩) SA.out ?_
                simp only [Act.put, List.setIfInBounds_toArray, List.set_cons_zero, List.set_cons_succ]
                refine wpAnyH_take (i := 18) (oi := { dst := some 129, op := _, type := _, pos := _, after := _, guard := _ }) (v := .agg (tbCells p3 p1 (!eqP p3 p1) (aheadP p0 p1 p2) (aheadP p0 p1 p2)).toArray) rfl (by kernel_rfl) (by kernel_rfl) (by kernel_rfl) (fun _ _ _ h => h) (Or.inl ⟨by rfl, fun W hW => exec_build5 rfl rfl rfl rfl rfl rfl hp3 hp1 W⟩) SA.out ?_
                simp only [Act.put, List.setIfInBounds_toArray, List.set_cons_zero, List.set_cons_succ]
                refine wpAnyH_take (i := 19) (oi := { dst := some 130, op := _, type := _, pos := _, after := _, guard := _ }) (v := .pointer (some ⟨g25, 2, none⟩)) rfl (by kernel_rfl) (by kernel_rfl) (by kernel_rfl) (fun _ _ _ h => h) (Or.inl ⟨by rfl, fun W hW => by clear hW; go_simp⟩) SA.out ?_
                simp only [Act.put, List.setIfInBounds_toArray, List.set_cons_zero, List.set_cons_succ]
                refine wpAnyH_ready (rs := [20]) (by kernel_rfl) (by simp) ?_
                refine AllReadyH.cons rfl (fun K hK => ?_) AllReadyH.nil
                have hbk : bkV p0 p1 p2 p3 p4 = (tbCells p3 p1 (!eqP p3 p1) (aheadP p0 p1 p2) (aheadP p0 p1 p2)) := by unfold bkV tbV; rw [hfv, hrc, hsz]; simp
                have HL : Hid ((tbCells p3 p1 (!eqP p3 p1) (aheadP p0 p1 p2) (aheadP p0 p1 p2)).length = 45) := len_tb hp3 hp1 _ _ _
                have SM : Hid (MS w10 (rowTH false (agV ns z) (bkV p0 p1 p2 p3 p4) zt) (wc.drew.setCells g25 2 (tbCells p3 p1 (!eqP p3 p1) (aheadP p0 p1 p2) (aheadP p0 p1 p2)))) := by
                  rw [hbk, ← HG25.out]
                  refine ⟨below_setCells _ M4.out.1.drew (Nat.le_refl _), ?_⟩
                  have h0 := blk_setCells (tbCells p3 p1 (!eqP p3 p1) (aheadP p0 p1 p2) (aheadP p0 p1 p2)) wc.drew w10.heap.size 2 _ 87 M4.out.2 (by rw [len_row rfl rfl, HL.out]; omega)
                  rw [splice_back _ _ _ _ _ rfl HL.out] at h0
                  exact h0
                have HTR : Hid (wc.drew.there g25 2 45) := by rw [← HG25.out]; exact there_blk (w := wc.drew) M4.out.2 (by rw [len_row rfl rfl]; omega)
                refine step_store_mid rfl 84 (.tmp 130) (.tmp 129) rfl g25 2 (tbCells p3 p1 (!eqP p3 p1) (aheadP p0 p1 p2) (aheadP p0 p1 p2)).toArray rfl rfl (by rw [List.size_toArray, HL.out]; exact HTR.out) (by rw [sz84, List.size_toArray, HL.out]) (all_oneCell_toArray (one_tb _ _ _ _ _)) ?_
                refine hK.out _ _ SM.out.1 (fun _ => ?_)
                clear hK K
                refine wpAnyH_done (by kernel_rfl) ?_ _
                refine NoPanic.normal ?_
                go_wp2_with fail
                go_meet
                case rel => first | exact SM.out | exact hfv.symm ▸ SM.out
      · rw [hfv] at M2
        go_wp2_with fail
        go_meet
        case rel =>
          have e : bkV p0 p1 p2 p3 p4 = zb := by unfold bkV; rw [hfv]; rfl
          first
            | (rw [e, hfv]; exact M2.out)
            | (rw [e]; exact M2.out)
    case rest =>
      have M4 : Hid (MS w10 (rowTH (eqP p1 zeroP) (agV ns z) (bkV p0 p1 p2 p3 p4) zt) wc) := hcut
      clear hcut M2
      have HBK : Hid ((bkV p0 p1 p2 p3 p4).length = 45) := len_bk hp1 hp3
      clear cN0
      go_wp2_with fail
      go_loopw [29] (fun v29 wq => ∃ (i : Nat), i ≤ ns.length ∧ i ≤ 16 ∧ v29 = .int .i64 i ∧ MS w10 (rowTH (eqP p1 zeroP) (agV ns z) (bkV p0 p1 p2 p3 p4) (tkI ns i)) wq) (fun v29 _ => 16 - (intOf v29).toNat)
      case atStart => exact ⟨0, by omega, by omega, rfl, by rw [tkI_zero]; exact M4.out⟩
      case round =>
        obtain ⟨i, hi, hi16, rfl, hM⟩ := hrel
        have HM : Hid (MS w10 (rowTH (eqP p1 zeroP) (agV ns z) (bkV p0 p1 p2 p3 p4) (tkI ns i)) wr) := hM
        clear hM
        by_cases hil : i < ns.length ∧ i < 16
        · have hil' : (i : Int) < (ns.length : Int) := by omega
          have hi16' : (i : Int) < 16 := by omega
          obtain ⟨y, hy⟩ : ∃ y, ns[i]? = some y := ⟨ns[i], List.getElem?_eq_getElem hil.1⟩
          obtain ⟨g, o, rfl, hg, hc⟩ := (HNS.out.below (SD.out.bel.trans (HM.out.1.mono SD.out.bel.size))) i y hy
          have HY : Hid _ := hy
          have cN : wr.cell? ⟨g25, 47 + i, none⟩ = some (.int .u64 0) := by rw [← HG25.out]; exact HM.out.cell (row_get _ _ _ HBK.out _ _ hil.2 hil.1)
          have fN : wr.frozen? ⟨g25, 47 + i, none⟩ = false := by rw [← HG25.out]; exact HM.out.froz _
          clear hy hg
          have M5 : Hid (MS w10 (rowTH (eqP p1 zeroP) (agV ns z) (bkV p0 p1 p2 p3 p4) (tkI ns (i + 1))) (wr.setCell ⟨g25, 47 + i, none⟩ (.int .u64 y))) := by
            have h0 := HM.out.set (47 + i) (.int .u64 y)
            rw [row_set _ _ _ _ HBK.out, tkI_set _ _ _ hil.2 HY.out, HG25.out] at h0
            exact h0
          go_wp2_with fail
          go_roundw
          case rel => exact ⟨i + 1, by omega, by omega, by simp, M5.out⟩
          case measure => simp [intOf]; omega
        · have HV : Hid (MS w10 tv wr) := by
            have h0 := HM.out
            rw [tkI_last ns i (by omega) hi] at h0
            rw [HTV.out]; exact h0
          clear HM M4
          have HL : Hid (tv.length = 63) := HTL.out
          have hA : Hid (wr.rangeAt g23 0 tv) := by
            have := range_of_blk (w := wr) (g := g23) (by rw [HV.out.1.block _ (Array.getElem?_eq_some_iff.1 HTH.out).1]; exact HTH.out)
            exact this
          have hB : Hid (wr.rangeAt g25 0 tv) := by rw [← HG25.out]; exact range_of_blk HV.out.2
          by_cases hil2 : i < ns.length
          · have hil' : (i : Int) < (ns.length : Int) := by omega
            have hi16' : ¬ (i : Int) < 16 := by omega
            clear hil hil2
            go_upto_region 29 with (first
              | (refine gate (some 148) rfl ?_; refine wpList_val rfl (.agg tv.toArray) (exec_load 87 (.tmp 23) rfl g23 0 rfl tv _ hA.out under87 rfl (by rw [sz87, HTL.out])) ?_; simp only [Act.put, List.setIfInBounds_toArray, List.set_cons_zero, List.set_cons_succ])
              | (refine gate (some 149) rfl ?_; refine wpList_val rfl (.agg tv.toArray) (exec_load 87 (.tmp 25) rfl g25 0 rfl tv _ hB.out under87 rfl (by rw [sz87, HTL.out])) ?_; simp only [Act.put, List.setIfInBounds_toArray, List.set_cons_zero, List.set_cons_succ])
              | (refine gate (some 150) rfl ?_; refine wpList_val rfl (.bool false) (exec_neqTH rfl hp1 hp3 HTV.out rfl rfl _) ?_; simp only [Act.put, List.setIfInBounds_toArray, List.set_cons_zero, List.set_cons_succ]))
            clear hA hB
            have SA : Hid (Below w10.heap.size w10 wr.drew) := HV.out.1.drew
            obtain ⟨nb, hnb1, hnb2⟩ : ∃ nb, a'.isNone = nb ∧ ta.isNone = nb := ⟨ta.isNone, isNone_same HNN.out, rfl⟩
            have HNB1 : Hid _ := hnb1
            have HNB2 : Hid _ := hnb2
            clear hnb1 hnb2
            refine wp_region_noPanic ?_
            refine wp_region_held_drew (S := Below w10.heap.size w10) (by kernel_rfl) SA.out (fun _ => ?_)
            refine wpAnyH_take (i := 0) (oi := { dst := some 151, op := _, type := _, pos := _, after := _, guard := _ }) (v := .pointer (some ⟨gr, 0, none⟩)) rfl (by kernel_rfl) (by kernel_rfl) (by kernel_rfl) (fun _ _ _ h => h) (Or.inl ⟨by rfl, fun W hW => by clear hW; go_simp⟩) SA.out ?_
            simp only [Act.put, List.setIfInBounds_toArray, List.set_cons_zero, List.set_cons_succ]
            refine wpAnyH_take (i := 1) (oi := { dst := some 152, op := _, type := _, pos := _, after := _, guard := _ }) (v := .pointer (some ⟨gr, 0, none⟩)) rfl (by kernel_rfl) (by kernel_rfl) (by kernel_rfl) (fun _ _ _ h => h) (Or.inl ⟨by rfl, fun W hW => by clear hW; go_simp⟩) SA.out ?_
            simp only [Act.put, List.setIfInBounds_toArray, List.set_cons_zero, List.set_cons_succ]
            refine wpAnyH_take (i := 2) (oi := { dst := some 153, op := _, type := _, pos := _, after := _, guard := _ }) (v := .pointer (some ⟨gr, 0, none⟩)) rfl (by kernel_rfl) (by kernel_rfl) (by kernel_rfl) (fun _ _ _ h => h) (Or.inl ⟨by rfl, fun W hW => by clear hW; go_simp⟩) SA.out ?_
            simp only [Act.put, List.setIfInBounds_toArray, List.set_cons_zero, List.set_cons_succ]
            refine wpAnyH_take (i := 3) (oi := { dst := some 154, op := _, type := _, pos := _, after := _, guard := _ }) (v := .agg p0.cells.toArray) rfl (by kernel_rfl) (by kernel_rfl) (by kernel_rfl) (fun _ _ _ h => h) (yieldsIf_load_mid (by rfl) 67 (.tmp 153) rfl gr 0 rfl _ _ (fun W hW => (HRG2.out.below hW).2.1) Yba.underlying67 rfl (by rw [sz67, hp0.cells])) SA.out ?_
            simp only [Act.put, List.setIfInBounds_toArray, List.set_cons_zero, List.set_cons_succ]
            refine wpAnyH_take (i := 4) (oi := { dst := some 155, op := _, type := _, pos := _, after := _, guard := _ }) (v := .agg p0.cells.toArray) rfl (by kernel_rfl) (by kernel_rfl) (by kernel_rfl) (fun _ _ _ h => h) (yieldsIf_load_mid (by rfl) 67 (.tmp 17) rfl g0 0 rfl _ _ (fun W hW => (SD.out.below hW).a0.1) Yba.underlying67 rfl (by rw [sz67, hp0.cells])) SA.out ?_
            simp only [Act.put, List.setIfInBounds_toArray, List.set_cons_zero, List.set_cons_succ]
            refine wpAnyH_take (i := 5) (oi := { dst := some 156, op := _, type := _, pos := _, after := _, guard := _ }) (v := .bool true) rfl (by kernel_rfl) (by kernel_rfl) (by kernel_rfl) (fun _ _ _ h => h) (Or.inl ⟨by rfl, fun W hW => exec_eql67v (eqP_self p0) rfl rfl rfl hp0 hp0 W⟩) SA.out ?_
            simp only [Act.put, List.setIfInBounds_toArray, List.set_cons_zero, List.set_cons_succ]
            refine wpAnyH_take (i := 6) (oi := { dst := some 157, op := _, type := _, pos := _, after := _, guard := _ }) (v := .bool true) rfl (by kernel_rfl) (by kernel_rfl) (by kernel_rfl) (fun _ _ _ h => h) (Or.inl ⟨by rfl, fun W hW => by clear hW; go_simp⟩) SA.out ?_
            simp only [Act.put, List.setIfInBounds_toArray, List.set_cons_zero, List.set_cons_succ]
            refine wpAnyH_take (i := 7) (oi := { dst := some 158, op := _, type := _, pos := _, after := _, guard := _ }) (v := .pointer (some ⟨gr, 0, none⟩)) rfl (by kernel_rfl) (by kernel_rfl) (by kernel_rfl) (fun _ _ _ h => h) (Or.inl ⟨by rfl, fun W hW => by clear hW; go_simp⟩) SA.out ?_
            simp only [Act.put, List.setIfInBounds_toArray, List.set_cons_zero, List.set_cons_succ]
            refine wpAnyH_take (i := 8) (oi := { dst := some 159, op := _, type := _, pos := _, after := _, guard := _ }) (v := .pointer (some ⟨gr, 0, none⟩)) rfl (by kernel_rfl) (by kernel_rfl) (by kernel_rfl) (fun _ _ _ h => h) (Or.inl ⟨by rfl, fun W hW => by clear hW; go_simp⟩) SA.out ?_
            simp only [Act.put, List.setIfInBounds_toArray, List.set_cons_zero, List.set_cons_succ]
            refine wpAnyH_take (i := 9) (oi := { dst := some 160, op := _, type := _, pos := _, after := _, guard := _ }) (v := .pointer (some ⟨gr, 23, none⟩)) rfl (by kernel_rfl) (by kernel_rfl) (by kernel_rfl) (fun _ _ _ h => h) (Or.inl ⟨by rfl, fun W hW => by clear hW; go_simp⟩) SA.out ?_
            simp only [Act.put, List.setIfInBounds_toArray, List.set_cons_zero, List.set_cons_succ]
            refine wpAnyH_take (i := 10) (oi := { dst := some 161, op := _, type := _, pos := _, after := _, guard := _ }) (v := .agg p1.cells.toArray) rfl (by kernel_rfl) (by kernel_rfl) (by kernel_rfl) (fun _ _ _ h => h) (yieldsIf_load_mid (by rfl) 67 (.tmp 160) rfl gr 23 rfl _ _ (fun W hW => (HRG2.out.below hW).2.2.1) Yba.underlying67 rfl (by rw [sz67, hp1.cells])) SA.out ?_
            simp only [Act.put, List.setIfInBounds_toArray, List.set_cons_zero, List.set_cons_succ]
            refine wpAnyH_take (i := 11) (oi := { dst := some 162, op := _, type := _, pos := _, after := _, guard := _ }) (v := .agg p1.cells.toArray) rfl (by kernel_rfl) (by kernel_rfl) (by kernel_rfl) (fun _ _ _ h => h) (yieldsIf_load_mid (by rfl) 67 (.tmp 18) rfl g1 0 rfl _ _ (fun W hW => (SD.out.below hW).a1.1) Yba.underlying67 rfl (by rw [sz67, hp1.cells])) SA.out ?_
            simp only [Act.put, List.setIfInBounds_toArray, List.set_cons_zero, List.set_cons_succ]
            refine wpAnyH_take (i := 12) (oi := { dst := some 163, op := _, type := _, pos := _, after := _, guard := _ }) (v := .bool true) rfl (by kernel_rfl) (by kernel_rfl) (by kernel_rfl) (fun _ _ _ h => h) (Or.inl ⟨by rfl, fun W hW => exec_eql67v (eqP_self p1) rfl rfl rfl hp1 hp1 W⟩) SA.out ?_
            simp only [Act.put, List.setIfInBounds_toArray, List.set_cons_zero, List.set_cons_succ]
            refine wpAnyH_take (i := 13) (oi := { dst := some 164, op := _, type := _, pos := _, after := _, guard := _ }) (v := .bool true) rfl (by kernel_rfl) (by kernel_rfl) (by kernel_rfl) (fun _ _ _ h => h) (Or.inl ⟨by rfl, fun W hW => by clear hW; go_simp⟩) SA.out ?_
            simp only [Act.put, List.setIfInBounds_toArray, List.set_cons_zero, List.set_cons_succ]
            refine wpAnyH_take (i := 14) (oi := { dst := some 165, op := _, type := _, pos := _, after := _, guard := _ }) (v := .bool true) rfl (by kernel_rfl) (by kernel_rfl) (by kernel_rfl) (fun _ _ _ h => h) (Or.inl ⟨by rfl, fun W hW => by clear hW; go_simp⟩) SA.out ?_
            simp only [Act.put, List.setIfInBounds_toArray, List.set_cons_zero, List.set_cons_succ]
            refine wpAnyH_take (i := 15) (oi := { dst := some 166, op := _, type := _, pos := _, after := _, guard := _ }) (v := .pointer (some ⟨gr, 0, none⟩)) rfl (by kernel_rfl) (by kernel_rfl) (by kernel_rfl) (fun _ _ _ h => h) (Or.inl ⟨by rfl, fun W hW => by clear hW; go_simp⟩) SA.out ?_
            simp only [Act.put, List.setIfInBounds_toArray, List.set_cons_zero, List.set_cons_succ]
            refine wpAnyH_take (i := 16) (oi := { dst := some 167, op := _, type := _, pos := _, after := _, guard := _ }) (v := .pointer (some ⟨gr, 0, none⟩)) rfl (by kernel_rfl) (by kernel_rfl) (by kernel_rfl) (fun _ _ _ h => h) (Or.inl ⟨by rfl, fun W hW => by clear hW; go_simp⟩) SA.out ?_
            simp only [Act.put, List.setIfInBounds_toArray, List.set_cons_zero, List.set_cons_succ]
            refine wpAnyH_take (i := 17) (oi := { dst := some 168, op := _, type := _, pos := _, after := _, guard := _ }) (v := .pointer (some ⟨gr, 45, none⟩)) rfl (by kernel_rfl) (by kernel_rfl) (by kernel_rfl) (fun _ _ _ h => h) (Or.inl ⟨by rfl, fun W hW => by clear hW; go_simp⟩) SA.out ?_
            simp only [Act.put, List.setIfInBounds_toArray, List.set_cons_zero, List.set_cons_succ]
            refine wpAnyH_take (i := 18) (oi := { dst := some 169, op := _, type := _, pos := _, after := _, guard := _ }) (v := .agg p2.cells.toArray) rfl (by kernel_rfl) (by kernel_rfl) (by kernel_rfl) (fun _ _ _ h => h) (yieldsIf_load_mid (by rfl) 67 (.tmp 168) rfl gr 45 rfl _ _ (fun W hW => (HRG2.out.below hW).2.2.2.1) Yba.underlying67 rfl (by rw [sz67, hp2.cells])) SA.out ?_
            simp only [Act.put, List.setIfInBounds_toArray, List.set_cons_zero, List.set_cons_succ]
            refine wpAnyH_take (i := 19) (oi := { dst := some 170, op := _, type := _, pos := _, after := _, guard := _ }) (v := .agg p2.cells.toArray) rfl (by kernel_rfl) (by kernel_rfl) (by kernel_rfl) (fun _ _ _ h => h) (yieldsIf_load_mid (by rfl) 67 (.tmp 19) rfl g2 0 rfl _ _ (fun W hW => (SD.out.below hW).a2.1) Yba.underlying67 rfl (by rw [sz67, hp2.cells])) SA.out ?_
            simp only [Act.put, List.setIfInBounds_toArray, List.set_cons_zero, List.set_cons_succ]
            refine wpAnyH_take (i := 20) (oi := { dst := some 171, op := _, type := _, pos := _, after := _, guard := _ }) (v := .bool true) rfl (by kernel_rfl) (by kernel_rfl) (by kernel_rfl) (fun _ _ _ h => h) (Or.inl ⟨by rfl, fun W hW => exec_eql67v (eqP_self p2) rfl rfl rfl hp2 hp2 W⟩) SA.out ?_
            simp only [Act.put, List.setIfInBounds_toArray, List.set_cons_zero, List.set_cons_succ]
            refine wpAnyH_take (i := 21) (oi := { dst := some 172, op := _, type := _, pos := _, after := _, guard := _ }) (v := .bool true) rfl (by kernel_rfl) (by kernel_rfl) (by kernel_rfl) (fun _ _ _ h => h) (Or.inl ⟨by rfl, fun W hW => by clear hW; go_simp⟩) SA.out ?_
            simp only [Act.put, List.setIfInBounds_toArray, List.set_cons_zero, List.set_cons_succ]
            refine wpAnyH_take (i := 22) (oi := { dst := some 173, op := _, type := _, pos := _, after := _, guard := _ }) (v := .bool true) rfl (by kernel_rfl) (by kernel_rfl) (by kernel_rfl) (fun _ _ _ h => h) (Or.inl ⟨by rfl, fun W hW => by clear hW; go_simp⟩) SA.out ?_
            simp only [Act.put, List.setIfInBounds_toArray, List.set_cons_zero, List.set_cons_succ]
            refine wpAnyH_take (i := 23) (oi := { dst := some 174, op := _, type := _, pos := _, after := _, guard := _ }) (v := .pointer (some ⟨gr, 0, none⟩)) rfl (by kernel_rfl) (by kernel_rfl) (by kernel_rfl) (fun _ _ _ h => h) (Or.inl ⟨by rfl, fun W hW => by clear hW; go_simp⟩) SA.out ?_
            simp only [Act.put, List.setIfInBounds_toArray, List.set_cons_zero, List.set_cons_succ]
            refine wpAnyH_take (i := 24) (oi := { dst := some 175, op := _, type := _, pos := _, after := _, guard := _ }) (v := .pointer (some ⟨gr, 0, none⟩)) rfl (by kernel_rfl) (by kernel_rfl) (by kernel_rfl) (fun _ _ _ h => h) (Or.inl ⟨by rfl, fun W hW => by clear hW; go_simp⟩) SA.out ?_
            simp only [Act.put, List.setIfInBounds_toArray, List.set_cons_zero, List.set_cons_succ]
            refine wpAnyH_take (i := 25) (oi := { dst := some 176, op := _, type := _, pos := _, after := _, guard := _ }) (v := .pointer (some ⟨gr, 87, none⟩)) rfl (by kernel_rfl) (by kernel_rfl) (by kernel_rfl) (fun _ _ _ h => h) (Or.inl ⟨by rfl, fun W hW => by clear hW; go_simp⟩) SA.out ?_
            simp only [Act.put, List.setIfInBounds_toArray, List.set_cons_zero, List.set_cons_succ]
            refine wpAnyH_take (i := 26) (oi := { dst := some 177, op := _, type := _, pos := _, after := _, guard := _ }) (v := .slice a' ns.length cap') rfl (by kernel_rfl) (by kernel_rfl) (by kernel_rfl) (fun _ _ _ h => h) (Or.inl ⟨by rfl, fun W hW => by have hd := (HRG2.out.below hW).2.2.2.2; clear hW; go_simp⟩) SA.out ?_
            simp only [Act.put, List.setIfInBounds_toArray, List.set_cons_zero, List.set_cons_succ]
            refine wpAnyH_take (i := 27) (oi := { dst := some 178, op := _, type := _, pos := _, after := _, guard := _ }) (v := .slice ta ns.length tc) rfl (by kernel_rfl) (by kernel_rfl) (by kernel_rfl) (fun _ _ _ h => h) (Or.inl ⟨by rfl, fun W hW => by clear hW; go_simp⟩) SA.out ?_
            simp only [Act.put, List.setIfInBounds_toArray, List.set_cons_zero, List.set_cons_succ]
            refine wpAnyH_ready (rs := [28]) (by kernel_rfl) (by simp) ?_
            refine AllReadyH.cons rfl (fun K hK => ?_) AllReadyH.nil
            rw [if_pos (by rfl)]
            go_simp
            refine (equal18 a' ta ns cap' tc hn wr.drew (HN9.out.below SA.out) (HNS.out.below (SD.out.bel.trans (SA.out.mono SD.out.bel.size)))).mono ?_
            rintro e w20 ⟨rfl, hB20⟩
            have SB : Hid (Below w10.heap.size w10 w20) := SA.out.trans (hB20.mono SA.out.size)
            clear hB20
            refine hK.out _ _ SB.out (fun _ => ?_)
            clear hK K
            refine wpAnyH_take (i := 29) (oi := { dst := some 180, op := _, type := _, pos := _, after := _, guard := _ }) (v := .bool true) rfl (by kernel_rfl) (by kernel_rfl) (by kernel_rfl) (fun _ _ _ h => h) (Or.inl ⟨by rfl, fun W hW => by clear hW; go_simp⟩) SB.out ?_
            simp only [Act.put, List.setIfInBounds_toArray, List.set_cons_zero, List.set_cons_succ]
            refine wpAnyH_take (i := 30) (oi := { dst := some 181, op := _, type := _, pos := _, after := _, guard := _ }) (v := .bool true) rfl (by kernel_rfl) (by kernel_rfl) (by kernel_rfl) (fun _ _ _ h => h) (Or.inl ⟨by rfl, fun W hW => by clear hW; go_simp⟩) SB.out ?_
            simp only [Act.put, List.setIfInBounds_toArray, List.set_cons_zero, List.set_cons_succ]
            refine wpAnyH_take (i := 31) (oi := { dst := some 182, op := _, type := _, pos := _, after := _, guard := _ }) (v := .pointer (some ⟨gr, 0, none⟩)) rfl (by kernel_rfl) (by kernel_rfl) (by kernel_rfl) (fun _ _ _ h => h) (Or.inl ⟨by rfl, fun W hW => by clear hW; go_simp⟩) SB.out ?_
            simp only [Act.put, List.setIfInBounds_toArray, List.set_cons_zero, List.set_cons_succ]
            refine wpAnyH_take (i := 32) (oi := { dst := some 183, op := _, type := _, pos := _, after := _, guard := _ }) (v := .pointer (some ⟨gr, 0, none⟩)) rfl (by kernel_rfl) (by kernel_rfl) (by kernel_rfl) (fun _ _ _ h => h) (Or.inl ⟨by rfl, fun W hW => by clear hW; go_simp⟩) SB.out ?_
            simp only [Act.put, List.setIfInBounds_toArray, List.set_cons_zero, List.set_cons_succ]
            refine wpAnyH_take (i := 33) (oi := { dst := some 184, op := _, type := _, pos := _, after := _, guard := _ }) (v := .pointer (some ⟨gr, 87, none⟩)) rfl (by kernel_rfl) (by kernel_rfl) (by kernel_rfl) (fun _ _ _ h => h) (Or.inl ⟨by rfl, fun W hW => by clear hW; go_simp⟩) SB.out ?_
            simp only [Act.put, List.setIfInBounds_toArray, List.set_cons_zero, List.set_cons_succ]
            refine wpAnyH_take (i := 34) (oi := { dst := some 185, op := _, type := _, pos := _, after := _, guard := _ }) (v := .slice a' ns.length cap') rfl (by kernel_rfl) (by kernel_rfl) (by kernel_rfl) (fun _ _ _ h => h) (Or.inl ⟨by rfl, fun W hW => by have hd := (HRG2.out.below hW).2.2.2.2; clear hW; go_simp⟩) SB.out ?_
            simp only [Act.put, List.setIfInBounds_toArray, List.set_cons_zero, List.set_cons_succ]
            refine wpAnyH_take (i := 35) (oi := { dst := some 186, op := _, type := _, pos := _, after := _, guard := _ }) (v := .bool nb) rfl (by kernel_rfl) (by kernel_rfl) (by kernel_rfl) (fun _ _ _ h => h) (Or.inl ⟨by rfl, fun W hW => exec_nil75 rfl rfl HNB1.out W⟩) SB.out ?_
            simp only [Act.put, List.setIfInBounds_toArray, List.set_cons_zero, List.set_cons_succ]
            refine wpAnyH_take (i := 36) (oi := { dst := some 187, op := _, type := _, pos := _, after := _, guard := _ }) (v := .slice ta ns.length tc) rfl (by kernel_rfl) (by kernel_rfl) (by kernel_rfl) (fun _ _ _ h => h) (Or.inl ⟨by rfl, fun W hW => by clear hW; go_simp⟩) SB.out ?_
            simp only [Act.put, List.setIfInBounds_toArray, List.set_cons_zero, List.set_cons_succ]
            refine wpAnyH_take (i := 37) (oi := { dst := some 188, op := _, type := _, pos := _, after := _, guard := _ }) (v := .bool nb) rfl (by kernel_rfl) (by kernel_rfl) (by kernel_rfl) (fun _ _ _ h => h) (Or.inl ⟨by rfl, fun W hW => exec_nil75 rfl rfl HNB2.out W⟩) SB.out ?_
            simp only [Act.put, List.setIfInBounds_toArray, List.set_cons_zero, List.set_cons_succ]
            refine wpAnyH_take (i := 38) (oi := { dst := some 189, op := _, type := _, pos := _, after := _, guard := _ }) (v := .bool true) rfl (by kernel_rfl) (by kernel_rfl) (by kernel_rfl) (fun _ _ _ h => h) (Or.inl ⟨by rfl, fun W hW => by clear hW; go_simp⟩) SB.out ?_
            simp only [Act.put, List.setIfInBounds_toArray, List.set_cons_zero, List.set_cons_succ]
            refine wpAnyH_take (i := 39) (oi := { dst := some 190, op := _, type := _, pos := _, after := _, guard := _ }) (v := .bool true) rfl (by kernel_rfl) (by kernel_rfl) (by kernel_rfl) (fun _ _ _ h => h) (Or.inl ⟨by rfl, fun W hW => by clear hW; go_simp⟩) SB.out ?_
            simp only [Act.put, List.setIfInBounds_toArray, List.set_cons_zero, List.set_cons_succ]
            refine wpAnyH_take (i := 40) (oi := { dst := some 16, op := _, type := _, pos := _, after := _, guard := _ }) (v := .bool true) rfl (by kernel_rfl) (by kernel_rfl) (by kernel_rfl) (fun _ _ _ h => h) (Or.inl ⟨by rfl, fun W hW => by clear hW; go_simp⟩) SB.out ?_
            simp only [Act.put, List.setIfInBounds_toArray, List.set_cons_zero, List.set_cons_succ]
            refine wpAnyH_done (by kernel_rfl) ?_ _
            refine NoPanic.normal ?_
            go_wp2_with fail
            go_ret
            exact ⟨rfl, SD.out.bel.trans (SB.out.mono SD.out.bel.size)⟩
          · have hil' : ¬ (i : Int) < (ns.length : Int) := by omega
            clear hil hil2
            go_upto_region 29 with (first
              | (refine gate (some 148) rfl ?_; refine wpList_val rfl (.agg tv.toArray) (exec_load 87 (.tmp 23) rfl g23 0 rfl tv _ hA.out under87 rfl (by rw [sz87, HTL.out])) ?_; simp only [Act.put, List.setIfInBounds_toArray, List.set_cons_zero, List.set_cons_succ])
              | (refine gate (some 149) rfl ?_; refine wpList_val rfl (.agg tv.toArray) (exec_load 87 (.tmp 25) rfl g25 0 rfl tv _ hB.out under87 rfl (by rw [sz87, HTL.out])) ?_; simp only [Act.put, List.setIfInBounds_toArray, List.set_cons_zero, List.set_cons_succ])
              | (refine gate (some 150) rfl ?_; refine wpList_val rfl (.bool false) (exec_neqTH rfl hp1 hp3 HTV.out rfl rfl _) ?_; simp only [Act.put, List.setIfInBounds_toArray, List.set_cons_zero, List.set_cons_succ]))
            clear hA hB
            have SA : Hid (Below w10.heap.size w10 wr.drew) := HV.out.1.drew
            obtain ⟨nb, hnb1, hnb2⟩ : ∃ nb, a'.isNone = nb ∧ ta.isNone = nb := ⟨ta.isNone, isNone_same HNN.out, rfl⟩
            have HNB1 : Hid _ := hnb1
            have HNB2 : Hid _ := hnb2
            clear hnb1 hnb2
            refine wp_region_noPanic ?_
            refine wp_region_held_drew (S := Below w10.heap.size w10) (by kernel_rfl) SA.out (fun _ => ?_)
            refine wpAnyH_take (i := 0) (oi := { dst := some 151, op := _, type := _, pos := _, after := _, guard := _ }) (v := .pointer (some ⟨gr, 0, none⟩)) rfl (by kernel_rfl) (by kernel_rfl) (by kernel_rfl) (fun _ _ _ h => h) (Or.inl ⟨by rfl, fun W hW => by clear hW; go_simp⟩) SA.out ?_
            simp only [Act.put, List.setIfInBounds_toArray, List.set_cons_zero, List.set_cons_succ]
            refine wpAnyH_take (i := 1) (oi := { dst := some 152, op := _, type := _, pos := _, after := _, guard := _ }) (v := .pointer (some ⟨gr, 0, none⟩)) rfl (by kernel_rfl) (by kernel_rfl) (by kernel_rfl) (fun _ _ _ h => h) (Or.inl ⟨by rfl, fun W hW => by clear hW; go_simp⟩) SA.out ?_
            simp only [Act.put, List.setIfInBounds_toArray, List.set_cons_zero, List.set_cons_succ]
            refine wpAnyH_take (i := 2) (oi := { dst := some 153, op := _, type := _, pos := _, after := _, guard := _ }) (v := .pointer (some ⟨gr, 0, none⟩)) rfl (by kernel_rfl) (by kernel_rfl) (by kernel_rfl) (fun _ _ _ h => h) (Or.inl ⟨by rfl, fun W hW => by clear hW; go_simp⟩) SA.out ?_
            simp only [Act.put, List.setIfInBounds_toArray, List.set_cons_zero, List.set_cons_succ]
            refine wpAnyH_take (i := 3) (oi := { dst := some 154, op := _, type := _, pos := _, after := _, guard := _ }) (v := .agg p0.cells.toArray) rfl (by kernel_rfl) (by kernel_rfl) (by kernel_rfl) (fun _ _ _ h => h) (yieldsIf_load_mid (by rfl) 67 (.tmp 153) rfl gr 0 rfl _ _ (fun W hW => (HRG2.out.below hW).2.1) Yba.underlying67 rfl (by rw [sz67, hp0.cells])) SA.out ?_
            simp only [Act.put, List.setIfInBounds_toArray, List.set_cons_zero, List.set_cons_succ]
            refine wpAnyH_take (i := 4) (oi := { dst := some 155, op := _, type := _, pos := _, after := _, guard := _ }) (v := .agg p0.cells.toArray) rfl (by kernel_rfl) (by kernel_rfl) (by kernel_rfl) (fun _ _ _ h => h) (yieldsIf_load_mid (by rfl) 67 (.tmp 17) rfl g0 0 rfl _ _ (fun W hW => (SD.out.below hW).a0.1) Yba.underlying67 rfl (by rw [sz67, hp0.cells])) SA.out ?_
            simp only [Act.put, List.setIfInBounds_toArray, List.set_cons_zero, List.set_cons_succ]
            refine wpAnyH_take (i := 5) (oi := { dst := some 156, op := _, type := _, pos := _, after := _, guard := _ }) (v := .bool true) rfl (by kernel_rfl) (by kernel_rfl) (by kernel_rfl) (fun _ _ _ h => h) (Or.inl ⟨by rfl, fun W hW => exec_eql67v (eqP_self p0) rfl rfl rfl hp0 hp0 W⟩) SA.out ?_
            simp only [Act.put, List.setIfInBounds_toArray, List.set_cons_zero, List.set_cons_succ]
            refine wpAnyH_take (i := 6) (oi := { dst := some 157, op := _, type := _, pos := _, after := _, guard := _ }) (v := .bool true) rfl (by kernel_rfl) (by kernel_rfl) (by kernel_rfl) (fun _ _ _ h => h) (Or.inl ⟨by rfl, fun W hW => by clear hW; go_simp⟩) SA.out ?_
            simp only [Act.put, List.setIfInBounds_toArray, List.set_cons_zero, List.set_cons_succ]
            refine wpAnyH_take (i := 7) (oi := { dst := some 158, op := _, type := _, pos := _, after := _, guard := _ }) (v := .pointer (some ⟨gr, 0, none⟩)) rfl (by kernel_rfl) (by kernel_rfl) (by kernel_rfl) (fun _ _ _ h => h) (Or.inl ⟨by rfl, fun W hW => by clear hW; go_simp⟩) SA.out ?_
            simp only [Act.put, List.setIfInBounds_toArray, List.set_cons_zero, List.set_cons_succ]
            refine wpAnyH_take (i := 8) (oi := { dst := some 159, op := _, type := _, pos := _, after := _, guard := _ }) (v := .pointer (some ⟨gr, 0, none⟩)) rfl (by kernel_rfl) (by kernel_rfl) (by kernel_rfl) (fun _ _ _ h => h) (Or.inl ⟨by rfl, fun W hW => by clear hW; go_simp⟩) SA.out ?_
            simp only [Act.put, List.setIfInBounds_toArray, List.set_cons_zero, List.set_cons_succ]
            refine wpAnyH_take (i := 9) (oi := { dst := some 160, op := _, type := _, pos := _, after := _, guard := _ }) (v := .pointer (some ⟨gr, 23, none⟩)) rfl (by kernel_rfl) (by kernel_rfl) (by kernel_rfl) (fun _ _ _ h => h) (Or.inl ⟨by rfl, fun W hW => by clear hW; go_simp⟩) SA.out ?_
            simp only [Act.put, List.setIfInBounds_toArray, List.set_cons_zero, List.set_cons_succ]
            refine wpAnyH_take (i := 10) (oi := { dst := some 161, op := _, type := _, pos := _, after := _, guard := _ }) (v := .agg p1.cells.toArray) rfl (by kernel_rfl) (by kernel_rfl) (by kernel_rfl) (fun _ _ _ h => h) (yieldsIf_load_mid (by rfl) 67 (.tmp 160) rfl gr 23 rfl _ _ (fun W hW => (HRG2.out.below hW).2.2.1) Yba.underlying67 rfl (by rw [sz67, hp1.cells])) SA.out ?_
            simp only [Act.put, List.setIfInBounds_toArray, List.set_cons_zero, List.set_cons_succ]
            refine wpAnyH_take (i := 11) (oi := { dst := some 162, op := _, type := _, pos := _, after := _, guard := _ }) (v := .agg p1.cells.toArray) rfl (by kernel_rfl) (by kernel_rfl) (by kernel_rfl) (fun _ _ _ h => h) (yieldsIf_load_mid (by rfl) 67 (.tmp 18) rfl g1 0 rfl _ _ (fun W hW => (SD.out.below hW).a1.1) Yba.underlying67 rfl (by rw [sz67, hp1.cells])) SA.out ?_
            simp only [Act.put, List.setIfInBounds_toArray, List.set_cons_zero, List.set_cons_succ]
            refine wpAnyH_take (i := 12) (oi := { dst := some 163, op := _, type := _, pos := _, after := _, guard := _ }) (v := .bool true) rfl (by kernel_rfl) (by kernel_rfl) (by kernel_rfl) (fun _ _ _ h => h) (Or.inl ⟨by rfl, fun W hW => exec_eql67v (eqP_self p1) rfl rfl rfl hp1 hp1 W⟩) SA.out ?_
            simp only [Act.put, List.setIfInBounds_toArray, List.set_cons_zero, List.set_cons_succ]
            refine wpAnyH_take (i := 13) (oi := { dst := some 164, op := _, type := _, pos := _, after := _, guard := _ }) (v := .bool true) rfl (by kernel_rfl) (by kernel_rfl) (by kernel_rfl) (fun _ _ _ h => h) (Or.inl ⟨by rfl, fun W hW => by clear hW; go_simp⟩) SA.out ?_
            simp only [Act.put, List.setIfInBounds_toArray, List.set_cons_zero, List.set_cons_succ]
            refine wpAnyH_take (i := 14) (oi := { dst := some 165, op := _, type := _, pos := _, after := _, guard := _ }) (v := .bool true) rfl (by kernel_rfl) (by kernel_rfl) (by kernel_rfl) (fun _ _ _ h => h) (Or.inl ⟨by rfl, fun W hW => by clear hW; go_simp⟩) SA.out ?_
            simp only [Act.put, List.setIfInBounds_toArray, List.set_cons_zero, List.set_cons_succ]
            refine wpAnyH_take (i := 15) (oi := { dst := some 166, op := _, type := _, pos := _, after := _, guard := _ }) (v := .pointer (some ⟨gr, 0, none⟩)) rfl (by kernel_rfl) (by kernel_rfl) (by kernel_rfl) (fun _ _ _ h => h) (Or.inl ⟨by rfl, fun W hW => by clear hW; go_simp⟩) SA.out ?_
            simp only [Act.put, List.setIfInBounds_toArray, List.set_cons_zero, List.set_cons_succ]
            refine wpAnyH_take (i := 16) (oi := { dst := some 167, op := _, type := _, pos := _, after := _, guard := _ }) (v := .pointer (some ⟨gr, 0, none⟩)) rfl (by kernel_rfl) (by kernel_rfl) (by kernel_rfl) (fun _ _ _ h => h) (Or.inl ⟨by rfl, fun W hW => by clear hW; go_simp⟩) SA.out ?_
            simp only [Act.put, List.setIfInBounds_toArray, List.set_cons_zero, List.set_cons_succ]
            refine wpAnyH_take (i := 17) (oi := { dst := some 168, op := _, type := _, pos := _, after := _, guard := _ }) (v := .pointer (some ⟨gr, 45, none⟩)) rfl (by kernel_rfl) (by kernel_rfl) (by kernel_rfl) (fun _ _ _ h => h) (Or.inl ⟨by rfl, fun W hW => by clear hW; go_simp⟩) SA.out ?_
            simp only [Act.put, List.setIfInBounds_toArray, List.set_cons_zero, List.set_cons_succ]
            refine wpAnyH_take (i := 18) (oi := { dst := some 169, op := _, type := _, pos := _, after := _, guard := _ }) (v := .agg p2.cells.toArray) rfl (by kernel_rfl) (by kernel_rfl) (by kernel_rfl) (fun _ _ _ h => h) (yieldsIf_load_mid (by rfl) 67 (.tmp 168) rfl gr 45 rfl _ _ (fun W hW => (HRG2.out.below hW).2.2.2.1) Yba.underlying67 rfl (by rw [sz67, hp2.cells])) SA.out ?_
            simp only [Act.put, List.setIfInBounds_toArray, List.set_cons_zero, List.set_cons_succ]
            refine wpAnyH_take (i := 19) (oi := { dst := some 170, op := _, type := _, pos := _, after := _, guard := _ }) (v := .agg p2.cells.toArray) rfl (by kernel_rfl) (by kernel_rfl) (by kernel_rfl) (fun _ _ _ h => h) (yieldsIf_load_mid (by rfl) 67 (.tmp 19) rfl g2 0 rfl _ _ (fun W hW => (SD.out.below hW).a2.1) Yba.underlying67 rfl (by rw [sz67, hp2.cells])) SA.out ?_
            simp only [Act.put, List.setIfInBounds_toArray, List.set_cons_zero, List.set_cons_succ]
            refine wpAnyH_take (i := 20) (oi := { dst := some 171, op := _, type := _, pos := _, after := _, guard := _ }) (v := .bool true) rfl (by kernel_rfl) (by kernel_rfl) (by kernel_rfl) (fun _ _ _ h => h) (Or.inl ⟨by rfl, fun W hW => exec_eql67v (eqP_self p2) rfl rfl rfl hp2 hp2 W⟩) SA.out ?_
            simp only [Act.put, List.setIfInBounds_toArray, List.set_cons_zero, List.set_cons_succ]
            refine wpAnyH_take (i := 21) (oi := { dst := some 172, op := _, type := _, pos := _, after := _, guard := _ }) (v := .bool true) rfl (by kernel_rfl) (by kernel_rfl) (by kernel_rfl) (fun _ _ _ h => h) (Or.inl ⟨by rfl, fun W hW => by clear hW; go_simp⟩) SA.out ?_
            simp only [Act.put, List.setIfInBounds_toArray, List.set_cons_zero, List.set_cons_succ]
            refine wpAnyH_take (i := 22) (oi := { dst := some 173, op := _, type := _, pos := _, after := _, guard := _ }) (v := .bool true) rfl (by kernel_rfl) (by kernel_rfl) (by kernel_rfl) (fun _ _ _ h => h) (Or.inl ⟨by rfl, fun W hW => by clear hW; go_simp⟩) SA.out ?_
            simp only [Act.put, List.setIfInBounds_toArray, List.set_cons_zero, List.set_cons_succ]
            refine wpAnyH_take (i := 23) (oi := { dst := some 174, op := _, type := _, pos := _, after := _, guard := _ }) (v := .pointer (some ⟨gr, 0, none⟩)) rfl (by kernel_rfl) (by kernel_rfl) (by kernel_rfl) (fun _ _ _ h => h) (Or.inl ⟨by rfl, fun W hW => by clear hW; go_simp⟩) SA.out ?_
            simp only [Act.put, List.setIfInBounds_toArray, List.set_cons_zero, List.set_cons_succ]
            refine wpAnyH_take (i := 24) (oi := { dst := some 175, op := _, type := _, pos := _, after := _, guard := _ }) (v := .pointer (some ⟨gr, 0, none⟩)) rfl (by kernel_rfl) (by kernel_rfl) (by kernel_rfl) (fun _ _ _ h => h) (Or.inl ⟨by rfl, fun W hW => by clear hW; go_simp⟩) SA.out ?_
            simp only [Act.put, List.setIfInBounds_toArray, List.set_cons_zero, List.set_cons_succ]
            refine wpAnyH_take (i := 25) (oi := { dst := some 176, op := _, type := _, pos := _, after := _, guard := _ }) (v := .pointer (some ⟨gr, 87, none⟩)) rfl (by kernel_rfl) (by kernel_rfl) (by kernel_rfl) (fun _ _ _ h => h) (Or.inl ⟨by rfl, fun W hW => by clear hW; go_simp⟩) SA.out ?_
            simp only [Act.put, List.setIfInBounds_toArray, List.set_cons_zero, List.set_cons_succ]
            refine wpAnyH_take (i := 26) (oi := { dst := some 177, op := _, type := _, pos := _, after := _, guard := _ }) (v := .slice a' ns.length cap') rfl (by kernel_rfl) (by kernel_rfl) (by kernel_rfl) (fun _ _ _ h => h) (Or.inl ⟨by rfl, fun W hW => by have hd := (HRG2.out.below hW).2.2.2.2; clear hW; go_simp⟩) SA.out ?_
            simp only [Act.put, List.setIfInBounds_toArray, List.set_cons_zero, List.set_cons_succ]
            refine wpAnyH_take (i := 27) (oi := { dst := some 178, op := _, type := _, pos := _, after := _, guard := _ }) (v := .slice ta ns.length tc) rfl (by kernel_rfl) (by kernel_rfl) (by kernel_rfl) (fun _ _ _ h => h) (Or.inl ⟨by rfl, fun W hW => by clear hW; go_simp⟩) SA.out ?_
            simp only [Act.put, List.setIfInBounds_toArray, List.set_cons_zero, List.set_cons_succ]
            refine wpAnyH_ready (rs := [28]) (by kernel_rfl) (by simp) ?_
            refine AllReadyH.cons rfl (fun K hK => ?_) AllReadyH.nil
            rw [if_pos (by rfl)]
            go_simp
            refine (equal18 a' ta ns cap' tc hn wr.drew (HN9.out.below SA.out) (HNS.out.below (SD.out.bel.trans (SA.out.mono SD.out.bel.size)))).mono ?_
            rintro e w20 ⟨rfl, hB20⟩
            have SB : Hid (Below w10.heap.size w10 w20) := SA.out.trans (hB20.mono SA.out.size)
            clear hB20
            refine hK.out _ _ SB.out (fun _ => ?_)
            clear hK K
            refine wpAnyH_take (i := 29) (oi := { dst := some 180, op := _, type := _, pos := _, after := _, guard := _ }) (v := .bool true) rfl (by kernel_rfl) (by kernel_rfl) (by kernel_rfl) (fun _ _ _ h => h) (Or.inl ⟨by rfl, fun W hW => by clear hW; go_simp⟩) SB.out ?_
            simp only [Act.put, List.setIfInBounds_toArray, List.set_cons_zero, List.set_cons_succ]
            refine wpAnyH_take (i := 30) (oi := { dst := some 181, op := _, type := _, pos := _, after := _, guard := _ }) (v := .bool true) rfl (by kernel_rfl) (by kernel_rfl) (by kernel_rfl) (fun _ _ _ h => h) (Or.inl ⟨by rfl, fun W hW => by clear hW; go_simp⟩) SB.out ?_
            simp only [Act.put, List.setIfInBounds_toArray, List.set_cons_zero, List.set_cons_succ]
            refine wpAnyH_take (i := 31) (oi := { dst := some 182, op := _, type := _, pos := _, after := _, guard := _ }) (v := .pointer (some ⟨gr, 0, none⟩)) rfl (by kernel_rfl) (by kernel_rfl) (by kernel_rfl) (fun _ _ _ h => h) (Or.inl ⟨by rfl, fun W hW => by clear hW; go_simp⟩) SB.out ?_
            simp only [Act.put, List.setIfInBounds_toArray, List.set_cons_zero, List.set_cons_succ]
            refine wpAnyH_take (i := 32) (oi := { dst := some 183, op := _, type := _, pos := _, after := _, guard := _ }) (v := .pointer (some ⟨gr, 0, none⟩)) rfl (by kernel_rfl) (by kernel_rfl) (by kernel_rfl) (fun _ _ _ h => h) (Or.inl ⟨by rfl, fun W hW => by clear hW; go_simp⟩) SB.out ?_
            simp only [Act.put, List.setIfInBounds_toArray, List.set_cons_zero, List.set_cons_succ]
            refine wpAnyH_take (i := 33) (oi := { dst := some 184, op := _, type := _, pos := _, after := _, guard := _ }) (v := .pointer (some ⟨gr, 87, none⟩)) rfl (by kernel_rfl) (by kernel_rfl) (by kernel_rfl) (fun _ _ _ h => h) (Or.inl ⟨by rfl, fun W hW => by clear hW; go_simp⟩) SB.out ?_
            simp only [Act.put, List.setIfInBounds_toArray, List.set_cons_zero, List.set_cons_succ]
            refine wpAnyH_take (i := 34) (oi := { dst := some 185, op := _, type := _, pos := _, after := _, guard := _ }) (v := .slice a' ns.length cap') rfl (by kernel_rfl) (by kernel_rfl) (by kernel_rfl) (fun _ _ _ h => h) (Or.inl ⟨by rfl, fun W hW => by have hd := (HRG2.out.below hW).2.2.2.2; clear hW; go_simp⟩) SB.out ?_
            simp only [Act.put, List.setIfInBounds_toArray, List.set_cons_zero, List.set_cons_succ]
            refine wpAnyH_take (i := 35) (oi := { dst := some 186, op := _, type := _, pos := _, after := _, guard := _ }) (v := .bool nb) rfl (by kernel_rfl) (by kernel_rfl) (by kernel_rfl) (fun _ _ _ h => h) (Or.inl ⟨by rfl, fun W hW => exec_nil75 rfl rfl HNB1.out W⟩) SB.out ?_
            simp only [Act.put, List.setIfInBounds_toArray, List.set_cons_zero, List.set_cons_succ]
            refine wpAnyH_take (i := 36) (oi := { dst := some 187, op := _, type := _, pos := _, after := _, guard := _ }) (v := .slice ta ns.length tc) rfl (by kernel_rfl) (by kernel_rfl) (by kernel_rfl) (fun _ _ _ h => h) (Or.inl ⟨by rfl, fun W hW => by clear hW; go_simp⟩) SB.out ?_
            simp only [Act.put, List.setIfInBounds_toArray, List.set_cons_zero, List.set_cons_succ]
            refine wpAnyH_take (i := 37) (oi := { dst := some 188, op := _, type := _, pos := _, after := _, guard := _ }) (v := .bool nb) rfl (by kernel_rfl) (by kernel_rfl) (by kernel_rfl) (fun _ _ _ h => h) (Or.inl ⟨by rfl, fun W hW => exec_nil75 rfl rfl HNB2.out W⟩) SB.out ?_
            simp only [Act.put, List.setIfInBounds_toArray, List.set_cons_zero, List.set_cons_succ]
            refine wpAnyH_take (i := 38) (oi := { dst := some 189, op := _, type := _, pos := _, after := _, guard := _ }) (v := .bool true) rfl (by kernel_rfl) (by kernel_rfl) (by kernel_rfl) (fun _ _ _ h => h) (Or.inl ⟨by rfl, fun W hW => by clear hW; go_simp⟩) SB.out ?_
            simp only [Act.put, List.setIfInBounds_toArray, List.set_cons_zero, List.set_cons_succ]
            refine wpAnyH_take (i := 39) (oi := { dst := some 190, op := _, type := _, pos := _, after := _, guard := _ }) (v := .bool true) rfl (by kernel_rfl) (by kernel_rfl) (by kernel_rfl) (fun _ _ _ h => h) (Or.inl ⟨by rfl, fun W hW => by clear hW; go_simp⟩) SB.out ?_
            simp only [Act.put, List.setIfInBounds_toArray, List.set_cons_zero, List.set_cons_succ]
            refine wpAnyH_take (i := 40) (oi := { dst := some 16, op := _, type := _, pos := _, after := _, guard := _ }) (v := .bool true) rfl (by kernel_rfl) (by kernel_rfl) (by kernel_rfl) (fun _ _ _ h => h) (Or.inl ⟨by rfl, fun W hW => by clear hW; go_simp⟩) SB.out ?_
            simp only [Act.put, List.setIfInBounds_toArray, List.set_cons_zero, List.set_cons_succ]
            refine wpAnyH_done (by kernel_rfl) ?_ _
            refine NoPanic.normal ?_
            go_wp2_with fail
            go_ret
            exact ⟨rfl, SD.out.bel.trans (SB.out.mono SD.out.bel.size)⟩
end Go.Proofs.Ybulkdfgw
