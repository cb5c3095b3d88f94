import Derived.Test.YbulkdfgwHand2
namespace Go.Proofs.Ybulkdfgw
open Go.ChangeShapes Go.WideShapes Go.ChangeAt Go.RowKit
set_option linter.unusedVariables false
set_option linter.unusedSimpArgs false

/-! ### A handover is the same as itself -/
theorem size27 (w : World) : (sizeOf 27).run Yba.prog w = .ok 1 w := by kernel_rfl
theorem size84 (w : World) : (sizeOf 84).run Yba.prog w = .ok 45 w := by kernel_rfl
theorem size85 (w : World) : (sizeOf 85).run Yba.prog w = .ok 16 w := by kernel_rfl
theorem size67 (w : World) : (sizeOf 67).run Yba.prog w = .ok 21 w := by kernel_rfl

theorem eqIn85 (d : Nat) (t : List Int) (ht : t.length = 16) (w : World) : (Op.equalIn (d + 2) 85 (.agg (t.map (Value.int .u64)).toArray) (.agg (t.map (Value.int .u64)).toArray)).run Yba.prog w = .ok true w := by
  rw [Op.equalIn]
  simp only [Sem.run_bind, run_underlying Yba.underlying85, Result.andThen_ok, size27, Std.Legacy.Range.forIn_eq_forIn_range', Std.Legacy.Range.size, Nat.sub_zero, Nat.add_sub_cancel, Nat.div_one]
  have hl : ∀ i ∈ List.range' 0 16 1, i < 16 := fun i hi => by simpa using (List.mem_range'_1.1 hi).2
  generalize List.range' 0 16 1 = l at hl ⊢
  induction l with
  | nil => simp
  | cons i l ih =>
    have hi : i < 16 := hl i (by simp)
    have px : (part 27 (t.map (Value.int .u64)).toArray (i * 1)).run Yba.prog w = .ok (.int .u64 (t[i]'(by omega))) w := by
      simp [part, isAgg, run_underlying Yba.underlying27, List.getElem?_eq_getElem (show i < t.length by omega)]
    have pe : (Op.equalIn (d + 1) 27 (.int .u64 (t[i]'(by omega))) (.int .u64 (t[i]'(by omega)))).run Yba.prog w = .ok true w := by
      rw [run_equalIn_int w d 27 .u64 .u64 _ _ Yba.underlying27]; simp
    simp only [List.forIn_cons, Sem.run_bind, px, pe, Result.andThen_ok]
    simp only [Bool.not_true, Bool.false_eq_true, if_false, Sem.run_pure, Result.andThen_ok]
    exact ih fun j hj => hl j (by simp [hj])

theorem fields84 : (Yba.prog.fieldsOf 84).toList.map (fun f => (f.name, f.type, f.offset)) = [("pred", 67, 0), ("own", 67, 21), ("grown", 4, 42), ("ahead", 4, 43), ("returned", 4, 44)] := by kernel_rfl
theorem under84 : Yba.prog.underlying 84 = some (.struct (Yba.prog.fieldsOf 84)) := by kernel_rfl
theorem held84 : Yba.prog.stoodInHeld 84 = false := by kernel_rfl
theorem fields87 : (Yba.prog.fieldsOf 87).toList.map (fun f => (f.name, f.type, f.offset)) = [("first", 4, 0), ("again", 4, 1), ("back", 84, 2), ("taken", 85, 47)] := by kernel_rfl
theorem under87 : Yba.prog.underlying 87 = some (.struct (Yba.prog.fieldsOf 87)) := by kernel_rfl
theorem held87 : Yba.prog.stoodInHeld 87 = false := by kernel_rfl
theorem guard87 : Yba.prog.eqGuardType Yba.prog.depth 87 = false := by kernel_rfl

/-- A part of a row. -/
theorem part_agg {T : TypeId} {n : Nat} {fs : Array Field} (hT : Yba.prog.underlying T = some (.struct fs)) (hs : ∀ w, (sizeOf T).run Yba.prog w = .ok n w) (pre mid post : List Value) (hm : mid.length = n) (w : World) : (part T (pre ++ (mid ++ post)).toArray pre.length).run Yba.prog w = .ok (.agg mid.toArray) w := by
  simp [part, isAgg, run_underlying hT, hs]
  rw [← hm, List.take_left]
theorem part_arr {T e : TypeId} {k n : Nat} (hT : Yba.prog.underlying T = some (.array k e)) (hs : ∀ w, (sizeOf T).run Yba.prog w = .ok n w) (pre mid post : List Value) (hm : mid.length = n) (w : World) : (part T (pre ++ (mid ++ post)).toArray pre.length).run Yba.prog w = .ok (.agg mid.toArray) w := by
  simp [part, isAgg, run_underlying hT, hs]
  rw [← hm, List.take_left]
theorem part_bool (pre post : List Value) (b : Bool) (w : World) : (part 4 (pre ++ (.bool b :: post)).toArray pre.length).run Yba.prog w = .ok (.bool b) w := by
  simp [part, isAgg, run_underlying Yba.underlying4]
theorem eqP_self (p : Pr) : eqP p p = true := by simp [eqP]

theorem eqIn84 (d : Nat) (p q : Pr) (hp : p.Ok) (hq : q.Ok) (a b c : Bool) (w : World) : (Op.equalIn (d + 4) 84 (.agg (tbCells p q a b c).toArray) (.agg (tbCells p q a b c).toArray)).run Yba.prog w = .ok true w := by
  rw [run_equalIn_struct w (d + 3) 84 _ _ under84 held84]
  have hf := fields84
  generalize (Yba.prog.fieldsOf 84).toList = fs at hf
  rcases fs with _ | ⟨f0, _ | ⟨f1, _ | ⟨f2, _ | ⟨f3, _ | ⟨f4, _ | ⟨f5, fs⟩⟩⟩⟩⟩⟩ <;> simp at hf
  obtain ⟨⟨n0, t0, o0⟩, ⟨n1, t1, o1⟩, ⟨n2, t2, o2⟩, ⟨n3, t3, o3⟩, ⟨n4, t4, o4⟩⟩ := hf
  have p0 : (part 67 (tbCells p q a b c).toArray 0).run Yba.prog w = .ok (.agg p.cells.toArray) w := part_agg under67 size67 [] p.cells _ hp.cells w
  have p1 : (part 67 (tbCells p q a b c).toArray 21).run Yba.prog w = .ok (.agg q.cells.toArray) w := by
    have := part_agg under67 size67 p.cells q.cells [.bool a, .bool b, .bool c] hq.cells w
    rw [hp.cells] at this; exact this
  have p2 : (part 4 (tbCells p q a b c).toArray 42).run Yba.prog w = .ok (.bool a) w := by
    have := part_bool (p.cells ++ q.cells) [.bool b, .bool c] a w
    rw [List.length_append, hp.cells, hq.cells, List.append_assoc] at this; exact this
  have p3 : (part 4 (tbCells p q a b c).toArray 43).run Yba.prog w = .ok (.bool b) w := by
    have := part_bool (p.cells ++ (q.cells ++ [.bool a])) [.bool c] b w
    rw [show (p.cells ++ (q.cells ++ [Value.bool a])).length = 43 by simp [hp.cells, hq.cells]] at this
    have e : p.cells ++ (q.cells ++ [Value.bool a]) ++ (Value.bool b :: [Value.bool c]) = tbCells p q a b c := by simp [tbCells]
    rw [e] at this; exact this
  have p4 : (part 4 (tbCells p q a b c).toArray 44).run Yba.prog w = .ok (.bool c) w := by
    have := part_bool (p.cells ++ (q.cells ++ [.bool a, .bool b])) [] c w
    rw [show (p.cells ++ (q.cells ++ [Value.bool a, Value.bool b])).length = 44 by simp [hp.cells, hq.cells]] at this
    have e : p.cells ++ (q.cells ++ [Value.bool a, Value.bool b]) ++ (Value.bool c :: []) = tbCells p q a b c := by simp [tbCells]
    rw [e] at this; exact this
  simp only [Op.eqFields, n0, n1, n2, n3, n4, t0, t1, t2, t3, t4, o0, o1, o2, o3, o4]
  simp [p0, p1, p2, p3, p4, run_eqIn67 d p p hp hp, run_eqIn67 d q q hq hq, eqP_self, run_equalIn_bool' w (d + 2) 4 _ _ Yba.underlying4]

theorem eqF_step {w : World} {d : Nat} {xs ys : Array Value} {f : Field} {fs : List Field} {T : TypeId} {off : Nat} (hn : f.name ≠ "_") (ht : f.type = T) (ho : f.offset = off) {a b : Value} (ha : (part T xs off).run Yba.prog w = .ok a w) (hb : (part T ys off).run Yba.prog w = .ok b w) (he : (Op.equalIn d T a b).run Yba.prog w = .ok true w) :
    (Op.eqFields d xs ys (f :: fs)).run Yba.prog w = (Op.eqFields d xs ys fs).run Yba.prog w := by
  subst ht ho
  rw [Op.eqFields, if_pos hn]
  simp only [Sem.run_bind, ha, hb, he, Result.andThen_ok, Bool.not_true, Bool.false_eq_true, if_false]

theorem eqIn87 (d : Nat) (f a : Bool) (p q : Pr) (hp : p.Ok) (hq : q.Ok) (x y u : Bool) (t : List Int) (ht : t.length = 16) (w : World) :
    (Op.equalIn (d + 5) 87 (.agg (rowTH f a (tbCells p q x y u) (t.map (Value.int .u64))).toArray) (.agg (rowTH f a (tbCells p q x y u) (t.map (Value.int .u64))).toArray)).run Yba.prog w = .ok true w := by
  rw [run_equalIn_struct w (d + 4) 87 _ _ under87 held87]
  have hf := fields87
  generalize (Yba.prog.fieldsOf 87).toList = fs at hf
  rcases fs with _ | ⟨f0, _ | ⟨f1, _ | ⟨f2, _ | ⟨f3, _ | ⟨f4, fs⟩⟩⟩⟩⟩ <;> simp at hf
  obtain ⟨⟨n0, t0, o0⟩, ⟨n1, t1, o1⟩, ⟨n2, t2, o2⟩, ⟨n3, t3, o3⟩⟩ := hf
  obtain ⟨B, hB⟩ : ∃ B, B = tbCells p q x y u := ⟨_, rfl⟩
  obtain ⟨T, hT⟩ : ∃ T, T = t.map (Value.int .u64) := ⟨_, rfl⟩
  have hBl : B.length = 45 := by rw [hB]; exact len_tb hp hq _ _ _
  have hTl : T.length = 16 := by rw [hT]; simpa using ht
  have e84 : (Op.equalIn (d + 4) 84 (.agg B.toArray) (.agg B.toArray)).run Yba.prog w = .ok true w := by rw [hB]; exact eqIn84 d p q hp hq x y u w
  have e85 : (Op.equalIn (d + 4) 85 (.agg T.toArray) (.agg T.toArray)).run Yba.prog w = .ok true w := by rw [hT]; exact eqIn85 (d + 2) t ht w
  rw [← hB, ← hT]
  have p0 : (part 4 (rowTH f a B T).toArray 0).run Yba.prog w = .ok (.bool f) w := part_bool [] _ f w
  have p1 : (part 4 (rowTH f a B T).toArray 1).run Yba.prog w = .ok (.bool a) w := part_bool [.bool f] _ a w
  have p2 : (part 84 (rowTH f a B T).toArray 2).run Yba.prog w = .ok (.agg B.toArray) w := part_agg under84 size84 [.bool f, .bool a] B T hBl w
  have p3 : (part 85 (rowTH f a B T).toArray 47).run Yba.prog w = .ok (.agg T.toArray) w := by
    have := part_arr Yba.underlying85 size85 (.bool f :: .bool a :: B) T [] hTl w
    rw [show (Value.bool f :: Value.bool a :: B).length = 47 by simp [hBl]] at this
    have e : (Value.bool f :: Value.bool a :: B) ++ (T ++ []) = rowTH f a B T := by simp [rowTH]
    rw [e] at this; exact this
  have b1 : (Op.equalIn (d + 4) 4 (.bool f) (.bool f)).run Yba.prog w = .ok true w := by rw [run_equalIn_bool' w (d + 3) 4 f f Yba.underlying4, beq_self_eq_true]
  have b2 : (Op.equalIn (d + 4) 4 (.bool a) (.bool a)).run Yba.prog w = .ok true w := by rw [run_equalIn_bool' w (d + 3) 4 a a Yba.underlying4, beq_self_eq_true]
  rw [eqF_step (by rw [n0]; decide) t0 o0 p0 p0 b1, eqF_step (by rw [n1]; decide) t1 o1 p1 p1 b2, eqF_step (by rw [n2]; decide) t2 o2 p2 p2 e84, eqF_step (by rw [n3]; decide) t3 o3 p3 p3 e85]
  rfl

theorem exec_neq87 {o : Oper} {x y : Operand} (ho : o.op = .binOp .neq 87 x y 87) {act : Act} {f a : Bool} {p q : Pr} (hp : p.Ok) (hq : q.Ok) {b c u : Bool} {t : List Int} (ht : t.length = 16) (hx : act.eval x = .agg (rowTH f a (tbCells p q b c u) (t.map (Value.int .u64))).toArray) (hy : act.eval y = .agg (rowTH f a (tbCells p q b c u) (t.map (Value.int .u64))).toArray) (w : World) :
    (execOp act.eval o).run Yba.prog w = .ok (.value (.bool false)) w := by
  have hr : (binOp .neq 87 (.agg (rowTH f a (tbCells p q b c u) (t.map (Value.int .u64))).toArray) (.agg (rowTH f a (tbCells p q b c u) (t.map (Value.int .u64))).toArray)).run Yba.prog w = .ok (.bool false) w := by
    rw [run_neq_struct, eqIn87 9995 f a p q hp hq b c u t ht]; rfl
  unfold execOp
  simp only [ho, hx, hy, Sem.run_bind, run_eqGuard_agg w .neq 87 x y _ _ guard87, hr, Result.andThen_ok, Sem.run_pure]

/-! ### The range -/
def rngCells (me own rs : Pr) (tv : Value) : List Value := me.cells ++ ([.int .i64 1, .pointer none] ++ (own.cells ++ ([.bool false] ++ (rs.cells ++ (zeroP.cells ++ [tv, .pointer none])))))
theorem built82 (me own rs : Pr) (hm : me.Ok) (ho : own.Ok) (hr : rs.Ok) (ta : Option Addr) (n c : Nat) : Yba.prog.built 82 [(0, .agg me.cells.toArray), (1, .int .i64 1), (3, .agg own.cells.toArray), (5, .agg rs.cells.toArray), (7, .slice ta n c)] = some (rngCells me own rs (.slice ta n c)).toArray := by
  obtain ⟨s, x⟩ := me
  obtain ⟨s', y⟩ := own
  obtain ⟨s'', v⟩ := rs
  have hx : x.length = 20 := hm.len
  have hy : y.length = 20 := ho.len
  have hv : v.length = 20 := hr.len
  match x, hx, y, hy, v, hv with
  | [a0, a1, a2, a3, a4, a5, a6, a7, a8, a9, a10, a11, a12, a13, a14, a15, a16, a17, a18, a19], _, [b0, b1, b2, b3, b4, b5, b6, b7, b8, b9, b10, b11, b12, b13, b14, b15, b16, b17, b18, b19], _, [c0, c1, c2, c3, c4, c5, c6, c7, c8, c9, c10, c11, c12, c13, c14, c15, c16, c17, c18, c19], _ => show _ = _; kernel_rfl
theorem exec_build82 {o : Oper} {x0 x3 x5 x7 : Operand} (ho : o.op = .build 82 #[(0, x0), (1, .const (.int .i64 1)), (3, x3), (5, x5), (7, x7)]) {act : Act} {me own rs : Pr} {ta : Option Addr} {n c : Nat} (h0 : act.eval x0 = .agg me.cells.toArray) (h3 : act.eval x3 = .agg own.cells.toArray) (h5 : act.eval x5 = .agg rs.cells.toArray) (h7 : act.eval x7 = .slice ta n c) (hm : me.Ok) (hw : own.Ok) (hr : rs.Ok) (w : World) :
    (execOp act.eval o).run Yba.prog w = .ok (.value (.agg (rngCells me own rs (.slice ta n c)).toArray)) w := by
  unfold execOp
  simp only [ho, Sem.run_bind]
  rw [show (Array.map (fun (z : Nat × Operand) => (z.fst, act.eval z.snd)) #[(0, x0), (1, .const (.int .i64 1)), (3, x3), (5, x5), (7, x7)]) = #[(0, .agg me.cells.toArray), (1, .int .i64 1), (3, .agg own.cells.toArray), (5, .agg rs.cells.toArray), (7, .slice ta n c)] from by simp only [List.map_toArray, List.map_cons, List.map_nil, h0, h3, h5, h7]; rfl, run_build w 82 #[(0, .agg me.cells.toArray), (1, .int .i64 1), (3, .agg own.cells.toArray), (5, .agg rs.cells.toArray), (7, .slice ta n c)] (rngCells me own rs (.slice ta n c)).toArray (built82 me own rs hm hw hr ta n c)]
  rfl
theorem range_mid {w : World} {g : Nat} {pre mid post : List Value} {t : TypeId} {fr : Nat × Nat} (h : w.heap[g]? = some (.cells (pre ++ (mid ++ post)).toArray t fr)) : w.rangeAt g pre.length mid := fun j u hu => by
  have := range_of_blk h (pre.length + j) u (by
    rw [List.getElem?_append_right (by omega), Nat.add_sub_cancel_left, List.getElem?_append_left (List.getElem?_eq_some_iff.1 hu).1]; exact hu)
  simpa using this
theorem rng_made {w : World} {gr : Nat} {me own rs : Pr} {tv : Value} (hm : me.Ok) (ho : own.Ok) (hr : rs.Ok) (h : w.heap[gr]? = some (.cells (rngCells me own rs tv).toArray 82 (0, 0))) : RngAt gr me own rs tv w := by
  have l1 := hm.cells
  have l2 := ho.cells
  have l3 := hr.cells
  have l4 := zeroP_ok.cells
  refine ⟨(Array.getElem?_eq_some_iff.1 h).1, range_mid (pre := []) h, ?_, ?_, ?_⟩
  · have e : rngCells me own rs tv = (me.cells ++ [.int .i64 1, .pointer none]) ++ (own.cells ++ ([.bool false] ++ (rs.cells ++ (zeroP.cells ++ [tv, .pointer none])))) := by simp [rngCells]
    rw [e] at h
    have := range_mid h
    rw [show (me.cells ++ [Value.int .i64 1, Value.pointer none]).length = 23 by simp [l1]] at this; exact this
  · have e : rngCells me own rs tv = (me.cells ++ ([.int .i64 1, .pointer none] ++ (own.cells ++ [.bool false]))) ++ (rs.cells ++ (zeroP.cells ++ [tv, .pointer none])) := by simp [rngCells]
    rw [e] at h
    have := range_mid h
    rw [show (me.cells ++ ([Value.int .i64 1, Value.pointer none] ++ (own.cells ++ [Value.bool false]))).length = 45 by simp [l1, l2]] at this; exact this
  · have e : rngCells me own rs tv = (me.cells ++ ([.int .i64 1, .pointer none] ++ (own.cells ++ ([.bool false] ++ (rs.cells ++ zeroP.cells))))) ++ ([tv] ++ [.pointer none]) := by simp [rngCells]
    rw [e] at h
    have := range_mid h 0 tv rfl
    rw [show (me.cells ++ ([Value.int .i64 1, Value.pointer none] ++ (own.cells ++ ([Value.bool false] ++ (rs.cells ++ zeroP.cells))))).length = 87 by simp [l1, l2, l3, l4]] at this; exact this
end Go.Proofs.Ybulkdfgw
