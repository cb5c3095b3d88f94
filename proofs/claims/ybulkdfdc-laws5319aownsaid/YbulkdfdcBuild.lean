import Derived.Test.YbulkdfdcAnswer
import Derived.Test.YbulkdfdcModel
import Derived.Laws.Tables
import Derived.Great.BuildSlice
namespace Go.Proofs.Ybulkdfdc
open Go.ChangeShapes Go.WideShapes Go.ChangeAt Go.RowKit
set_option linter.unusedVariables false
set_option linter.unusedSimpArgs false

/-- A run of cells laid over the like run of an array. -/
theorem foldl_place (off : Nat) : ∀ (new : List Value) (k : Nat) (pre old post : List Value), old.length = new.length → pre.length = off + k →
    (new.zipIdx k).foldl (fun (cs : Array Value) x => cs.setIfInBounds (off + x.2) x.1) (pre ++ (old ++ post)).toArray = (pre ++ (new ++ post)).toArray
  | [], k, pre, old, post, h, hp => by
    obtain rfl := List.eq_nil_of_length_eq_zero h
    rfl
  | c :: new, k, pre, [], post, h, hp => by cases h
  | c :: new, k, pre, d :: old, post, h, hp => by
    simp only [List.zipIdx_cons, List.foldl_cons]
    have e : (pre ++ (d :: old ++ post)).toArray.setIfInBounds (off + k) c = ((pre ++ [c]) ++ (old ++ post)).toArray := by
      rw [List.setIfInBounds_toArray, ← hp]
      simp [List.set_append]
    rw [e, foldl_place off new (k + 1) (pre ++ [c]) old post (by simpa using h) (by simp; omega)]
    simp

theorem fill_agg {place : Nat → Option (Nat × Nat)} {i off size : Nat} (hpl : place i = some (off, size)) {v : Value} {new : List Value} (hv : v.cells = new.toArray) (hn : new.length = size) (pre old post : List Value) (ho : old.length = new.length) (hp : pre.length = off) (rest : List (Nat × Value)) :
    Instr.fill place (pre ++ (old ++ post)).toArray ((i, v) :: rest) = Instr.fill place (pre ++ (new ++ post)).toArray rest := by
  rw [Instr.fill, hpl]
  have hc : v.cells.size = new.length := by rw [hv]; simp
  have hs : (v.cells.size ≠ size || decide (off + v.cells.size > (pre ++ (old ++ post)).toArray.size)) = false := by
    rw [hc]; simp [hn]; omega
  simp only [hs]
  rw [if_neg (by simp)]
  congr 1
  rw [hv]
  have := foldl_place off new 0 pre old post ho (by omega)
  simpa using this

theorem fill_one (n : Nat) (z : Array Value) (new : List Value) (hz : z.size = n) (hn : new.length = n) : Instr.fill (fun i => some (i * n, n)) z [(0, .agg new.toArray)] = some new.toArray := by
  have e : z = ([] ++ (z.toList ++ [])).toArray := by simp
  rw [e, fill_agg (i := 0) (off := 0) (size := n) (by simp) (v := .agg new.toArray) rfl hn [] z.toList [] (by simp [hz, hn]) rfl []]
  simp [Instr.fill]

theorem run_buildSlice_one {P : Program} (w : World) (t e : TypeId) (ie : TypeInfo) (z : Value) (n : Nat) (hu : P.underlying t = some (.slice e)) (hie : P.info? e = some ie) (hz : ie.zero = some z) (hs : ie.size = n) (hn0 : 0 < n) (hn1 : n ≤ 1000) (cells : List Value) (hc : cells.length = n) :
    (Instr.buildSlice t 1 #[(0, .agg cells.toArray)]).run P w = .ok (.slice (some ⟨w.heap.size, 0, none⟩) 1 1) (w.alloc (.cells cells.toArray e)) := by
  refine run_buildSlice w t e 1 _ cells.toArray ie z hu hie hz (by omega) (by omega) ?_
  rw [hs]
  exact fill_one n _ cells (by simp) hc

/-- 'append(xs, x)': the row of one struct. -/
theorem wpList_buildSlice_one {P : Program} {w : World} {ops : Array Oper} {rest : List Oper} {o : Oper} {a : Act} {Q : Exit → Act → World → Prop} (hg : o.guard = none) (t e : TypeId) (x : Operand) (ho : o.op = .buildSlice t 1 #[(0, x)]) (ie : TypeInfo) (z : Value) (n : Nat) (hu : P.underlying t = some (.slice e)) (hie : P.info? e = some ie) (hz : ie.zero = some z) (hs : ie.size = n) (hn0 : 0 < n) (hn1 : n ≤ 1000) (cells : List Value) (hc : cells.length = n)
    (hx : a.eval x = .agg cells.toArray)
    (h : wpList P ops Q rest (a.put o.dst (.slice (some ⟨w.heap.size, 0, none⟩) 1 1)) (w.alloc (.cells cells.toArray e))) : wpList P ops Q (o :: rest) a w :=
  wpList_plain hg fun K hK => by
    unfold Oper.wp execOp
    have hr := run_buildSlice_one (P := P) w t e ie z n hu hie hz hs hn0 hn1 cells hc
    simp only [ho, List.map_toArray, List.map_cons, List.map_nil, hx, Sem.run_bind, hr, Result.andThen_ok]
    exact hK _ _ h

theorem step_buildSlice_one {P : Program} {w : World} {ops : Array Oper} {o : Oper} {a : Act} {K : Act → World → Prop} {Q : Exit → Act → World → Prop} {E : Prop} (hgd : o.guard = none) (t e : TypeId) (x : Operand) (ho : o.op = .buildSlice t 1 #[(0, x)]) (ie : TypeInfo) (z : Value) (n : Nat) (hu : P.underlying t = some (.slice e)) (hie : P.info? e = some ie) (hz : ie.zero = some z) (hs : ie.size = n) (hn0 : 0 < n) (hn1 : n ≤ 1000) (cells : List Value) (hc : cells.length = n)
    (hx : a.eval x = .agg cells.toArray)
    (h : K (a.put o.dst (.slice (some ⟨w.heap.size, 0, none⟩) 1 1)) (w.alloc (.cells cells.toArray e))) : if Region.wanted o (yielded ops a.tmps) = true then Oper.wp P o a w K Q else E := by
  have hw : Region.wanted o (yielded ops a.tmps) = true := by simp [Region.wanted, hgd]
  rw [if_pos hw]
  unfold Oper.wp execOp
  have hr := run_buildSlice_one (P := P) w t e ie z n hu hie hz hs hn0 hn1 cells hc
  simp only [ho, List.map_toArray, List.map_cons, List.map_nil, hx, Sem.run_bind, hr, Result.andThen_ok]
  exact h

theorem step_append_fits {P : Program} {w : World} {ops : Array Oper} {o : Oper} {a : Act} {K : Act → World → Prop} {Q : Exit → Act → World → Prop} {E : Prop} (hgd : o.guard = none) (s x : Operand) (t : TypeId)
    (ho : o.op = .call { callee := .builtin .append, args := #[s, x], argTypes := #[t, t] })
    (base : Nat) (e : TypeId) (i : TypeInfo) (size : Nat) (ht : P.underlying t = some (.slice e)) (hi : P.info? e = some i) (hsize : i.size = size)
    (g n cap : Nat) (xs : List Value) (hs : a.eval s = .slice (some ⟨g, 0, none⟩) n cap) (hown : w.ownsRow base e size (.slice (some ⟨g, 0, none⟩) n cap) n xs)
    (ad : Addr) (m c : Nat) (news : List Value) (hx : a.eval x = .slice (some ad) m c) (hl : news.length = m * size) (hnews : ∀ j u, news[j]? = some u → w.cell? (ad.add j) = some u) (h1 : ∀ u ∈ news, u.oneCell' = true) (hroom : n + m ≤ cap)
    (h : ∀ w', w'.ownsRow base e size (.slice (some ⟨g, 0, none⟩) (n + m) cap) (n + m) (xs ++ news) → w.grownBy w' (some g) → K (a.put o.dst (.slice (some ⟨g, 0, none⟩) (n + m) cap)) w') : if Region.wanted o (yielded ops a.tmps) = true then Oper.wp P o a w K Q else E := by
  have hw : Region.wanted o (yielded ops a.tmps) = true := by simp [Region.wanted, hgd]
  rw [if_pos hw]
  obtain ⟨w', hr, h2, h3⟩ := run_append_fits (P := P) w base t o.type e i size ht hi hsize g n cap xs hown ad m c news hl hnews h1 hroom
  unfold Oper.wp execOp
  simp only [ho, resolve, invoke, builtin, Sem.run_bind, Sem.run_pure, Result.andThen_ok, List.map_toArray, List.map_cons, List.map_nil, hs, hx, hr]
  exact h w' h2 h3

/-! ### The three struct literals -/
theorem built32 (t : Int) (node : List Value) (hn : node.length = 20) : Yba.prog.built 32 [(0, Value.int .u64 t), (1, Value.agg node.toArray)] = some (Value.int .u64 t :: node).toArray := by
  have e : ∀ parts, Yba.prog.built 32 parts = Instr.fill (fun x => (#[(0, 1), (1, 20)] : Array (Nat × Nat))[x]?) (([] : List Value) ++ ([Value.int .u64 0] ++ (List.replicate 20 (Value.int .u8 0)))).toArray parts := fun parts => by kernel_rfl
  rw [e, fill_agg (i := 0) (off := 0) (size := 1) rfl (v := Value.int .u64 t) (new := [Value.int .u64 t]) rfl rfl [] [Value.int .u64 0] _ rfl rfl]
  have e2 : (([] : List Value) ++ ([Value.int .u64 t] ++ (List.replicate 20 (Value.int .u8 0)))) = [Value.int .u64 t] ++ (List.replicate 20 (Value.int .u8 0) ++ []) := by simp
  rw [e2, fill_agg (i := 1) (off := 1) (size := 20) rfl (v := Value.agg node.toArray) (new := node) rfl hn [Value.int .u64 t] _ _ (by simp [hn]) rfl]
  simp [Instr.fill]

theorem built120 (x : Sm) (hx : x.Ok) : Yba.prog.built 120 [(0, Value.agg x.id.toArray), (1, Value.agg (Value.int .u64 x.t :: x.node).toArray), (2, Value.bool x.del), (3, Value.int .i64 x.size)] = some x.cells.toArray := by
  have e : ∀ parts, Yba.prog.built 120 parts = Instr.fill (fun x => (#[(0, 20), (20, 21), (41, 1), (42, 1)] : Array (Nat × Nat))[x]?) (([] : List Value) ++ (List.replicate 20 (Value.int .u8 0) ++ (Value.int .u64 0 :: (List.replicate 20 (Value.int .u8 0) ++ [Value.bool false, Value.int .i64 0])))).toArray parts := fun parts => by kernel_rfl
  rw [e, fill_agg (i := 0) (off := 0) (size := 20) rfl (v := Value.agg x.id.toArray) (new := x.id) rfl hx.id.len [] _ _ (by simp [hx.id.len]) rfl]
  have e2 : (([] : List Value) ++ (x.id ++ (Value.int .u64 0 :: (List.replicate 20 (Value.int .u8 0) ++ [Value.bool false, Value.int .i64 0])))) = x.id ++ ((Value.int .u64 0 :: List.replicate 20 (Value.int .u8 0)) ++ [Value.bool false, Value.int .i64 0]) := by simp
  rw [e2, fill_agg (i := 1) (off := 20) (size := 21) rfl (v := Value.agg (Value.int .u64 x.t :: x.node).toArray) (new := Value.int .u64 x.t :: x.node) rfl (by simp [hx.node.len]) x.id _ _ (by simp [hx.node.len]) hx.id.len]
  have e3 : x.id ++ ((Value.int .u64 x.t :: x.node) ++ [Value.bool false, Value.int .i64 0]) = (x.id ++ (Value.int .u64 x.t :: x.node)) ++ ([Value.bool false] ++ [Value.int .i64 0]) := by simp
  rw [e3, fill_agg (i := 2) (off := 41) (size := 1) rfl (v := Value.bool x.del) (new := [Value.bool x.del]) rfl rfl (x.id ++ (Value.int .u64 x.t :: x.node)) [Value.bool false] _ rfl (by simp [hx.id.len, hx.node.len])]
  have e4 : (x.id ++ (Value.int .u64 x.t :: x.node)) ++ ([Value.bool x.del] ++ [Value.int .i64 0]) = ((x.id ++ (Value.int .u64 x.t :: x.node)) ++ [Value.bool x.del]) ++ ([Value.int .i64 0] ++ []) := by simp
  rw [e4, fill_agg (i := 3) (off := 42) (size := 1) rfl (v := Value.int .i64 x.size) (new := [Value.int .i64 x.size]) rfl rfl ((x.id ++ (Value.int .u64 x.t :: x.node)) ++ [Value.bool x.del]) [Value.int .i64 0] _ rfl (by simp [hx.id.len, hx.node.len])]
  simp [Instr.fill, Sm.cells]

theorem built116 (p : Pt) (hp : p.Ok) : Yba.prog.built 116 [(0, Value.bool p.ins), (1, Value.agg p.dg.cells.toArray), (3, Value.agg p.th.toArray)] = some (anCells p (Value.slice none 0 0) (Value.slice none 0 0)).toArray := by
  have e : ∀ parts, Yba.prog.built 116 parts = Instr.fill (fun x => (#[(0, 1), (1, 5), (6, 1), (7, 20), (27, 1)] : Array (Nat × Nat))[x]?) (([] : List Value) ++ ([Value.bool false] ++ ([Value.int .i64 0, Value.int .u64 0, Value.int .u64 0, Value.int .u64 0, Value.int .u64 0] ++ (Value.slice none 0 0 :: (List.replicate 20 (Value.int .u8 0) ++ [Value.slice none 0 0]))))).toArray parts := fun parts => by kernel_rfl
  rw [e, fill_agg (i := 0) (off := 0) (size := 1) rfl (v := Value.bool p.ins) (new := [Value.bool p.ins]) rfl rfl [] [Value.bool false] _ rfl rfl]
  rw [List.nil_append, fill_agg (i := 1) (off := 1) (size := 5) rfl (v := Value.agg p.dg.cells.toArray) (new := p.dg.cells) rfl rfl [Value.bool p.ins] [Value.int .i64 0, Value.int .u64 0, Value.int .u64 0, Value.int .u64 0, Value.int .u64 0] _ rfl rfl]
  have e3 : [Value.bool p.ins] ++ (p.dg.cells ++ (Value.slice none 0 0 :: (List.replicate 20 (Value.int .u8 0) ++ [Value.slice none 0 0]))) = ([Value.bool p.ins] ++ p.dg.cells ++ [Value.slice none 0 0]) ++ (List.replicate 20 (Value.int .u8 0) ++ [Value.slice none 0 0]) := by simp
  rw [e3, fill_agg (i := 3) (off := 7) (size := 20) rfl (v := Value.agg p.th.toArray) (new := p.th) rfl hp.th.len _ _ _ (by simp [hp.th.len]) rfl]
  simp [Instr.fill, anCells]
end Go.Proofs.Ybulkdfdc
