import Derived.Test.YbulkdfdcOwnA
namespace Go.Proofs.Ybulkdfdc
open Go.ChangeShapes Go.WideShapes Go.ChangeAt Go.RowKit
set_option linter.unusedVariables false
set_option linter.unusedSimpArgs false

/-- The next operation's slot: an arm of the walk is tried at its own operation alone. -/
theorem gate {P : Program} {w : World} {ops : Array Oper} {rest : List Oper} {o : Oper} {a : Act} {Q : Exit → Act → World → Prop} (d : Option Nat) (hd : o.dst = d) (h : wpList P ops Q (o :: rest) a w) : wpList P ops Q (o :: rest) a w := h
theorem built26q (q : Int) : Yba.prog.built 26 [(0, .int .u8 q)] = some (.int .u8 q :: List.replicate 19 (.int .u8 0)).toArray := by kernel_rfl
theorem built26 (z : Nat) : Yba.prog.built 26 [(0, .int .u8 ((z : Int) % 8))] = some (idCells (z % 8)).toArray := by
  rw [built26q]; unfold idCells; simp
theorem built9 : Yba.prog.built 26 [(0, .int .u8 9)] = some (idCells 9).toArray := by kernel_rfl
theorem built34 (x : It) : Yba.prog.built 34 [(0, .slice x.ka x.kn x.kc), (1, .slice x.va x.vn x.vc), (3, .bool x.del)] = some x.cells.toArray := by
  obtain ⟨ka, kn, kc, va, vn, vc, del⟩ := x
  kernel_rfl
theorem built44 (s : ByteArray) : Yba.prog.built 44 [(0, .agg (idCells 9).toArray), (1, .string s)] = some (peerCells (.string s)).toArray := by kernel_rfl
def stCells (gm : Nat) : List Value := [.pointer none, .int .i32 0, .int .u32 0, .map (some gm), .int .i64 0, .int .i64 0, .map none, .map none, .pointer none, .int .u64 0, .nilFunc]
theorem built64 (gm : Nat) : Yba.prog.built 64 [(2, .map (some gm))] = some (stCells gm).toArray := by kernel_rfl
set_option maxRecDepth 100000 in
theorem built86 (s : ByteArray) (t : TypeId) (v : Value) (gs : Nat) : (Yba.prog.built 86 [(0, .agg (peerCells (.string s)).toArray), (2, .iface t v), (11, .int .u64 7), (6, .pointer (some ⟨gs, 0, none⟩))]).map (fun cs => (cs[26]?, cs.toList.take 20)) = some (some (.pointer (some ⟨gs, 0, none⟩)), idCells 9) := by kernel_rfl
theorem built86' (s : ByteArray) (t : TypeId) (v : Value) (gs : Nat) : ∃ cs : Array Value, Yba.prog.built 86 [(0, .agg (peerCells (.string s)).toArray), (2, .iface t v), (11, .int .u64 7), (6, .pointer (some ⟨gs, 0, none⟩))] = some cs ∧ cs[26]? = some (.pointer (some ⟨gs, 0, none⟩)) ∧ ∀ (j : Nat) u, (idCells 9)[j]? = some u → cs[j]? = some u := by
  obtain ⟨cs, h1, h2⟩ := Option.map_eq_some_iff.1 (built86 s t v gs)
  simp only [Prod.mk.injEq] at h2
  refine ⟨cs, h1, h2.1, fun j u hu => ?_⟩
  rw [← h2.2, List.getElem?_take] at hu
  split at hu
  · simpa using hu
  · cases hu
def peerZero : Value := .agg (List.replicate 20 (Value.int .u8 0) ++ [Value.string { data := #[] }]).toArray
theorem info44 : (Yba.prog.info? 44).map (fun i => (i.zero, i.size)) = some (some peerZero, 21) := by kernel_rfl
theorem len_peer (s : Value) : (peerCells s).length = 21 := by simp [peerCells, len_id]
theorem one_peer (s : ByteArray) : ∀ u ∈ peerCells (.string s), u.oneCell' = true := by
  intro u hu
  rcases List.mem_append.1 hu with h | h
  · exact one_id 9 u h
  · rw [List.mem_singleton.1 h]; rfl
def netCells : List Value := [.int .i64 0, .int .i64 0, .nilIface, .string { data := #[] }, .int .u64 0, .slice none 0 0, .slice none 0 0, .int .i64 0, .nilIface]
theorem built42 : Yba.prog.built 42 [] = some netCells.toArray := by kernel_rfl
def faZero : Value := .agg #[.slice none 0 0, .int .i64 0]
theorem info37 : (Yba.prog.info? 37).map (fun i => (i.zero, i.size)) = some (some faZero, 2) := by kernel_rfl
/-- The four blocks of the set-up. -/
theorem four (w : World) (n p s c : Array Value) : ∀ w4, w4 = (((w.alloc (.cells n 42)).alloc (.cells p 44)).alloc (.cells s 64)).alloc (.cells c 86) →
    w4.heap.size = w.heap.size + 4 ∧ Below w.heap.size w w4 ∧ w4.heap[w.heap.size]? = some (.cells n 42 (0, 0)) ∧ w4.heap[w.heap.size + 1]? = some (.cells p 44 (0, 0)) ∧ w4.heap[w.heap.size + 2]? = some (.cells s 64 (0, 0)) ∧ w4.heap[w.heap.size + 3]? = some (.cells c 86 (0, 0)) := by
  intro w4 h
  subst h
  have e1 : (w.alloc (.cells n 42)).heap.size = w.heap.size + 1 := by simp
  have e2 : ((w.alloc (.cells n 42)).alloc (.cells p 44)).heap.size = w.heap.size + 2 := by simp
  have e3 : (((w.alloc (.cells n 42)).alloc (.cells p 44)).alloc (.cells s 64)).heap.size = w.heap.size + 3 := by simp
  have n1 := heap_alloc_new w (.cells n 42)
  have n2 := heap_alloc_new (w.alloc (.cells n 42)) (.cells p 44)
  have n3 := heap_alloc_new ((w.alloc (.cells n 42)).alloc (.cells p 44)) (.cells s 64)
  have n4 := heap_alloc_new (((w.alloc (.cells n 42)).alloc (.cells p 44)).alloc (.cells s 64)) (.cells c 86)
  rw [e1] at n2
  rw [e2] at n3
  rw [e3] at n4
  refine ⟨by simp, (((((Below.refl _ w).alloc (Nat.le_refl _) _).alloc (by omega) _).alloc (by omega) _).alloc (by omega) _), ?_, ?_, ?_, n4⟩
  · rw [Below.heap_alloc _ _ _ (by omega), Below.heap_alloc _ _ _ (by omega), Below.heap_alloc _ _ _ (by omega)]; exact n1
  · rw [Below.heap_alloc _ _ _ (by omega), Below.heap_alloc _ _ _ (by omega)]; exact n2
  · rw [Below.heap_alloc _ _ _ (by omega)]; exact n3
theorem range_block {w : World} {g : Nat} {cs : List Value} {t : TypeId} {fr : Nat × Nat} (h : w.heap[g]? = some (.cells cs.toArray t fr)) : w.rangeAt g 0 cs := fun j u hu => by
  simp [World.cell?, h, hu]
def hdZero : Value := .agg #[.int .u8 0, .slice none 0 0, .slice none 0 0, .bool false]
theorem info96 : (Yba.prog.info? 96).map (fun i => (i.zero, i.size)) = some (some hdZero, 4) := by kernel_rfl
theorem sz96 : (Yba.prog.info? 96).map (·.size) = some 4 := by kernel_rfl
theorem wpList_lookV {w : World} {ops : Array Oper} {rest : List Oper} {o : Oper} {a : Act} {Q : Exit → Act → World → Prop} (hgd : o.guard = none) (m k : Operand) (ho : o.op = .lookup 47 m k false) (gm N c : Nat) (V : Nat → Value) (hM : MapS w gm N V) (hc : c < 8) (v : Value) (hv : V c = v) (hm : a.eval m = .map (some gm)) (hk : a.eval k = .agg (idCells c).toArray)
    (h : wpList Yba.prog ops Q rest (a.put o.dst v) w) : wpList Yba.prog ops Q (o :: rest) a w := by
  subst hv
  exact wpList_look hgd m k ho gm N c V hM hc hm hk h
theorem Bld.form {W w : World} {gm k : Nat} {V : Nat → Value} {I : Nat → List It} (h : Bld W gm k w V I) {c : Nat} (hc : c < 8) : ∃ av capv, V c = .slice av (I c).length capv := by
  rcases (h.own c hc).2 with ⟨h1, h2⟩ | ⟨g, cap, cur, h1, _⟩
  · exact ⟨none, 0, by rw [h1, h2]⟩
  · exact ⟨_, cap, h1⟩
theorem own_form {w : World} {B : Nat} {v : Value} {L : List It} (h : w.ownsRow B 34 24 v L.length (itsV L)) : ∃ av capv, v = .slice av L.length capv := by
  rcases h.2 with ⟨h1, h2⟩ | ⟨g, cap, cur, h1, _⟩
  · exact ⟨none, 0, by rw [h1, h2]⟩
  · exact ⟨_, cap, h1⟩
def S51 (W : World) (ga g6 g9 q n cap6 : Nat) (x : It) (w : World) : Prop :=
  w.cell? ⟨ga, 0, none⟩ = some (.slice (some ⟨g6, 0, none⟩) n cap6) ∧ w.rangeAt g6 (q * 24) x.cells ∧ w.rangeAt g9 (q * 24) x.cells ∧ Below W.heap.size W w
theorem bg8 (w : World) : Calls Yba.prog 8 #[] w fun e w' => ∃ v, e = .returned v ∧ w' = w := by
  go_enter Yba.func8, Yba.ntmps8
  go_wp2_with fail
  go_ret
  exact ⟨_, rfl, rfl⟩
end Go.Proofs.Ybulkdfdc
