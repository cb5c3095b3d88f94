import Derived.Test.YbulkdfdcBuild
import Derived.Laws.BytesArg
import Derived.Laws.MakeOwn
import Derived.Laws.OwnMore
import Derived.Deep.CutRange
namespace Go.Proofs.Ybulkdfdc
open Go.ChangeShapes Go.WideShapes Go.ChangeAt Go.RowKit
set_option linter.unusedVariables false
set_option linter.unusedSimpArgs false

theorem bk_lt {w : World} {k : Nat} {x : Obj} (h : w.heap[k]? = some x) : k < w.heap.size := (Array.getElem?_eq_some_iff.1 h).1

/-- Rows of the call's own, of element type T. -/
def ReadsN (w : World) (T : TypeId) (a : Option Addr) (size : Nat) (L : List (List Value)) : Prop :=
  L ≠ [] → ∃ b, a = some ⟨b, 0, none⟩ ∧ (∃ cur, w.heap[b]? = some (.cells cur T (0, 0))) ∧ ∀ i cs, L[i]? = some cs → w.rangeAt b (i * size) cs

/-- Digests' and stamps' rows are as they were. -/
def KeepN (w w' : World) : Prop := ∀ (b : Nat) (cur : Array Value) (T : TypeId), w.heap[b]? = some (Obj.cells cur T (0, 0)) → (T = 111 ∨ T = 120) → w'.heap[b]? = w.heap[b]?

theorem KeepN.trans {w w1 w2 : World} (h : KeepN w w1) (h' : KeepN w1 w2) : KeepN w w2 := fun b cur T hb hT => by
  have e := h b cur T hb hT
  rw [h' b cur T (by rw [e]; exact hb) hT, e]

theorem ReadsN.kept {w w' : World} {T : TypeId} {a : Option Addr} {size : Nat} {L : List (List Value)} (h : ReadsN w T a size L) (hT : T = 111 ∨ T = 120) (hk : KeepN w w') : ReadsN w' T a size L := fun hL => by
  obtain ⟨b, ha, ⟨cur, hc⟩, hr⟩ := h hL
  have e := hk b cur T hc hT
  exact ⟨b, ha, ⟨cur, by rw [e]; exact hc⟩, fun i cs hi => rangeAt_block e (hr i cs hi)⟩

theorem ReadsN.reads {B : Nat} {w : World} {T : TypeId} {a : Option Addr} {size : Nat} {L : List (List Value)} (h : ReadsN w T a size L) (hT : T ≠ 5) : Reads B w a size L := fun hL => by
  obtain ⟨b, ha, ⟨cur, hc⟩, hr⟩ := h hL
  exact ⟨b, 0, ha, ⟨bk_lt hc, Or.inr ⟨cur, T, (0, 0), hc, hT⟩⟩, fun i cs hi => by rw [Nat.zero_add]; exact hr i cs hi⟩

theorem flatMap_get {α : Type} {f : α → List Value} {size : Nat} : ∀ (L : List α), (∀ x ∈ L, (f x).length = size) → ∀ i x j u, L[i]? = some x → (f x)[j]? = some u → (L.flatMap f)[i * size + j]? = some u
  | [], _, i, x, j, u, hi, _ => by simp at hi
  | y :: L, hl, 0, x, j, u, hi, hu => by
    simp only [List.getElem?_cons_zero, Option.some.injEq] at hi
    subst hi
    rw [List.flatMap_cons, Nat.zero_mul, Nat.zero_add, List.getElem?_append_left (List.getElem?_eq_some_iff.1 hu).1]
    exact hu
  | y :: L, hl, i + 1, x, j, u, hi, hu => by
    rw [List.getElem?_cons_succ] at hi
    rw [List.flatMap_cons, List.getElem?_append_right (by rw [hl y List.mem_cons_self, Nat.add_mul]; omega), hl y List.mem_cons_self]
    have e : (i + 1) * size + j - size = i * size + j := by rw [Nat.add_mul]; omega
    rw [e]
    exact flatMap_get L (fun z hz => hl z (List.mem_cons_of_mem _ hz)) i x j u hi hu

theorem readsN_own {α : Type} {w : World} {B : Nat} {T : TypeId} {size g n cap : Nat} {L : List α} {f : α → List Value} (hown : w.ownsRow B T size (.slice (some ⟨g, 0, none⟩) n cap) n (L.flatMap f)) (hl : ∀ x ∈ L, (f x).length = size) :
    ReadsN w T (some ⟨g, 0, none⟩) size (L.map f) := fun _ => by
  rcases hown.2 with ⟨h, _⟩ | ⟨g', cap', cur, h, _, hg', _⟩
  · cases h
  · have hc := hown.cells (g := g) rfl
    simp only [Value.slice.injEq, Option.some.injEq, Addr.mk.injEq, and_true, true_and] at h
    obtain ⟨rfl, rfl⟩ := h
    refine ⟨g, rfl, ⟨cur, hg'⟩, fun i cs hi j u hu => ?_⟩
    rw [List.getElem?_map] at hi
    obtain ⟨x, hx, rfl⟩ := Option.map_eq_some_iff.1 hi
    have := hc (i * size + j) u (flatMap_get L hl i x j u hx hu)
    rw [Addr.add_mid, Nat.zero_add] at this
    exact this

def SpOk (w : World) (p : Pt) (spV : Value) : Prop :=
  (p.has = true → ∃ ad spC, spV = .slice (some ad) p.sp.length spC ∧ ReadsN w 111 (some ad) 5 (p.sp.map Dg.cells)) ∧ (p.has = false → spV = .slice none 0 0)
def StOk (w : World) (p : Pt) (stV : Value) : Prop := ∃ stA stC, stV = .slice stA p.st.length stC ∧ ReadsN w 120 stA 43 (p.st.map Sm.cells)
def AnRowN (w : World) (p : Pt) (cs : List Value) : Prop := ∃ spV stV, cs = anCells p spV stV ∧ SpOk w p spV ∧ StOk w p stV

theorem SpOk.kept {w w' : World} {p : Pt} {v : Value} (h : SpOk w p v) (hk : KeepN w w') : SpOk w' p v :=
  ⟨fun hh => ex_map (h.1 hh) fun ad => fun ⟨spC, e1, hr1⟩ => ⟨spC, e1, hr1.kept (Or.inl rfl) hk⟩, h.2⟩
theorem StOk.kept {w w' : World} {p : Pt} {v : Value} (h : StOk w p v) (hk : KeepN w w') : StOk w' p v := by
  obtain ⟨a, c, e, hr⟩ := h
  exact ⟨a, c, e, hr.kept (Or.inr rfl) hk⟩
theorem AnRowN.kept {w w' : World} {p : Pt} {cs : List Value} (h : AnRowN w p cs) (hk : KeepN w w') : AnRowN w' p cs := by
  obtain ⟨a, b, e, h1, h2⟩ := h
  exact ⟨a, b, e, h1.kept hk, h2.kept hk⟩
theorem AnRowN.row {B : Nat} {w : World} {p : Pt} {cs : List Value} (h : AnRowN w p cs) : AnRow B w p cs := by
  obtain ⟨spV, stV, e, h1, stA, stC, rfl, h2⟩ := h
  exact ⟨spV, stA, stC, e, fun hh => ex_map (h1.1 hh) fun ad => fun ⟨spC, e1, hr1⟩ => ⟨spC, e1, hr1.reads (by decide)⟩, h1.2, h2.reads (by decide)⟩

theorem setCell_same {w : World} {h j : Nat} {cs : List Value} {t : TypeId} {fr : Nat × Nat} (v : Value) (hb : w.heap[h]? = some (.cells cs.toArray t fr)) : (w.setCell ⟨h, j, none⟩ v).heap[h]? = some (.cells (cs.set j v).toArray t fr) := by
  simp only [World.setCell, Array.getElem?_modify, hb]
  simp

theorem frozen_block {w : World} {h j : Nat} {cs : Array Value} {t : TypeId} (hb : w.heap[h]? = some (.cells cs t (0, 0))) : w.frozen? ⟨h, j, none⟩ = false := by simp [World.frozen?, hb]

/-- IN THE ROUND: the part (block g), the answer (block h), all of the past as it was. -/
structure PaAt (W0 : World) (g : Nat) (cs : List Value) (p : Pt) (h : Nat) (spV stV : Value) (wx : World) : Prop where
  gle : W0.heap.size ≤ g
  hle : W0.heap.size ≤ h
  pa : wx.heap[h]? = some (.cells (anCells p spV stV).toArray 116 (0, 0))
  pt : wx.heap[g]? = some (.cells cs.toArray 107 (0, 0))
  bel : Below W0.heap.size W0 wx

theorem PaAt.drew {W0 : World} {g : Nat} {cs : List Value} {p : Pt} {h : Nat} {a b : Value} {wx : World} (x : PaAt W0 g cs p h a b wx) : PaAt W0 g cs p h a b wx.drew :=
  ⟨x.gle, x.hle, x.pa, x.pt, x.bel.drew⟩

theorem PaAt.alloc {W0 : World} {g : Nat} {cs : List Value} {p : Pt} {h : Nat} {a b : Value} {wx : World} (x : PaAt W0 g cs p h a b wx) (o : Obj) : PaAt W0 g cs p h a b (wx.alloc o) :=
  ⟨x.gle, x.hle, kept_alloc x.pa, kept_alloc x.pt, x.bel.alloc x.bel.size o⟩

theorem PaAt.grown {W0 : World} {g : Nat} {cs : List Value} {p : Pt} {h : Nat} {a b : Value} {wx w' : World} (x : PaAt W0 g cs p h a b wx) {row : Option Nat} (hg : wx.grownBy w' row) (hr : ∀ k, row = some k → W0.heap.size ≤ k ∧ ∃ cur T, wx.heap[k]? = some (.cells cur T (0, 0)) ∧ T ≠ 107 ∧ T ≠ 116) : PaAt W0 g cs p h a b w' := by
  refine ⟨x.gle, x.hle, ?_, ?_, x.bel.grown hg x.bel.size (fun k hk => (hr k hk).1)⟩
  · rw [hg.block _ (bk_lt x.pa) (fun e => by
      obtain ⟨_, cur, T, h1, h2, h3⟩ := hr _ e.symm
      rw [x.pa] at h1
      simp only [Option.some.injEq, Obj.cells.injEq] at h1
      exact h3 h1.2.1.symm)]
    exact x.pa
  · rw [hg.block _ (bk_lt x.pt) (fun e => by
      obtain ⟨_, cur, T, h1, h2, h3⟩ := hr _ e.symm
      rw [x.pt] at h1
      simp only [Option.some.injEq, Obj.cells.injEq] at h1
      exact h2 h1.2.1.symm)]
    exact x.pt

theorem PaAt.ne {W0 : World} {g : Nat} {cs : List Value} {p : Pt} {h : Nat} {a b : Value} {wx : World} (x : PaAt W0 g cs p h a b wx) : g ≠ h := fun e => by
  have h1 := x.pa
  rw [← e, x.pt] at h1
  simp only [Option.some.injEq, Obj.cells.injEq] at h1
  exact absurd h1.2.1 (by decide)

theorem PaAt.set6 {W0 : World} {g : Nat} {cs : List Value} {p : Pt} {h : Nat} {a b : Value} {wx : World} (x : PaAt W0 g cs p h a b wx) (v : Value) : PaAt W0 g cs p h v b (wx.setCell ⟨h, 6, none⟩ v) :=
  ⟨x.gle, x.hle, setCell_same (cs := anCells p a b) v x.pa, by rw [Below.heap_setCell _ _ _ _ x.ne]; exact x.pt, x.bel.setCell x.hle v⟩

theorem an_set27 {p : Pt} (hp : p.Ok) (a b v : Value) : (anCells p a b).set 27 v = anCells p a v := by
  have e : ∀ b, anCells p a b = (.bool p.ins :: (p.dg.cells ++ (a :: p.th))) ++ [b] := fun b => by simp [anCells]
  rw [e, e, List.set_append_right _ _ (by simp [Dg.cells, hp.th.len])]
  simp [Dg.cells, hp.th.len]

theorem PaAt.set27 {W0 : World} {g : Nat} {cs : List Value} {p : Pt} (hp : p.Ok) {h : Nat} {a b : Value} {wx : World} (x : PaAt W0 g cs p h a b wx) (v : Value) : PaAt W0 g cs p h a v (wx.setCell ⟨h, 27, none⟩ v) :=
  ⟨x.gle, x.hle, by rw [← an_set27 hp a b v]; exact setCell_same (cs := anCells p a b) v x.pa, by rw [Below.heap_setCell _ _ _ _ x.ne]; exact x.pt, x.bel.setCell x.hle v⟩

/-- A row of the call's own is turned by no other block's turning. -/
theorem own_block {w w' : World} {B : Nat} {e : TypeId} {size : Nat} {g n cap : Nat} {xs : List Value} (h : w.ownsRow B e size (.slice (some ⟨g, 0, none⟩) n cap) n xs) (hk : w'.heap[g]? = w.heap[g]?) : w'.ownsRow B e size (.slice (some ⟨g, 0, none⟩) n cap) n xs := by
  refine ⟨h.1, ?_⟩
  rcases h.2 with ⟨h0, h1⟩ | ⟨g', cap', cur, h0, hb, hg', hr⟩
  · exact Or.inl ⟨h0, h1⟩
  · have h2 := h0
    simp only [Value.slice.injEq, Option.some.injEq, Addr.mk.injEq, and_true, true_and] at h2
    obtain ⟨rfl, rfl⟩ := h2
    exact Or.inr ⟨g, cap, cur, h0, hb, by rw [hk]; exact hg', hr⟩

theorem own_at {w : World} {B : Nat} {e : TypeId} {size : Nat} {g n cap : Nat} {xs : List Value} (h : w.ownsRow B e size (.slice (some ⟨g, 0, none⟩) n cap) n xs) : B ≤ g ∧ ∃ cur, w.heap[g]? = some (.cells cur e (0, 0)) := by
  obtain ⟨h1, _, h2⟩ := own_lt h (g := g) rfl
  exact ⟨h1, h2⟩

/-- The digests' and the stamps' rows: what keeps them. -/
theorem KeepN.refl (w : World) : KeepN w w := fun _ _ _ _ _ => rfl
theorem KeepN.alloc (w : World) (o : Obj) : KeepN w (w.alloc o) := fun b cur T hb hT => Below.heap_alloc _ _ _ (bk_lt hb)
theorem KeepN.grown {w w' : World} {k : Nat} {cur : Array Value} {T : TypeId} (hg : w.grownBy w' (some k)) (hk : w.heap[k]? = some (.cells cur T (0, 0))) (hT : T ≠ 111 ∧ T ≠ 120) : KeepN w w' := fun b cur' T' hb hT' => by
  refine hg.block b (bk_lt hb) (fun e => ?_)
  obtain rfl : b = k := Option.some.inj e
  rw [hb] at hk
  simp only [Option.some.injEq, Obj.cells.injEq] at hk
  rcases hT' with h | h
  · exact hT.1 (by rw [← h]; exact hk.2.1.symm)
  · exact hT.2 (by rw [← h]; exact hk.2.1.symm)
theorem KeepN.grownNone {w w' : World} (hg : w.grownBy w' none) : KeepN w w' := fun b cur' T' hb hT' => hg.block b (bk_lt hb) (by simp)
theorem KeepN.setCell {w : World} {k j : Nat} {cur : Array Value} {T : TypeId} (v : Value) (hk : w.heap[k]? = some (.cells cur T (0, 0))) (hT : T ≠ 111 ∧ T ≠ 120) : KeepN w (w.setCell ⟨k, j, none⟩ v) := fun b cur' T' hb hT' => by
  refine Below.heap_setCell _ _ _ _ (fun e => ?_)
  obtain rfl : b = k := e
  rw [hb] at hk
  simp only [Option.some.injEq, Obj.cells.injEq] at hk
  rcases hT' with h | h
  · exact hT.1 (by rw [← h]; exact hk.2.1.symm)
  · exact hT.2 (by rw [← h]; exact hk.2.1.symm)
theorem KeepN.below {W0 wx : World} (h : Below W0.heap.size W0 wx) : KeepN W0 wx := fun b cur T hb hT => h.block b (bk_lt hb)

theorem yieldsIf_build {P : Program} {ops : Array Oper} {S : World → Prop} {o : Oper} {a : Act} (hg : o.guard = none) (t : TypeId) (parts : Array (Nat × Operand)) (ho : o.op = .build t parts) (vals : List (Nat × Value)) (he : (parts.map fun (i, x) => (i, a.eval x)).toList = vals) (cells : Array Value) (hb : P.built t vals = some cells) : YieldsIf P ops S o (.agg cells) a :=
  Or.inl ⟨by simp [Region.wanted, hg], fun w _ => by
    unfold execOp
    simp only [ho, Sem.run_bind, run_build w t _ cells (by rw [he]; exact hb), Result.andThen_ok, Sem.run_pure]⟩

theorem step_store_row {P : Program} {w : World} {ops : Array Oper} {o : Oper} {a : Act} {K : Act → World → Prop} {Q : Exit → Act → World → Prop} {E : Prop} (hgd : o.guard = none) (ty : TypeId) (x y : Operand) (ho : o.op = .store ty x y)
    (g : Nat) (cells : Array Value) (hx : a.eval x = .pointer (some ⟨g, 0, none⟩)) (hy : a.eval y = .agg cells)
    (t : TypeId) (old : Array Value) (hg : w.heap[g]? = some (.cells old t (0, 0))) (hi : (P.info? ty).map (·.size) = some cells.size)
    (hold : old.size = cells.size) (h1 : cells.all (·.oneCell') = true)
    (h : K (a.put o.dst undef) (w.setRow g cells)) : if Region.wanted o (yielded ops a.tmps) = true then Oper.wp P o a w K Q else E := by
  have hw : Region.wanted o (yielded ops a.tmps) = true := by simp [Region.wanted, hgd]
  rw [if_pos hw]
  exact wp_store_row ty x y ho g cells hx hy t old hg hi hold h1 h

theorem pa_stored {W0 V : World} {g h : Nat} {cs : List Value} {p : Pt} {old : Array Value} (hV : Below W0.heap.size W0 V) (hgl : W0.heap.size ≤ g) (hg : V.heap[g]? = some (.cells cs.toArray 107 (0, 0))) (hle : W0.heap.size ≤ h) (hh : V.heap[h]? = some (.cells old 116 (0, 0))) (a b : Value) :
    PaAt W0 g cs p h a b (V.setRow h (anCells p a b).toArray) := by
  have hne : g ≠ h := fun e => by
    rw [e, hh] at hg
    simp only [Option.some.injEq, Obj.cells.injEq] at hg
    exact absurd hg.2.1 (by decide)
  exact ⟨hgl, hle, setRow_heap _ _ _ _ _ _ hh, by rw [setRow_other _ _ _ _ hne]; exact hg, hV.trans ⟨rfl, rfl, rfl, by simp [World.setRow], fun k hk => setRow_other _ _ _ _ (by omega)⟩⟩

def P15 (W0 : World) (cs : List Value) (W : World) : Prop := W.heap[W0.heap.size]? = some (.cells cs.toArray 107 (0, 0)) ∧ Below W0.heap.size W0 W
def P21 (g : Nat) (cs : List Value) (b o : Nat) (xs : List Value) (W : World) : Prop := W.heap[g]? = some (.cells cs.toArray 107 (0, 0)) ∧ W.rangeAt b o xs
theorem rangeAt_alloc' {W : World} {b o : Nat} {xs : List Value} (h : W.rangeAt b o xs) (ob : Obj) : (W.alloc ob).rangeAt b o xs := fun j v hv => by
  have := h j v hv
  rw [World.cell?_alloc_past _ _ _ (World.block_lt_of_cell? _ _ this)]
  exact this
theorem P21.alloc {g b o : Nat} {W : World} {cs xs : List Value} (h : P21 g cs b o xs W) (ob : Obj) : P21 g cs b o xs (W.alloc ob) := ⟨kept_alloc h.1, rangeAt_alloc' h.2 ob⟩
theorem P15.alloc {W0 W : World} {cs : List Value} (h : P15 W0 cs W) (o : Obj) : P15 W0 cs (W.alloc o) := ⟨kept_alloc h.1, h.2.alloc h.2.size o⟩

theorem ReadsN.grown {w w' : World} {T T' : TypeId} {a : Option Addr} {size k : Nat} {L : List (List Value)} {cur : Array Value} (h : ReadsN w T a size L) (hg : w.grownBy w' (some k)) (hk : w.heap[k]? = some (.cells cur T' (0, 0))) (hT : T ≠ T') : ReadsN w' T a size L := fun hL => by
  obtain ⟨b, ha, ⟨cb, hc⟩, hr⟩ := h hL
  have e : w'.heap[b]? = w.heap[b]? := hg.block b (bk_lt hc) (fun e0 => by
    obtain rfl : b = k := Option.some.inj e0
    rw [hc] at hk
    simp only [Option.some.injEq, Obj.cells.injEq] at hk
    exact hT hk.2.1)
  exact ⟨b, ha, ⟨cb, by rw [e]; exact hc⟩, fun i cs hi => rangeAt_block e (hr i cs hi)⟩

theorem SpOk.grown {w w' : World} {p : Pt} {v : Value} {k : Nat} {cur : Array Value} {T' : TypeId} (h : SpOk w p v) (hg : w.grownBy w' (some k)) (hk : w.heap[k]? = some (.cells cur T' (0, 0))) (hT : 111 ≠ T') : SpOk w' p v :=
  ⟨fun hh => ex_map (h.1 hh) fun ad => fun ⟨spC, e1, hr1⟩ => ⟨spC, e1, hr1.grown hg hk hT⟩, h.2⟩

theorem wpList_build_to {P : Program} {w : World} {ops : Array Oper} {rest : List Oper} {o : Oper} {a : Act} {Q : Exit → Act → World → Prop} (hg : o.guard = none) (t : TypeId) (parts : Array (Nat × Operand)) (ho : o.op = .build t parts) (vals : List (Nat × Value)) (he : (parts.map fun (i, x) => (i, a.eval x)).toList = vals) (cells : Array Value) (hb : P.built t vals = some cells)
    (h : wpList P ops Q rest (a.put o.dst (.agg cells)) w) : wpList P ops Q (o :: rest) a w :=
  wpList_plain hg fun K hK => by
    unfold Oper.wp execOp
    simp only [ho, Sem.run_bind, run_build w t _ cells (by rw [he]; exact hb), Result.andThen_ok, Sem.run_pure]
    exact hK _ _ h

theorem wpList_build2 {P : Program} {w : World} {ops : Array Oper} {rest : List Oper} {o : Oper} {a : Act} {Q : Exit → Act → World → Prop} (hg : o.guard = none) (t : TypeId) (x0 x1 : Operand) (ho : o.op = .build t #[(0, x0), (1, x1)]) (v0 v1 : Value) (e0 : a.eval x0 = v0) (e1 : a.eval x1 = v1) (cells : Array Value) (hb : P.built t [(0, v0), (1, v1)] = some cells)
    (h : wpList P ops Q rest (a.put o.dst (.agg cells)) w) : wpList P ops Q (o :: rest) a w :=
  wpList_build_to hg t _ ho [(0, v0), (1, v1)] (by simp [e0, e1]) cells hb h

theorem wpList_build4 {P : Program} {w : World} {ops : Array Oper} {rest : List Oper} {o : Oper} {a : Act} {Q : Exit → Act → World → Prop} (hg : o.guard = none) (t : TypeId) (x0 x1 x2 x3 : Operand) (ho : o.op = .build t #[(0, x0), (1, x1), (2, x2), (3, x3)]) (v0 v1 v2 v3 : Value) (e0 : a.eval x0 = v0) (e1 : a.eval x1 = v1) (e2 : a.eval x2 = v2) (e3 : a.eval x3 = v3) (cells : Array Value) (hb : P.built t [(0, v0), (1, v1), (2, v2), (3, v3)] = some cells)
    (h : wpList P ops Q rest (a.put o.dst (.agg cells)) w) : wpList P ops Q (o :: rest) a w :=
  wpList_build_to hg t _ ho [(0, v0), (1, v1), (2, v2), (3, v3)] (by simp [e0, e1, e2, e3]) cells hb h
end Go.Proofs.Ybulkdfdc
