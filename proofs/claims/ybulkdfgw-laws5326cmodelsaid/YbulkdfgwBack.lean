import Derived.Test.YbulkdfgwAhead
import Derived.Deep.CutRange
namespace Go.Proofs.Ybulkdfgw
open Go.ChangeShapes Go.WideShapes Go.ChangeAt Go.RowKit
set_option linter.unusedVariables false
set_option linter.unusedSimpArgs false

theorem step_store_row {P : Program} {w : World} {ops : Array Oper} {o : Oper} {a : Act} {K : Act → World → Prop} {Q : Exit → Act → World → Prop} {E : Prop} (hgd : o.guard = none) (ty : TypeId) (x y : Operand) (ho : o.op = .store ty x y)
    (g : Nat) (cells : Array Value) (hx : a.eval x = .pointer (some ⟨g, 0, none⟩)) (hy : a.eval y = .agg cells)
    (t : TypeId) (old : Array Value) (hg : w.heap[g]? = some (.cells old t (0, 0))) (hi : (P.info? ty).map (·.size) = some cells.size)
    (hold : old.size = cells.size) (h1 : cells.all (·.oneCell') = true)
    (h : K (a.put o.dst undef) (w.setRow g cells)) : if Region.wanted o (yielded ops a.tmps) = true then Oper.wp P o a w K Q else E := by
  have hw : Region.wanted o (yielded ops a.tmps) = true := by simp [Region.wanted, hgd]
  rw [if_pos hw]
  exact wp_store_row ty x y ho g cells hx hy t old hg hi hold h1 h

def reachP (me own pred : Pr) : Bool := !eqP pred zeroP && (eqP pred own || btw own.id pred.id me.id)
def tbCells (pred own : Pr) (b1 b2 b3 : Bool) : List Value := pred.cells ++ (own.cells ++ [.bool b1, .bool b2, .bool b3])
def tbV (me own rs pred st : Pr) : List Value := tbCells pred own (reachP me own pred && !eqP pred own) (aheadP me own rs) (reachP me own pred && eqP st zeroP && aheadP me own rs)
theorem sz84 : (Yba.prog.info? 84).map (·.size) = some 45 := by kernel_rfl
theorem len_tb {p q : Pr} (hp : p.Ok) (hq : q.Ok) (a b c : Bool) : (tbCells p q a b c).length = 45 := by simp [tbCells, hp.cells, hq.cells]
theorem one_tb (p q : Pr) (a b c : Bool) : ∀ u ∈ tbCells p q a b c, u.oneCell' = true := by
  intro u hu
  rcases List.mem_append.1 hu with h | h
  · exact p.one u h
  · rcases List.mem_append.1 h with h | h
    · exact q.one u h
    · simp at h; rcases h with rfl | rfl | rfl <;> rfl
theorem built84 (p q : Pr) (hp : p.Ok) (hq : q.Ok) (a b c : Bool) : Yba.prog.built 84 [(0, .agg p.cells.toArray), (1, .agg q.cells.toArray), (2, .bool a), (3, .bool b), (4, .bool c)] = some (tbCells p q a b c).toArray := by
  obtain ⟨s, x⟩ := p
  obtain ⟨s', y⟩ := q
  have hx : x.length = 20 := hp.len
  have hy : y.length = 20 := hq.len
  match x, hx, y, hy with
  | [a0, a1, a2, a3, a4, a5, a6, a7, a8, a9, a10, a11, a12, a13, a14, a15, a16, a17, a18, a19], _, [b0, b1, b2, b3, b4, b5, b6, b7, b8, b9, b10, b11, b12, b13, b14, b15, b16, b17, b18, b19], _ => show _ = _; kernel_rfl
theorem exec_build5 {o : Oper} {x0 x1 x2 x3 x4 : Operand} (ho : o.op = .build 84 #[(0, x0), (1, x1), (2, x2), (3, x3), (4, x4)]) {act : Act} {p q : Pr} {a b c : Bool} (h0 : act.eval x0 = .agg p.cells.toArray) (h1 : act.eval x1 = .agg q.cells.toArray) (h2 : act.eval x2 = .bool a) (h3 : act.eval x3 = .bool b) (h4 : act.eval x4 = .bool c) (hp : p.Ok) (hq : q.Ok) (w : World) :
    (execOp act.eval o).run Yba.prog w = .ok (.value (.agg (tbCells p q a b c).toArray)) w := by
  unfold execOp
  simp only [ho, Sem.run_bind]
  rw [show (Array.map (fun (z : Nat × Operand) => (z.fst, act.eval z.snd)) #[(0, x0), (1, x1), (2, x2), (3, x3), (4, x4)]) = #[(0, .agg p.cells.toArray), (1, .agg q.cells.toArray), (2, .bool a), (3, .bool b), (4, .bool c)] from by simp [h0, h1, h2, h3, h4], run_build w 84 #[(0, .agg p.cells.toArray), (1, .agg q.cells.toArray), (2, .bool a), (3, .bool b), (4, .bool c)] (tbCells p q a b c).toArray (built84 p q hp hq a b c)]
  rfl

/-- Inside takingBack: the range, the two boxes, the result's row. -/
structure TB (W0 : World) (gr : Nat) (me own rs : Pr) (tv : Value) (pred st : Pr) (w : World) : Prop where
  rng : RngAt gr me own rs tv w
  p : w.rangeAt W0.heap.size 0 pred.cells
  s : w.rangeAt (W0.heap.size + 1) 0 st.cells
  r : ∃ old, w.heap[W0.heap.size + 2]? = some (.cells old 84 (0, 0)) ∧ old.size = 45
  bel : Below W0.heap.size W0 w
  sz : W0.heap.size + 3 ≤ w.heap.size
theorem TB.below {W0 : World} {gr : Nat} {me own rs : Pr} {tv : Value} {pred st : Pr} {w w' : World} (h : TB W0 gr me own rs tv pred st w) (hB : Below w.heap.size w w') : TB W0 gr me own rs tv pred st w' := by
  have hz := h.sz
  have := hB.size
  obtain ⟨old, h1, h2⟩ := h.r
  exact ⟨h.rng.below hB, rangeAt_blk (hB.block _ (by omega)) h.p, rangeAt_blk (hB.block _ (by omega)) h.s, ⟨old, by rw [hB.block _ (by omega)]; exact h1, h2⟩, h.bel.trans (hB.mono (by omega)), by omega⟩
/-- .. and own's copy. -/
def TB2 (W0 : World) (gr : Nat) (me own rs : Pr) (tv : Value) (pred st : Pr) (g7 : Nat) (w : World) : Prop := TB W0 gr me own rs tv pred st w ∧ w.rangeAt g7 0 own.cells ∧ g7 < w.heap.size
theorem TB2.below {W0 : World} {gr : Nat} {me own rs : Pr} {tv : Value} {pred st : Pr} {g7 : Nat} {w w' : World} (h : TB2 W0 gr me own rs tv pred st g7 w) (hB : Below w.heap.size w w') : TB2 W0 gr me own rs tv pred st g7 w' :=
  ⟨h.1.below hB, rangeAt_blk (hB.block _ h.2.2) h.2.1, Nat.lt_of_lt_of_le h.2.2 hB.size⟩
theorem TB.row {W0 : World} {gr : Nat} {me own rs : Pr} {tv : Value} {pred st : Pr} {w : World} (h : TB W0 gr me own rs tv pred st w) {g7 : Nat} (hg : W0.heap.size + 3 ≤ g7) (hgr : gr < W0.heap.size) (cs : Array Value) : TB W0 gr me own rs tv pred st (w.setRow g7 cs) := by
  have hz := h.sz
  obtain ⟨old, h1, h2⟩ := h.r
  have o : ∀ k, k ≠ g7 → (w.setRow g7 cs).heap[k]? = w.heap[k]? := fun k hk => setRow_other _ _ _ _ hk
  have hr := h.rng
  exact ⟨⟨by simpa using hr.1, rangeAt_blk (o _ (by omega)) hr.2.1, rangeAt_blk (o _ (by omega)) hr.2.2.1, rangeAt_blk (o _ (by omega)) hr.2.2.2.1, by rw [World.cell?_of_block (w := w) (o _ (by show gr ≠ g7; omega))]; exact hr.2.2.2.2⟩,
    rangeAt_blk (o _ (by omega)) h.p, rangeAt_blk (o _ (by omega)) h.s, ⟨old, by rw [o _ (by omega)]; exact h1, h2⟩, below_row' h.bel (by omega) _, by simpa using hz⟩
theorem TB2.setR {W0 : World} {gr : Nat} {me own rs : Pr} {tv : Value} {pred st : Pr} {g7 : Nat} {w : World} (h : TB2 W0 gr me own rs tv pred st g7 w) {old : Array Value} (hold : w.heap[W0.heap.size + 2]? = some (.cells old 84 (0, 0))) (hgr : gr < W0.heap.size) (hg7 : W0.heap.size + 3 ≤ g7) {cs : Array Value} (hcs : cs.size = 45) : TB2 W0 gr me own rs tv pred st g7 (w.setRow (W0.heap.size + 2) cs) := by
  have hz := h.1.sz
  have o : ∀ k, k ≠ W0.heap.size + 2 → (w.setRow (W0.heap.size + 2) cs).heap[k]? = w.heap[k]? := fun k hk => setRow_other _ _ _ _ hk
  have hr := h.1.rng
  exact ⟨⟨⟨by simpa using hr.1, rangeAt_blk (o _ (by omega)) hr.2.1, rangeAt_blk (o _ (by omega)) hr.2.2.1, rangeAt_blk (o _ (by omega)) hr.2.2.2.1, by rw [World.cell?_of_block (w := w) (o _ (by show gr ≠ _; omega))]; exact hr.2.2.2.2⟩,
    rangeAt_blk (o _ (by omega)) h.1.p, rangeAt_blk (o _ (by omega)) h.1.s, ⟨cs, setRow_heap _ _ _ _ _ _ hold, hcs⟩, below_row' h.1.bel (by omega) _, by simpa using hz⟩, rangeAt_blk (o _ (by omega)) h.2.1, by simpa using h.2.2⟩
theorem row_range {w : World} {g : Nat} {old : Array Value} {t : TypeId} {fr : Nat × Nat} (hg : w.heap[g]? = some (.cells old t fr)) (cs : List Value) : (w.setRow g cs.toArray).rangeAt g 0 cs := range_of_blk (setRow_heap _ _ _ _ _ _ hg)

def Z84 : Array Value := #[Value.string { data := #[] }, Value.int .u8 0, Value.int .u8 0, Value.int .u8 0, Value.int .u8 0, Value.int .u8 0, Value.int .u8 0, Value.int .u8 0, Value.int .u8 0, Value.int .u8 0, Value.int .u8 0, Value.int .u8 0, Value.int .u8 0, Value.int .u8 0, Value.int .u8 0, Value.int .u8 0, Value.int .u8 0, Value.int .u8 0, Value.int .u8 0, Value.int .u8 0, Value.int .u8 0, Value.string { data := #[] }, Value.int .u8 0, Value.int .u8 0, Value.int .u8 0, Value.int .u8 0, Value.int .u8 0, Value.int .u8 0, Value.int .u8 0, Value.int .u8 0, Value.int .u8 0, Value.int .u8 0, Value.int .u8 0, Value.int .u8 0, Value.int .u8 0, Value.int .u8 0, Value.int .u8 0, Value.int .u8 0, Value.int .u8 0, Value.int .u8 0, Value.int .u8 0, Value.int .u8 0, Value.bool false, Value.bool false, Value.bool false]
theorem tb_made (w : World) (gr : Nat) (me own rs : Pr) (tv : Value) (pred st : Pr) (h : RngAt gr me own rs tv w) : ∀ w3, w3 = ((w.alloc (.cells pred.cells.toArray 67)).alloc (.cells st.cells.toArray 67)).alloc (.cells Z84 84) → TB w gr me own rs tv pred st w3 := by
  intro w3 hw
  subst hw
  have e1 : (w.alloc (.cells pred.cells.toArray 67)).heap.size = w.heap.size + 1 := by simp
  have e2 : ((w.alloc (.cells pred.cells.toArray 67)).alloc (.cells st.cells.toArray 67)).heap.size = w.heap.size + 2 := by simp
  have n1 := heap_alloc_new w (.cells pred.cells.toArray 67)
  have n2 := heap_alloc_new (w.alloc (.cells pred.cells.toArray 67)) (.cells st.cells.toArray 67)
  have n3 := heap_alloc_new ((w.alloc (.cells pred.cells.toArray 67)).alloc (.cells st.cells.toArray 67)) (.cells Z84 84)
  rw [e1] at n2
  rw [e2] at n3
  have hB : Below w.heap.size w (((w.alloc (.cells pred.cells.toArray 67)).alloc (.cells st.cells.toArray 67)).alloc (.cells Z84 84)) := (((Below.refl _ w).alloc (Nat.le_refl _) _).alloc (by omega) _).alloc (by omega) _
  refine ⟨h.below hB, range_of_blk (t := 67) (fr := (0, 0)) ?_, range_of_blk (t := 67) (fr := (0, 0)) ?_, ⟨Z84, n3, rfl⟩, hB, by simp⟩
  · rw [Below.heap_alloc _ _ _ (by omega), Below.heap_alloc _ _ _ (by omega)]; exact n1
  · rw [Below.heap_alloc _ _ _ (by omega)]; exact n2

theorem new67 (w : World) (old : Array Value) : (w.alloc (.cells old 67)).heap[w.heap.size]? = some (.cells old 67 (0, 0)) := heap_alloc_new _ _
set_option maxHeartbeats 4000000 in
set_option maxRecDepth 20000 in
theorem tb25 (gr : Nat) (me own rs : Pr) (tv : Value) (pred st : Pr) (hs : me.Ok) (ho : own.Ok) (hr : rs.Ok) (hp : pred.Ok) (hst : st.Ok) (w : World) (h : RngAt gr me own rs tv w) :
    Calls Yba.prog 25 #[.pointer (some ⟨gr, 0, none⟩), .agg pred.cells.toArray, .agg st.cells.toArray] w fun e w' => e = .returned (.agg (tbV me own rs pred st).toArray) ∧ Below w.heap.size w w' := by
  have HGR : Hid (gr < w.heap.size) := h.1
  obtain ⟨w3, hw3⟩ : ∃ w3, w3 = ((w.alloc (.cells pred.cells.toArray 67)).alloc (.cells st.cells.toArray 67)).alloc (.cells Z84 84) := ⟨_, rfl⟩
  have T0 : Hid (TB w gr me own rs tv pred st w3) := tb_made w gr me own rs tv pred st h w3 hw3
  unfold Z84 at hw3
  clear h
  go_enter Yba.func25, Yba.ntmps25
  go_wp2_with fail
  rw [← hw3]
  clear hw3
  go_cut [7, 8] from 10 to 15 (fun s7 s8 wx => ∃ g7, s7 = .pointer (some ⟨g7, 0, none⟩) ∧ s8 = .bool (aheadP me own rs) ∧ TB2 w gr me own rs tv pred st g7 wx ∧ w.heap.size + 3 ≤ g7)
  case first =>
    have SA : Hid (TB w gr me own rs tv pred st w3.drew) := ⟨T0.out.rng, T0.out.p, T0.out.s, T0.out.r, T0.out.bel.drew, T0.out.sz⟩
    clear T0
    refine wp_region_noPanic ?_
    refine wp_region_held_drew (S := TB w gr me own rs tv pred st) (by kernel_rfl) SA.out (fun _ => ?_)
    refine wpAnyH_take (i := 0) (oi := { dst := some 10, op := _, type := _, pos := _, after := _, guard := _ }) (v := .pointer (some ⟨gr, 0, none⟩)) rfl (by kernel_rfl) (by kernel_rfl) (by kernel_rfl) (fun _ _ _ h => h) (Or.inl ⟨by rfl, fun W hW => by clear hW; go_simp⟩) SA.out ?_
    simp only [Act.put, List.setIfInBounds_toArray, List.set_cons_zero, List.set_cons_succ]
    refine wpAnyH_take (i := 1) (oi := { dst := some 11, op := _, type := _, pos := _, after := _, guard := _ }) (v := .pointer (some ⟨gr, 0, none⟩)) rfl (by kernel_rfl) (by kernel_rfl) (by kernel_rfl) (fun _ _ _ h => h) (Or.inl ⟨by rfl, fun W hW => by clear hW; go_simp⟩) SA.out ?_
    simp only [Act.put, List.setIfInBounds_toArray, List.set_cons_zero, List.set_cons_succ]
    refine wpAnyH_take (i := 2) (oi := { dst := some 12, op := _, type := _, pos := _, after := _, guard := _ }) (v := .pointer (some ⟨gr, 23, none⟩)) rfl (by kernel_rfl) (by kernel_rfl) (by kernel_rfl) (fun _ _ _ h => h) (Or.inl ⟨by rfl, fun W hW => by clear hW; go_simp⟩) SA.out ?_
    simp only [Act.put, List.setIfInBounds_toArray, List.set_cons_zero, List.set_cons_succ]
    refine wpAnyH_take (i := 3) (oi := { dst := some 13, op := _, type := _, pos := _, after := _, guard := _ }) (v := .agg own.cells.toArray) rfl (by kernel_rfl) (by kernel_rfl) (by kernel_rfl) (fun _ _ _ h => h) (yieldsIf_load_mid (by rfl) 67 (.tmp 12) rfl gr 23 rfl _ _ (fun W hW => hW.rng.2.2.1) Yba.underlying67 rfl (by rw [sz67, ho.cells])) SA.out ?_
    simp only [Act.put, List.setIfInBounds_toArray, List.set_cons_zero, List.set_cons_succ]
    refine wpAnyH_take (i := 4) (oi := { dst := some 14, op := _, type := _, pos := _, after := _, guard := _ }) (v := .pointer (some ⟨gr, 0, none⟩)) rfl (by kernel_rfl) (by kernel_rfl) (by kernel_rfl) (fun _ _ _ h => h) (Or.inl ⟨by rfl, fun W hW => by clear hW; go_simp⟩) SA.out ?_
    simp only [Act.put, List.setIfInBounds_toArray, List.set_cons_zero, List.set_cons_succ]
    refine wpAnyH_ready (rs := [5, 6]) (by kernel_rfl) (by simp) ?_
    refine AllReadyH.cons rfl (fun K hK => ?_) (AllReadyH.cons rfl (fun K hK => ?_) AllReadyH.nil)
    · rw [if_pos (by rfl)]
      go_simp
      refine (ahead29 gr me own rs tv hs ho hr w3.drew SA.out.rng).mono ?_
      rintro e w5 ⟨rfl, hB5⟩
      have SB : Hid (TB w gr me own rs tv pred st w5) := SA.out.below hB5
      clear hB5
      refine hK.out _ _ SB.out (fun _ => ?_)
      clear hK K
      refine wpAnyH_ready (rs := [6]) (by kernel_rfl) (by simp) ?_
      refine AllReadyH.cons rfl (fun K hK => ?_) AllReadyH.nil
      rw [if_pos (by rfl)]
      go_simp
      have SC : Hid (TB w gr me own rs tv pred st (w5.alloc (.cells #[Value.string { data := #[] }, Value.int .u8 0, Value.int .u8 0, Value.int .u8 0, Value.int .u8 0, Value.int .u8 0, Value.int .u8 0, Value.int .u8 0, Value.int .u8 0, Value.int .u8 0, Value.int .u8 0, Value.int .u8 0, Value.int .u8 0, Value.int .u8 0, Value.int .u8 0, Value.int .u8 0, Value.int .u8 0, Value.int .u8 0, Value.int .u8 0, Value.int .u8 0, Value.int .u8 0] 67))) := SB.out.below ((Below.refl _ _).alloc (Nat.le_refl _) _)
      have HN : Hid ((w5.alloc (.cells #[Value.string { data := #[] }, Value.int .u8 0, Value.int .u8 0, Value.int .u8 0, Value.int .u8 0, Value.int .u8 0, Value.int .u8 0, Value.int .u8 0, Value.int .u8 0, Value.int .u8 0, Value.int .u8 0, Value.int .u8 0, Value.int .u8 0, Value.int .u8 0, Value.int .u8 0, Value.int .u8 0, Value.int .u8 0, Value.int .u8 0, Value.int .u8 0, Value.int .u8 0, Value.int .u8 0] 67)).heap[w5.heap.size]? = some (.cells #[Value.string { data := #[] }, Value.int .u8 0, Value.int .u8 0, Value.int .u8 0, Value.int .u8 0, Value.int .u8 0, Value.int .u8 0, Value.int .u8 0, Value.int .u8 0, Value.int .u8 0, Value.int .u8 0, Value.int .u8 0, Value.int .u8 0, Value.int .u8 0, Value.int .u8 0, Value.int .u8 0, Value.int .u8 0, Value.int .u8 0, Value.int .u8 0, Value.int .u8 0, Value.int .u8 0] 67 (0, 0))) := heap_alloc_new _ _
      have hz5 := SB.out.sz
      refine hK.out _ _ SC.out (fun _ => ?_)
      clear hK K
      refine wpAnyH_ready (rs := [7]) (by kernel_rfl) (by simp) ?_
      refine AllReadyH.cons rfl (fun K hK => ?_) AllReadyH.nil
      refine step_store_row rfl 67 (.tmp 7) (.tmp 13) rfl w5.heap.size own.cells.toArray rfl rfl 67 _ HN.out (by rw [sz67]; simp [ho.cells]) (by simp [ho.cells]) (all_one own) ?_
      have SD : Hid (TB2 w gr me own rs tv pred st w5.heap.size ((w5.alloc (.cells #[Value.string { data := #[] }, Value.int .u8 0, Value.int .u8 0, Value.int .u8 0, Value.int .u8 0, Value.int .u8 0, Value.int .u8 0, Value.int .u8 0, Value.int .u8 0, Value.int .u8 0, Value.int .u8 0, Value.int .u8 0, Value.int .u8 0, Value.int .u8 0, Value.int .u8 0, Value.int .u8 0, Value.int .u8 0, Value.int .u8 0, Value.int .u8 0, Value.int .u8 0, Value.int .u8 0] 67)).setRow w5.heap.size own.cells.toArray)) := ⟨SC.out.row hz5 HGR.out _, row_range HN.out _, by simp⟩
      refine hK.out _ _ SD.out.1 (fun _ => ?_)
      simp only [Act.put, List.setIfInBounds_toArray, List.set_cons_zero, List.set_cons_succ]
      clear hK K
      have SE : Hid (TB w gr me own rs tv pred st _) := SD.out.1
      refine wpAnyH_take (i := 8) (oi := { dst := some 8, op := _, type := _, pos := _, after := _, guard := _ }) (v := .bool (aheadP me own rs)) rfl (by kernel_rfl) (by kernel_rfl) (by kernel_rfl) (fun _ _ _ h => h) (Or.inl ⟨by rfl, fun W hW => by clear hW; go_simp⟩) SE.out ?_
      simp only [Act.put, List.setIfInBounds_toArray, List.set_cons_zero, List.set_cons_succ]
      refine wpAnyH_done (by kernel_rfl) ?_ _
      refine NoPanic.normal ?_
      go_wp2_with fail
      go_meet
      case rel => exact ⟨_, rfl, rfl, SD.out, hz5⟩
    · rw [if_pos (by rfl)]
      go_simp
      have SC : Hid (TB w gr me own rs tv pred st (w3.drew.alloc (.cells #[Value.string { data := #[] }, Value.int .u8 0, Value.int .u8 0, Value.int .u8 0, Value.int .u8 0, Value.int .u8 0, Value.int .u8 0, Value.int .u8 0, Value.int .u8 0, Value.int .u8 0, Value.int .u8 0, Value.int .u8 0, Value.int .u8 0, Value.int .u8 0, Value.int .u8 0, Value.int .u8 0, Value.int .u8 0, Value.int .u8 0, Value.int .u8 0, Value.int .u8 0, Value.int .u8 0] 67))) := SA.out.below ((Below.refl _ _).alloc (Nat.le_refl _) _)
      have HN : Hid ((w3.drew.alloc (.cells #[Value.string { data := #[] }, Value.int .u8 0, Value.int .u8 0, Value.int .u8 0, Value.int .u8 0, Value.int .u8 0, Value.int .u8 0, Value.int .u8 0, Value.int .u8 0, Value.int .u8 0, Value.int .u8 0, Value.int .u8 0, Value.int .u8 0, Value.int .u8 0, Value.int .u8 0, Value.int .u8 0, Value.int .u8 0, Value.int .u8 0, Value.int .u8 0, Value.int .u8 0, Value.int .u8 0] 67)).heap[w3.heap.size]? = some (.cells #[Value.string { data := #[] }, Value.int .u8 0, Value.int .u8 0, Value.int .u8 0, Value.int .u8 0, Value.int .u8 0, Value.int .u8 0, Value.int .u8 0, Value.int .u8 0, Value.int .u8 0, Value.int .u8 0, Value.int .u8 0, Value.int .u8 0, Value.int .u8 0, Value.int .u8 0, Value.int .u8 0, Value.int .u8 0, Value.int .u8 0, Value.int .u8 0, Value.int .u8 0, Value.int .u8 0] 67 (0, 0))) := heap_alloc_new w3.drew _
      have hz3 : w.heap.size + 3 ≤ w3.heap.size := SA.out.sz
      refine hK.out _ _ SC.out (fun _ => ?_)
      clear hK K
      refine wpAnyH_ready (rs := [5]) (by kernel_rfl) (by simp) ?_
      refine AllReadyH.cons rfl (fun K hK => ?_) AllReadyH.nil
      · rw [if_pos (by rfl)]
        go_simp
        refine (ahead29 gr me own rs tv hs ho hr _ SC.out.rng).mono ?_
        rintro e w5 ⟨rfl, hB5⟩
        have SD : Hid (TB w gr me own rs tv pred st w5) := SC.out.below hB5
        have HN5 : Hid (w5.heap[w3.heap.size]? = some (.cells #[Value.string { data := #[] }, Value.int .u8 0, Value.int .u8 0, Value.int .u8 0, Value.int .u8 0, Value.int .u8 0, Value.int .u8 0, Value.int .u8 0, Value.int .u8 0, Value.int .u8 0, Value.int .u8 0, Value.int .u8 0, Value.int .u8 0, Value.int .u8 0, Value.int .u8 0, Value.int .u8 0, Value.int .u8 0, Value.int .u8 0, Value.int .u8 0, Value.int .u8 0, Value.int .u8 0] 67 (0, 0))) := by rw [hB5.block _ (by simp)]; exact HN.out
        have hz5 : w3.heap.size < w5.heap.size := by have := hB5.size; simp at this; omega
        clear hB5
        refine hK.out _ _ SD.out (fun _ => ?_)
        clear hK K
        refine wpAnyH_ready (rs := [7]) (by kernel_rfl) (by simp) ?_
        refine AllReadyH.cons rfl (fun K hK => ?_) AllReadyH.nil
        refine step_store_row rfl 67 (.tmp 7) (.tmp 13) rfl w3.heap.size own.cells.toArray rfl rfl 67 _ HN5.out (by rw [sz67]; simp [ho.cells]) (by simp [ho.cells]) (all_one own) ?_
        have SE : Hid (TB2 w gr me own rs tv pred st w3.heap.size (w5.setRow w3.heap.size own.cells.toArray)) := ⟨SD.out.row hz3 HGR.out _, row_range HN5.out _, by simpa using hz5⟩
        refine hK.out _ _ SE.out.1 (fun _ => ?_)
        simp only [Act.put, List.setIfInBounds_toArray, List.set_cons_zero, List.set_cons_succ]
        clear hK K
        have SF : Hid (TB w gr me own rs tv pred st _) := SE.out.1
        refine wpAnyH_take (i := 8) (oi := { dst := some 8, op := _, type := _, pos := _, after := _, guard := _ }) (v := .bool (aheadP me own rs)) rfl (by kernel_rfl) (by kernel_rfl) (by kernel_rfl) (fun _ _ _ h => h) (Or.inl ⟨by rfl, fun W hW => by clear hW; go_simp⟩) SF.out ?_
        simp only [Act.put, List.setIfInBounds_toArray, List.set_cons_zero, List.set_cons_succ]
        refine wpAnyH_done (by kernel_rfl) ?_ _
        refine NoPanic.normal ?_
        go_wp2_with fail
        go_meet
        case rel => exact ⟨_, rfl, rfl, SE.out, hz3⟩
  case rest =>
    obtain ⟨g7, rfl, rfl, hT, hg7⟩ := hcut
    have T1 : Hid (TB2 w gr me own rs tv pred st g7 wc) := hT
    clear hT
    go_wp2_with fail
    go_cut [9] from 16 to 35 (fun s9 wx => s9 = .bool (reachP me own pred) ∧ TB2 w gr me own rs tv pred st g7 wx)
    case first =>
      cases hz : eqP pred zeroP
      · have hn : (!eqP pred zeroP) = true := by rw [hz]; rfl
        cases heq : eqP pred own
        · have SA : Hid (TB2 w gr me own rs tv pred st g7 wc.drew) := ⟨⟨T1.out.1.rng, T1.out.1.p, T1.out.1.s, T1.out.1.r, T1.out.1.bel.drew, T1.out.1.sz⟩, T1.out.2.1, T1.out.2.2⟩
          refine wp_region_noPanic ?_
          refine wp_region_held_drew (S := TB2 w gr me own rs tv pred st g7) (by kernel_rfl) SA.out (fun _ => ?_)
          refine wpAnyH_take (i := 0) (oi := { dst := some 16, op := _, type := _, pos := _, after := _, guard := _ }) (v := .agg pred.cells.toArray) rfl (by kernel_rfl) (by kernel_rfl) (by kernel_rfl) (fun _ _ _ h => h) (yieldsIf_load_mid (by rfl) 67 (.tmp 4) rfl w.heap.size 0 rfl _ _ (fun W hW => hW.1.p) Yba.underlying67 rfl (by rw [sz67, hp.cells])) SA.out ?_
          simp only [Act.put, List.setIfInBounds_toArray, List.set_cons_zero, List.set_cons_succ]
          refine wpAnyH_take (i := 1) (oi := { dst := some 17, op := _, type := _, pos := _, after := _, guard := _ }) (v := .agg zeroP.cells.toArray) rfl (by kernel_rfl) (by kernel_rfl) (by kernel_rfl) (fun _ _ _ h => h) (Or.inl ⟨by rfl, fun W hW => exec_build0 rfl W⟩) SA.out ?_
          simp only [Act.put, List.setIfInBounds_toArray, List.set_cons_zero, List.set_cons_succ]
          refine wpAnyH_take (i := 2) (oi := { dst := some 18, op := _, type := _, pos := _, after := _, guard := _ }) (v := .bool true) rfl (by kernel_rfl) (by kernel_rfl) (by kernel_rfl) (fun _ _ _ h => h) (Or.inl ⟨by rfl, fun W hW => (hn) ▸ exec_neq67 (x := .tmp 16) (y := .tmp 17) rfl rfl rfl hp zeroP_ok W⟩) SA.out ?_
          simp only [Act.put, List.setIfInBounds_toArray, List.set_cons_zero, List.set_cons_succ]
          refine wpAnyH_take (i := 3) (oi := { dst := some 19, op := _, type := _, pos := _, after := _, guard := _ }) (v := .bool true) rfl (by kernel_rfl) (by kernel_rfl) (by kernel_rfl) (fun _ _ _ h => h) (Or.inl ⟨by rfl, fun W hW => by clear hW; go_simp⟩) SA.out ?_
          simp only [Act.put, List.setIfInBounds_toArray, List.set_cons_zero, List.set_cons_succ]
          refine wpAnyH_take (i := 4) (oi := { dst := some 20, op := _, type := _, pos := _, after := _, guard := _ }) (v := .agg pred.cells.toArray) rfl (by kernel_rfl) (by kernel_rfl) (by kernel_rfl) (fun _ _ _ h => h) (yieldsIf_load_mid (by rfl) 67 (.tmp 4) rfl w.heap.size 0 rfl _ _ (fun W hW => hW.1.p) Yba.underlying67 rfl (by rw [sz67, hp.cells])) SA.out ?_
          simp only [Act.put, List.setIfInBounds_toArray, List.set_cons_zero, List.set_cons_succ]
          refine wpAnyH_take (i := 5) (oi := { dst := some 21, op := _, type := _, pos := _, after := _, guard := _ }) (v := .agg own.cells.toArray) rfl (by kernel_rfl) (by kernel_rfl) (by kernel_rfl) (fun _ _ _ h => h) (yieldsIf_load_mid (by rfl) 67 (.tmp 7) rfl g7 0 rfl _ _ (fun W hW => hW.2.1) Yba.underlying67 rfl (by rw [sz67, ho.cells])) SA.out ?_
          simp only [Act.put, List.setIfInBounds_toArray, List.set_cons_zero, List.set_cons_succ]
          refine wpAnyH_take (i := 6) (oi := { dst := some 22, op := _, type := _, pos := _, after := _, guard := _ }) (v := .bool false) rfl (by kernel_rfl) (by kernel_rfl) (by kernel_rfl) (fun _ _ _ h => h) (Or.inl ⟨by rfl, fun W hW => (heq) ▸ exec_eql67 (x := .tmp 20) (y := .tmp 21) rfl rfl rfl hp ho W⟩) SA.out ?_
          simp only [Act.put, List.setIfInBounds_toArray, List.set_cons_zero, List.set_cons_succ]
          refine wpAnyH_take (i := 7) (oi := { dst := some 23, op := _, type := _, pos := _, after := _, guard := _ }) (v := .bool false) rfl (by kernel_rfl) (by kernel_rfl) (by kernel_rfl) (fun _ _ _ h => h) (Or.inl ⟨by rfl, fun W hW => by clear hW; go_simp⟩) SA.out ?_
          simp only [Act.put, List.setIfInBounds_toArray, List.set_cons_zero, List.set_cons_succ]
          refine wpAnyH_take (i := 8) (oi := { dst := some 24, op := _, type := _, pos := _, after := _, guard := _ }) (v := .pointer (some ⟨g7, 1, none⟩)) rfl (by kernel_rfl) (by kernel_rfl) (by kernel_rfl) (fun _ _ _ h => h) (Or.inl ⟨by rfl, fun W hW => by clear hW; go_simp⟩) SA.out ?_
          simp only [Act.put, List.setIfInBounds_toArray, List.set_cons_zero, List.set_cons_succ]
          refine wpAnyH_take (i := 9) (oi := { dst := some 25, op := _, type := _, pos := _, after := _, guard := _ }) (v := .agg (idC own.id).toArray) rfl (by kernel_rfl) (by kernel_rfl) (by kernel_rfl) (fun _ _ _ h => h) (yieldsIf_load_mid (by rfl) 65 (.tmp 24) rfl g7 1 rfl _ _ (fun W hW => range_id hW.2.1) Yba.underlying65 rfl (by rw [sz65, len_idC, ho.len])) SA.out ?_
          simp only [Act.put, List.setIfInBounds_toArray, List.set_cons_zero, List.set_cons_succ]
          refine wpAnyH_take (i := 10) (oi := { dst := some 26, op := _, type := _, pos := _, after := _, guard := _ }) (v := .pointer (some ⟨w.heap.size, 1, none⟩)) rfl (by kernel_rfl) (by kernel_rfl) (by kernel_rfl) (fun _ _ _ h => h) (Or.inl ⟨by rfl, fun W hW => by clear hW; go_simp⟩) SA.out ?_
          simp only [Act.put, List.setIfInBounds_toArray, List.set_cons_zero, List.set_cons_succ]
          refine wpAnyH_take (i := 11) (oi := { dst := some 27, op := _, type := _, pos := _, after := _, guard := _ }) (v := .agg (idC pred.id).toArray) rfl (by kernel_rfl) (by kernel_rfl) (by kernel_rfl) (fun _ _ _ h => h) (yieldsIf_load_mid (by rfl) 65 (.tmp 26) rfl w.heap.size 1 rfl _ _ (fun W hW => range_id hW.1.p) Yba.underlying65 rfl (by rw [sz65, len_idC, hp.len])) SA.out ?_
          simp only [Act.put, List.setIfInBounds_toArray, List.set_cons_zero, List.set_cons_succ]
          refine wpAnyH_take (i := 12) (oi := { dst := some 28, op := _, type := _, pos := _, after := _, guard := _ }) (v := .pointer (some ⟨gr, 0, none⟩)) rfl (by kernel_rfl) (by kernel_rfl) (by kernel_rfl) (fun _ _ _ h => h) (Or.inl ⟨by rfl, fun W hW => by clear hW; go_simp⟩) SA.out ?_
          simp only [Act.put, List.setIfInBounds_toArray, List.set_cons_zero, List.set_cons_succ]
          refine wpAnyH_take (i := 13) (oi := { dst := some 29, op := _, type := _, pos := _, after := _, guard := _ }) (v := .pointer (some ⟨gr, 0, none⟩)) rfl (by kernel_rfl) (by kernel_rfl) (by kernel_rfl) (fun _ _ _ h => h) (Or.inl ⟨by rfl, fun W hW => by clear hW; go_simp⟩) SA.out ?_
          simp only [Act.put, List.setIfInBounds_toArray, List.set_cons_zero, List.set_cons_succ]
          refine wpAnyH_take (i := 14) (oi := { dst := some 30, op := _, type := _, pos := _, after := _, guard := _ }) (v := .pointer (some ⟨gr, 0, none⟩)) rfl (by kernel_rfl) (by kernel_rfl) (by kernel_rfl) (fun _ _ _ h => h) (Or.inl ⟨by rfl, fun W hW => by clear hW; go_simp⟩) SA.out ?_
          simp only [Act.put, List.setIfInBounds_toArray, List.set_cons_zero, List.set_cons_succ]
          refine wpAnyH_take (i := 15) (oi := { dst := some 31, op := _, type := _, pos := _, after := _, guard := _ }) (v := .pointer (some ⟨gr, 1, none⟩)) rfl (by kernel_rfl) (by kernel_rfl) (by kernel_rfl) (fun _ _ _ h => h) (Or.inl ⟨by rfl, fun W hW => by clear hW; go_simp⟩) SA.out ?_
          simp only [Act.put, List.setIfInBounds_toArray, List.set_cons_zero, List.set_cons_succ]
          refine wpAnyH_take (i := 16) (oi := { dst := some 32, op := _, type := _, pos := _, after := _, guard := _ }) (v := .agg (idC me.id).toArray) rfl (by kernel_rfl) (by kernel_rfl) (by kernel_rfl) (fun _ _ _ h => h) (yieldsIf_load_mid (by rfl) 65 (.tmp 31) rfl gr 1 rfl _ _ (fun W hW => range_id hW.1.rng.2.1) Yba.underlying65 rfl (by rw [sz65, len_idC, hs.len])) SA.out ?_
          simp only [Act.put, List.setIfInBounds_toArray, List.set_cons_zero, List.set_cons_succ]
          refine wpAnyH_ready (rs := [17]) (by kernel_rfl) (by simp) ?_
          refine AllReadyH.cons rfl (fun K hK => ?_) AllReadyH.nil
          rw [if_pos (by rfl)]
          go_simp
          refine (btw30 own.id pred.id me.id ho.len hp.len hs.len wc.drew).mono ?_
          rintro e w5 ⟨rfl, hB5⟩
          have SB : Hid (TB2 w gr me own rs tv pred st g7 w5) := SA.out.below hB5
          clear hB5
          refine hK.out _ _ SB.out (fun _ => ?_)
          clear hK K
          refine wpAnyH_take (i := 18) (oi := { dst := some 34, op := _, type := _, pos := _, after := _, guard := _ }) (v := .bool (btw own.id pred.id me.id)) rfl (by kernel_rfl) (by kernel_rfl) (by kernel_rfl) (fun _ _ _ h => h) (Or.inl ⟨by rfl, fun W hW => by clear hW; go_simp⟩) SB.out ?_
          simp only [Act.put, List.setIfInBounds_toArray, List.set_cons_zero, List.set_cons_succ]
          refine wpAnyH_take (i := 19) (oi := { dst := some 35, op := _, type := _, pos := _, after := _, guard := _ }) (v := .bool (btw own.id pred.id me.id)) rfl (by kernel_rfl) (by kernel_rfl) (by kernel_rfl) (fun _ _ _ h => h) (Or.inl ⟨by rfl, fun W hW => by clear hW; go_simp⟩) SB.out ?_
          simp only [Act.put, List.setIfInBounds_toArray, List.set_cons_zero, List.set_cons_succ]
          refine wpAnyH_take (i := 20) (oi := { dst := some 9, op := _, type := _, pos := _, after := _, guard := _ }) (v := .bool (btw own.id pred.id me.id)) rfl (by kernel_rfl) (by kernel_rfl) (by kernel_rfl) (fun _ _ _ h => h) (Or.inl ⟨by rfl, fun W hW => by clear hW; go_simp⟩) SB.out ?_
          simp only [Act.put, List.setIfInBounds_toArray, List.set_cons_zero, List.set_cons_succ]
          refine wpAnyH_done (by kernel_rfl) ?_ _
          refine NoPanic.normal ?_
          go_wp2_with fail
          go_meet
          case rel => exact ⟨by unfold reachP; rw [hz, heq]; simp, SB.out⟩
        · have SA : Hid (TB2 w gr me own rs tv pred st g7 wc.drew) := ⟨⟨T1.out.1.rng, T1.out.1.p, T1.out.1.s, T1.out.1.r, T1.out.1.bel.drew, T1.out.1.sz⟩, T1.out.2.1, T1.out.2.2⟩
          refine wp_region_noPanic ?_
          refine wp_region_held_drew (S := TB2 w gr me own rs tv pred st g7) (by kernel_rfl) SA.out (fun _ => ?_)
          refine wpAnyH_take (i := 0) (oi := { dst := some 16, op := _, type := _, pos := _, after := _, guard := _ }) (v := .agg pred.cells.toArray) rfl (by kernel_rfl) (by kernel_rfl) (by kernel_rfl) (fun _ _ _ h => h) (yieldsIf_load_mid (by rfl) 67 (.tmp 4) rfl w.heap.size 0 rfl _ _ (fun W hW => hW.1.p) Yba.underlying67 rfl (by rw [sz67, hp.cells])) SA.out ?_
          simp only [Act.put, List.setIfInBounds_toArray, List.set_cons_zero, List.set_cons_succ]
          refine wpAnyH_take (i := 1) (oi := { dst := some 17, op := _, type := _, pos := _, after := _, guard := _ }) (v := .agg zeroP.cells.toArray) rfl (by kernel_rfl) (by kernel_rfl) (by kernel_rfl) (fun _ _ _ h => h) (Or.inl ⟨by rfl, fun W hW => exec_build0 rfl W⟩) SA.out ?_
          simp only [Act.put, List.setIfInBounds_toArray, List.set_cons_zero, List.set_cons_succ]
          refine wpAnyH_take (i := 2) (oi := { dst := some 18, op := _, type := _, pos := _, after := _, guard := _ }) (v := .bool true) rfl (by kernel_rfl) (by kernel_rfl) (by kernel_rfl) (fun _ _ _ h => h) (Or.inl ⟨by rfl, fun W hW => (hn) ▸ exec_neq67 (x := .tmp 16) (y := .tmp 17) rfl rfl rfl hp zeroP_ok W⟩) SA.out ?_
          simp only [Act.put, List.setIfInBounds_toArray, List.set_cons_zero, List.set_cons_succ]
          refine wpAnyH_take (i := 3) (oi := { dst := some 19, op := _, type := _, pos := _, after := _, guard := _ }) (v := .bool true) rfl (by kernel_rfl) (by kernel_rfl) (by kernel_rfl) (fun _ _ _ h => h) (Or.inl ⟨by rfl, fun W hW => by clear hW; go_simp⟩) SA.out ?_
          simp only [Act.put, List.setIfInBounds_toArray, List.set_cons_zero, List.set_cons_succ]
          refine wpAnyH_take (i := 4) (oi := { dst := some 20, op := _, type := _, pos := _, after := _, guard := _ }) (v := .agg pred.cells.toArray) rfl (by kernel_rfl) (by kernel_rfl) (by kernel_rfl) (fun _ _ _ h => h) (yieldsIf_load_mid (by rfl) 67 (.tmp 4) rfl w.heap.size 0 rfl _ _ (fun W hW => hW.1.p) Yba.underlying67 rfl (by rw [sz67, hp.cells])) SA.out ?_
          simp only [Act.put, List.setIfInBounds_toArray, List.set_cons_zero, List.set_cons_succ]
          refine wpAnyH_take (i := 5) (oi := { dst := some 21, op := _, type := _, pos := _, after := _, guard := _ }) (v := .agg own.cells.toArray) rfl (by kernel_rfl) (by kernel_rfl) (by kernel_rfl) (fun _ _ _ h => h) (yieldsIf_load_mid (by rfl) 67 (.tmp 7) rfl g7 0 rfl _ _ (fun W hW => hW.2.1) Yba.underlying67 rfl (by rw [sz67, ho.cells])) SA.out ?_
          simp only [Act.put, List.setIfInBounds_toArray, List.set_cons_zero, List.set_cons_succ]
          refine wpAnyH_take (i := 6) (oi := { dst := some 22, op := _, type := _, pos := _, after := _, guard := _ }) (v := .bool true) rfl (by kernel_rfl) (by kernel_rfl) (by kernel_rfl) (fun _ _ _ h => h) (Or.inl ⟨by rfl, fun W hW => (heq) ▸ exec_eql67 (x := .tmp 20) (y := .tmp 21) rfl rfl rfl hp ho W⟩) SA.out ?_
          simp only [Act.put, List.setIfInBounds_toArray, List.set_cons_zero, List.set_cons_succ]
          refine wpAnyH_take (i := 7) (oi := { dst := some 23, op := _, type := _, pos := _, after := _, guard := _ }) (v := .bool true) rfl (by kernel_rfl) (by kernel_rfl) (by kernel_rfl) (fun _ _ _ h => h) (Or.inl ⟨by rfl, fun W hW => by clear hW; go_simp⟩) SA.out ?_
          simp only [Act.put, List.setIfInBounds_toArray, List.set_cons_zero, List.set_cons_succ]
          refine wpAnyH_take (i := 8) (oi := { dst := some 24, op := _, type := _, pos := _, after := _, guard := _ }) (v := undef) rfl (by kernel_rfl) (by kernel_rfl) (by kernel_rfl) (fun _ _ _ h => h) (Or.inr ⟨by rfl, rfl⟩) SA.out ?_
          simp only [Act.put, List.setIfInBounds_toArray, List.set_cons_zero, List.set_cons_succ]
          refine wpAnyH_take (i := 9) (oi := { dst := some 25, op := _, type := _, pos := _, after := _, guard := _ }) (v := undef) rfl (by kernel_rfl) (by kernel_rfl) (by kernel_rfl) (fun _ _ _ h => h) (Or.inr ⟨by rfl, rfl⟩) SA.out ?_
          simp only [Act.put, List.setIfInBounds_toArray, List.set_cons_zero, List.set_cons_succ]
          refine wpAnyH_take (i := 10) (oi := { dst := some 26, op := _, type := _, pos := _, after := _, guard := _ }) (v := undef) rfl (by kernel_rfl) (by kernel_rfl) (by kernel_rfl) (fun _ _ _ h => h) (Or.inr ⟨by rfl, rfl⟩) SA.out ?_
          simp only [Act.put, List.setIfInBounds_toArray, List.set_cons_zero, List.set_cons_succ]
          refine wpAnyH_take (i := 11) (oi := { dst := some 27, op := _, type := _, pos := _, after := _, guard := _ }) (v := undef) rfl (by kernel_rfl) (by kernel_rfl) (by kernel_rfl) (fun _ _ _ h => h) (Or.inr ⟨by rfl, rfl⟩) SA.out ?_
          simp only [Act.put, List.setIfInBounds_toArray, List.set_cons_zero, List.set_cons_succ]
          refine wpAnyH_take (i := 12) (oi := { dst := some 28, op := _, type := _, pos := _, after := _, guard := _ }) (v := undef) rfl (by kernel_rfl) (by kernel_rfl) (by kernel_rfl) (fun _ _ _ h => h) (Or.inr ⟨by rfl, rfl⟩) SA.out ?_
          simp only [Act.put, List.setIfInBounds_toArray, List.set_cons_zero, List.set_cons_succ]
          refine wpAnyH_take (i := 13) (oi := { dst := some 29, op := _, type := _, pos := _, after := _, guard := _ }) (v := undef) rfl (by kernel_rfl) (by kernel_rfl) (by kernel_rfl) (fun _ _ _ h => h) (Or.inr ⟨by rfl, rfl⟩) SA.out ?_
          simp only [Act.put, List.setIfInBounds_toArray, List.set_cons_zero, List.set_cons_succ]
          refine wpAnyH_take (i := 14) (oi := { dst := some 30, op := _, type := _, pos := _, after := _, guard := _ }) (v := undef) rfl (by kernel_rfl) (by kernel_rfl) (by kernel_rfl) (fun _ _ _ h => h) (Or.inr ⟨by rfl, rfl⟩) SA.out ?_
          simp only [Act.put, List.setIfInBounds_toArray, List.set_cons_zero, List.set_cons_succ]
          refine wpAnyH_take (i := 15) (oi := { dst := some 31, op := _, type := _, pos := _, after := _, guard := _ }) (v := undef) rfl (by kernel_rfl) (by kernel_rfl) (by kernel_rfl) (fun _ _ _ h => h) (Or.inr ⟨by rfl, rfl⟩) SA.out ?_
          simp only [Act.put, List.setIfInBounds_toArray, List.set_cons_zero, List.set_cons_succ]
          refine wpAnyH_take (i := 16) (oi := { dst := some 32, op := _, type := _, pos := _, after := _, guard := _ }) (v := undef) rfl (by kernel_rfl) (by kernel_rfl) (by kernel_rfl) (fun _ _ _ h => h) (Or.inr ⟨by rfl, rfl⟩) SA.out ?_
          simp only [Act.put, List.setIfInBounds_toArray, List.set_cons_zero, List.set_cons_succ]
          refine wpAnyH_ready (rs := [17]) (by kernel_rfl) (by simp) ?_
          refine AllReadyH.cons rfl (fun K hK => ?_) AllReadyH.nil
          refine ite_skip (fun h0 => Bool.false_ne_true h0) ?_
          go_simp
          refine hK.out _ _ SA.out (fun _ => ?_)
          clear hK K
          refine wpAnyH_take (i := 18) (oi := { dst := some 34, op := _, type := _, pos := _, after := _, guard := _ }) (v := .bool true) rfl (by kernel_rfl) (by kernel_rfl) (by kernel_rfl) (fun _ _ _ h => h) (Or.inl ⟨by rfl, fun W hW => by clear hW; go_simp⟩) SA.out ?_
          simp only [Act.put, List.setIfInBounds_toArray, List.set_cons_zero, List.set_cons_succ]
          refine wpAnyH_take (i := 19) (oi := { dst := some 35, op := _, type := _, pos := _, after := _, guard := _ }) (v := .bool true) rfl (by kernel_rfl) (by kernel_rfl) (by kernel_rfl) (fun _ _ _ h => h) (Or.inl ⟨by rfl, fun W hW => by clear hW; go_simp⟩) SA.out ?_
          simp only [Act.put, List.setIfInBounds_toArray, List.set_cons_zero, List.set_cons_succ]
          refine wpAnyH_take (i := 20) (oi := { dst := some 9, op := _, type := _, pos := _, after := _, guard := _ }) (v := .bool true) rfl (by kernel_rfl) (by kernel_rfl) (by kernel_rfl) (fun _ _ _ h => h) (Or.inl ⟨by rfl, fun W hW => by clear hW; go_simp⟩) SA.out ?_
          simp only [Act.put, List.setIfInBounds_toArray, List.set_cons_zero, List.set_cons_succ]
          refine wpAnyH_done (by kernel_rfl) ?_ _
          refine NoPanic.normal ?_
          go_wp2_with fail
          go_meet
          case rel => exact ⟨by unfold reachP; rw [hz, heq]; simp, SA.out⟩
      · have hn : (!eqP pred zeroP) = false := by rw [hz]; rfl
        have SA : Hid (TB2 w gr me own rs tv pred st g7 wc.drew) := ⟨⟨T1.out.1.rng, T1.out.1.p, T1.out.1.s, T1.out.1.r, T1.out.1.bel.drew, T1.out.1.sz⟩, T1.out.2.1, T1.out.2.2⟩
        refine wp_region_noPanic ?_
        refine wp_region_held_drew (S := TB2 w gr me own rs tv pred st g7) (by kernel_rfl) SA.out (fun _ => ?_)
        refine wpAnyH_take (i := 0) (oi := { dst := some 16, op := _, type := _, pos := _, after := _, guard := _ }) (v := .agg pred.cells.toArray) rfl (by kernel_rfl) (by kernel_rfl) (by kernel_rfl) (fun _ _ _ h => h) (yieldsIf_load_mid (by rfl) 67 (.tmp 4) rfl w.heap.size 0 rfl _ _ (fun W hW => hW.1.p) Yba.underlying67 rfl (by rw [sz67, hp.cells])) SA.out ?_
        simp only [Act.put, List.setIfInBounds_toArray, List.set_cons_zero, List.set_cons_succ]
        refine wpAnyH_take (i := 1) (oi := { dst := some 17, op := _, type := _, pos := _, after := _, guard := _ }) (v := .agg zeroP.cells.toArray) rfl (by kernel_rfl) (by kernel_rfl) (by kernel_rfl) (fun _ _ _ h => h) (Or.inl ⟨by rfl, fun W hW => exec_build0 rfl W⟩) SA.out ?_
        simp only [Act.put, List.setIfInBounds_toArray, List.set_cons_zero, List.set_cons_succ]
        refine wpAnyH_take (i := 2) (oi := { dst := some 18, op := _, type := _, pos := _, after := _, guard := _ }) (v := .bool false) rfl (by kernel_rfl) (by kernel_rfl) (by kernel_rfl) (fun _ _ _ h => h) (Or.inl ⟨by rfl, fun W hW => (hn) ▸ exec_neq67 (x := .tmp 16) (y := .tmp 17) rfl rfl rfl hp zeroP_ok W⟩) SA.out ?_
        simp only [Act.put, List.setIfInBounds_toArray, List.set_cons_zero, List.set_cons_succ]
        refine wpAnyH_take (i := 3) (oi := { dst := some 19, op := _, type := _, pos := _, after := _, guard := _ }) (v := .bool false) rfl (by kernel_rfl) (by kernel_rfl) (by kernel_rfl) (fun _ _ _ h => h) (Or.inl ⟨by rfl, fun W hW => by clear hW; go_simp⟩) SA.out ?_
        simp only [Act.put, List.setIfInBounds_toArray, List.set_cons_zero, List.set_cons_succ]
        refine wpAnyH_take (i := 4) (oi := { dst := some 20, op := _, type := _, pos := _, after := _, guard := _ }) (v := undef) rfl (by kernel_rfl) (by kernel_rfl) (by kernel_rfl) (fun _ _ _ h => h) (Or.inr ⟨by rfl, rfl⟩) SA.out ?_
        simp only [Act.put, List.setIfInBounds_toArray, List.set_cons_zero, List.set_cons_succ]
        refine wpAnyH_take (i := 5) (oi := { dst := some 21, op := _, type := _, pos := _, after := _, guard := _ }) (v := undef) rfl (by kernel_rfl) (by kernel_rfl) (by kernel_rfl) (fun _ _ _ h => h) (Or.inr ⟨by rfl, rfl⟩) SA.out ?_
        simp only [Act.put, List.setIfInBounds_toArray, List.set_cons_zero, List.set_cons_succ]
        refine wpAnyH_take (i := 6) (oi := { dst := some 22, op := _, type := _, pos := _, after := _, guard := _ }) (v := undef) rfl (by kernel_rfl) (by kernel_rfl) (by kernel_rfl) (fun _ _ _ h => h) (Or.inr ⟨by rfl, rfl⟩) SA.out ?_
        simp only [Act.put, List.setIfInBounds_toArray, List.set_cons_zero, List.set_cons_succ]
        refine wpAnyH_take (i := 7) (oi := { dst := some 23, op := _, type := _, pos := _, after := _, guard := _ }) (v := undef) rfl (by kernel_rfl) (by kernel_rfl) (by kernel_rfl) (fun _ _ _ h => h) (Or.inr ⟨by rfl, rfl⟩) SA.out ?_
        simp only [Act.put, List.setIfInBounds_toArray, List.set_cons_zero, List.set_cons_succ]
        refine wpAnyH_take (i := 8) (oi := { dst := some 24, op := _, type := _, pos := _, after := _, guard := _ }) (v := undef) rfl (by kernel_rfl) (by kernel_rfl) (by kernel_rfl) (fun _ _ _ h => h) (Or.inr ⟨by rfl, rfl⟩) SA.out ?_
        simp only [Act.put, List.setIfInBounds_toArray, List.set_cons_zero, List.set_cons_succ]
        refine wpAnyH_take (i := 9) (oi := { dst := some 25, op := _, type := _, pos := _, after := _, guard := _ }) (v := undef) rfl (by kernel_rfl) (by kernel_rfl) (by kernel_rfl) (fun _ _ _ h => h) (Or.inr ⟨by rfl, rfl⟩) SA.out ?_
        simp only [Act.put, List.setIfInBounds_toArray, List.set_cons_zero, List.set_cons_succ]
        refine wpAnyH_take (i := 10) (oi := { dst := some 26, op := _, type := _, pos := _, after := _, guard := _ }) (v := undef) rfl (by kernel_rfl) (by kernel_rfl) (by kernel_rfl) (fun _ _ _ h => h) (Or.inr ⟨by rfl, rfl⟩) SA.out ?_
        simp only [Act.put, List.setIfInBounds_toArray, List.set_cons_zero, List.set_cons_succ]
        refine wpAnyH_take (i := 11) (oi := { dst := some 27, op := _, type := _, pos := _, after := _, guard := _ }) (v := undef) rfl (by kernel_rfl) (by kernel_rfl) (by kernel_rfl) (fun _ _ _ h => h) (Or.inr ⟨by rfl, rfl⟩) SA.out ?_
        simp only [Act.put, List.setIfInBounds_toArray, List.set_cons_zero, List.set_cons_succ]
        refine wpAnyH_take (i := 12) (oi := { dst := some 28, op := _, type := _, pos := _, after := _, guard := _ }) (v := undef) rfl (by kernel_rfl) (by kernel_rfl) (by kernel_rfl) (fun _ _ _ h => h) (Or.inr ⟨by rfl, rfl⟩) SA.out ?_
        simp only [Act.put, List.setIfInBounds_toArray, List.set_cons_zero, List.set_cons_succ]
        refine wpAnyH_take (i := 13) (oi := { dst := some 29, op := _, type := _, pos := _, after := _, guard := _ }) (v := undef) rfl (by kernel_rfl) (by kernel_rfl) (by kernel_rfl) (fun _ _ _ h => h) (Or.inr ⟨by rfl, rfl⟩) SA.out ?_
        simp only [Act.put, List.setIfInBounds_toArray, List.set_cons_zero, List.set_cons_succ]
        refine wpAnyH_take (i := 14) (oi := { dst := some 30, op := _, type := _, pos := _, after := _, guard := _ }) (v := undef) rfl (by kernel_rfl) (by kernel_rfl) (by kernel_rfl) (fun _ _ _ h => h) (Or.inr ⟨by rfl, rfl⟩) SA.out ?_
        simp only [Act.put, List.setIfInBounds_toArray, List.set_cons_zero, List.set_cons_succ]
        refine wpAnyH_take (i := 15) (oi := { dst := some 31, op := _, type := _, pos := _, after := _, guard := _ }) (v := undef) rfl (by kernel_rfl) (by kernel_rfl) (by kernel_rfl) (fun _ _ _ h => h) (Or.inr ⟨by rfl, rfl⟩) SA.out ?_
        simp only [Act.put, List.setIfInBounds_toArray, List.set_cons_zero, List.set_cons_succ]
        refine wpAnyH_take (i := 16) (oi := { dst := some 32, op := _, type := _, pos := _, after := _, guard := _ }) (v := undef) rfl (by kernel_rfl) (by kernel_rfl) (by kernel_rfl) (fun _ _ _ h => h) (Or.inr ⟨by rfl, rfl⟩) SA.out ?_
        simp only [Act.put, List.setIfInBounds_toArray, List.set_cons_zero, List.set_cons_succ]
        refine wpAnyH_ready (rs := [17]) (by kernel_rfl) (by simp) ?_
        refine AllReadyH.cons rfl (fun K hK => ?_) AllReadyH.nil
        refine ite_skip (fun h0 => Bool.false_ne_true h0) ?_
        go_simp
        refine hK.out _ _ SA.out (fun _ => ?_)
        clear hK K
        refine wpAnyH_take (i := 18) (oi := { dst := some 34, op := _, type := _, pos := _, after := _, guard := _ }) (v := undef) rfl (by kernel_rfl) (by kernel_rfl) (by kernel_rfl) (fun _ _ _ h => h) (Or.inr ⟨by rfl, rfl⟩) SA.out ?_
        simp only [Act.put, List.setIfInBounds_toArray, List.set_cons_zero, List.set_cons_succ]
        refine wpAnyH_take (i := 19) (oi := { dst := some 35, op := _, type := _, pos := _, after := _, guard := _ }) (v := .bool false) rfl (by kernel_rfl) (by kernel_rfl) (by kernel_rfl) (fun _ _ _ h => h) (Or.inl ⟨by rfl, fun W hW => by clear hW; go_simp⟩) SA.out ?_
        simp only [Act.put, List.setIfInBounds_toArray, List.set_cons_zero, List.set_cons_succ]
        refine wpAnyH_take (i := 20) (oi := { dst := some 9, op := _, type := _, pos := _, after := _, guard := _ }) (v := .bool false) rfl (by kernel_rfl) (by kernel_rfl) (by kernel_rfl) (fun _ _ _ h => h) (Or.inl ⟨by rfl, fun W hW => by clear hW; go_simp⟩) SA.out ?_
        simp only [Act.put, List.setIfInBounds_toArray, List.set_cons_zero, List.set_cons_succ]
        refine wpAnyH_done (by kernel_rfl) ?_ _
        refine NoPanic.normal ?_
        go_wp2_with fail
        go_meet
        case rel => exact ⟨by unfold reachP; rw [hz]; simp, SA.out⟩
    case rest =>
      obtain ⟨rfl, hT⟩ := hcut
      have T2 : Hid (TB2 w gr me own rs tv pred st g7 wc) := hT
      clear hT T1
      go_wp2_with fail
      have SA : Hid (TB2 w gr me own rs tv pred st g7 wc.drew) := ⟨⟨T2.out.1.rng, T2.out.1.p, T2.out.1.s, T2.out.1.r, T2.out.1.bel.drew, T2.out.1.sz⟩, T2.out.2.1, T2.out.2.2⟩
      cases hrc : reachP me own pred
      · refine wp_region_noPanic ?_
        refine wp_region_held_drew (S := TB2 w gr me own rs tv pred st g7) (by kernel_rfl) SA.out (fun _ => ?_)
        refine wpAnyH_take (i := 0) (oi := { dst := some 36, op := _, type := _, pos := _, after := _, guard := _ }) (v := .agg pred.cells.toArray) rfl (by kernel_rfl) (by kernel_rfl) (by kernel_rfl) (fun _ _ _ h => h) (yieldsIf_load_mid (by rfl) 67 (.tmp 4) rfl w.heap.size 0 rfl _ _ (fun W hW => hW.1.p) Yba.underlying67 rfl (by rw [sz67, hp.cells])) SA.out ?_
        simp only [Act.put, List.setIfInBounds_toArray, List.set_cons_zero, List.set_cons_succ]
        refine wpAnyH_take (i := 1) (oi := { dst := some 37, op := _, type := _, pos := _, after := _, guard := _ }) (v := .agg own.cells.toArray) rfl (by kernel_rfl) (by kernel_rfl) (by kernel_rfl) (fun _ _ _ h => h) (yieldsIf_load_mid (by rfl) 67 (.tmp 7) rfl g7 0 rfl _ _ (fun W hW => hW.2.1) Yba.underlying67 rfl (by rw [sz67, ho.cells])) SA.out ?_
        simp only [Act.put, List.setIfInBounds_toArray, List.set_cons_zero, List.set_cons_succ]
        refine wpAnyH_take (i := 2) (oi := { dst := some 38, op := _, type := _, pos := _, after := _, guard := _ }) (v := .bool false) rfl (by kernel_rfl) (by kernel_rfl) (by kernel_rfl) (fun _ _ _ h => h) (Or.inl ⟨by rfl, fun W hW => by clear hW; go_simp⟩) SA.out ?_
        simp only [Act.put, List.setIfInBounds_toArray, List.set_cons_zero, List.set_cons_succ]
        refine wpAnyH_take (i := 3) (oi := { dst := some 39, op := _, type := _, pos := _, after := _, guard := _ }) (v := .bool false) rfl (by kernel_rfl) (by kernel_rfl) (by kernel_rfl) (fun _ _ _ h => h) (Or.inl ⟨by rfl, fun W hW => by clear hW; go_simp⟩) SA.out ?_
        simp only [Act.put, List.setIfInBounds_toArray, List.set_cons_zero, List.set_cons_succ]
        refine wpAnyH_take (i := 4) (oi := { dst := some 40, op := _, type := _, pos := _, after := _, guard := _ }) (v := undef) rfl (by kernel_rfl) (by kernel_rfl) (by kernel_rfl) (fun _ _ _ h => h) (Or.inr ⟨by rfl, rfl⟩) SA.out ?_
        simp only [Act.put, List.setIfInBounds_toArray, List.set_cons_zero, List.set_cons_succ]
        refine wpAnyH_take (i := 5) (oi := { dst := some 41, op := _, type := _, pos := _, after := _, guard := _ }) (v := undef) rfl (by kernel_rfl) (by kernel_rfl) (by kernel_rfl) (fun _ _ _ h => h) (Or.inr ⟨by rfl, rfl⟩) SA.out ?_
        simp only [Act.put, List.setIfInBounds_toArray, List.set_cons_zero, List.set_cons_succ]
        refine wpAnyH_take (i := 6) (oi := { dst := some 42, op := _, type := _, pos := _, after := _, guard := _ }) (v := undef) rfl (by kernel_rfl) (by kernel_rfl) (by kernel_rfl) (fun _ _ _ h => h) (Or.inr ⟨by rfl, rfl⟩) SA.out ?_
        simp only [Act.put, List.setIfInBounds_toArray, List.set_cons_zero, List.set_cons_succ]
        refine wpAnyH_take (i := 7) (oi := { dst := some 43, op := _, type := _, pos := _, after := _, guard := _ }) (v := .bool false) rfl (by kernel_rfl) (by kernel_rfl) (by kernel_rfl) (fun _ _ _ h => h) (Or.inl ⟨by rfl, fun W hW => by clear hW; go_simp⟩) SA.out ?_
        simp only [Act.put, List.setIfInBounds_toArray, List.set_cons_zero, List.set_cons_succ]
        refine wpAnyH_take (i := 8) (oi := { dst := some 44, op := _, type := _, pos := _, after := _, guard := _ }) (v := .bool (aheadP me own rs)) rfl (by kernel_rfl) (by kernel_rfl) (by kernel_rfl) (fun _ _ _ h => h) (Or.inl ⟨by rfl, fun W hW => by clear hW; go_simp⟩) SA.out ?_
        simp only [Act.put, List.setIfInBounds_toArray, List.set_cons_zero, List.set_cons_succ]
        refine wpAnyH_take (i := 9) (oi := { dst := some 45, op := _, type := _, pos := _, after := _, guard := _ }) (v := .bool false) rfl (by kernel_rfl) (by kernel_rfl) (by kernel_rfl) (fun _ _ _ h => h) (Or.inl ⟨by rfl, fun W hW => by clear hW; go_simp⟩) SA.out ?_
        simp only [Act.put, List.setIfInBounds_toArray, List.set_cons_zero, List.set_cons_succ]
        refine wpAnyH_take (i := 10) (oi := { dst := some 46, op := _, type := _, pos := _, after := _, guard := _ }) (v := .bool false) rfl (by kernel_rfl) (by kernel_rfl) (by kernel_rfl) (fun _ _ _ h => h) (Or.inl ⟨by rfl, fun W hW => by clear hW; go_simp⟩) SA.out ?_
        simp only [Act.put, List.setIfInBounds_toArray, List.set_cons_zero, List.set_cons_succ]
        refine wpAnyH_take (i := 11) (oi := { dst := some 47, op := _, type := _, pos := _, after := _, guard := _ }) (v := undef) rfl (by kernel_rfl) (by kernel_rfl) (by kernel_rfl) (fun _ _ _ h => h) (Or.inr ⟨by rfl, rfl⟩) SA.out ?_
        simp only [Act.put, List.setIfInBounds_toArray, List.set_cons_zero, List.set_cons_succ]
        refine wpAnyH_take (i := 12) (oi := { dst := some 48, op := _, type := _, pos := _, after := _, guard := _ }) (v := undef) rfl (by kernel_rfl) (by kernel_rfl) (by kernel_rfl) (fun _ _ _ h => h) (Or.inr ⟨by rfl, rfl⟩) SA.out ?_
        simp only [Act.put, List.setIfInBounds_toArray, List.set_cons_zero, List.set_cons_succ]
        refine wpAnyH_take (i := 13) (oi := { dst := some 49, op := _, type := _, pos := _, after := _, guard := _ }) (v := undef) rfl (by kernel_rfl) (by kernel_rfl) (by kernel_rfl) (fun _ _ _ h => h) (Or.inr ⟨by rfl, rfl⟩) SA.out ?_
        simp only [Act.put, List.setIfInBounds_toArray, List.set_cons_zero, List.set_cons_succ]
        refine wpAnyH_take (i := 14) (oi := { dst := some 50, op := _, type := _, pos := _, after := _, guard := _ }) (v := .bool false) rfl (by kernel_rfl) (by kernel_rfl) (by kernel_rfl) (fun _ _ _ h => h) (Or.inl ⟨by rfl, fun W hW => by clear hW; go_simp⟩) SA.out ?_
        simp only [Act.put, List.setIfInBounds_toArray, List.set_cons_zero, List.set_cons_succ]
        refine wpAnyH_take (i := 15) (oi := { dst := some 51, op := _, type := _, pos := _, after := _, guard := _ }) (v := .bool false) rfl (by kernel_rfl) (by kernel_rfl) (by kernel_rfl) (fun _ _ _ h => h) (Or.inl ⟨by rfl, fun W hW => by clear hW; go_simp⟩) SA.out ?_
        simp only [Act.put, List.setIfInBounds_toArray, List.set_cons_zero, List.set_cons_succ]
        refine wpAnyH_take (i := 16) (oi := { dst := some 52, op := _, type := _, pos := _, after := _, guard := _ }) (v := undef) rfl (by kernel_rfl) (by kernel_rfl) (by kernel_rfl) (fun _ _ _ h => h) (Or.inr ⟨by rfl, rfl⟩) SA.out ?_
        simp only [Act.put, List.setIfInBounds_toArray, List.set_cons_zero, List.set_cons_succ]
        refine wpAnyH_take (i := 17) (oi := { dst := some 53, op := _, type := _, pos := _, after := _, guard := _ }) (v := .bool false) rfl (by kernel_rfl) (by kernel_rfl) (by kernel_rfl) (fun _ _ _ h => h) (Or.inl ⟨by rfl, fun W hW => by clear hW; go_simp⟩) SA.out ?_
        simp only [Act.put, List.setIfInBounds_toArray, List.set_cons_zero, List.set_cons_succ]
        refine wpAnyH_take (i := 18) (oi := { dst := some 54, op := _, type := _, pos := _, after := _, guard := _ }) (v := .agg (tbCells pred own false (aheadP me own rs) false).toArray) rfl (by kernel_rfl) (by kernel_rfl) (by kernel_rfl) (fun _ _ _ h => h) (Or.inl ⟨by rfl, fun W hW => exec_build5 rfl rfl rfl rfl rfl rfl hp ho W⟩) SA.out ?_
        simp only [Act.put, List.setIfInBounds_toArray, List.set_cons_zero, List.set_cons_succ]
        refine wpAnyH_ready (rs := [19]) (by kernel_rfl) (by simp) ?_
        refine AllReadyH.cons rfl (fun K hK => ?_) AllReadyH.nil
        obtain ⟨old, hold, hosz⟩ := SA.out.1.r
        refine step_store_row rfl 84 (.tmp 6) (.tmp 54) rfl (w.heap.size + 2) (tbCells pred own false (aheadP me own rs) false).toArray rfl rfl 84 old hold (by rw [sz84]; simp [len_tb hp ho]) (by simp [len_tb hp ho, hosz]) (all_oneCell_toArray (one_tb _ _ _ _ _)) ?_
        have HF : Hid ((wc.drew.setRow (w.heap.size + 2) (tbCells pred own false (aheadP me own rs) false).toArray).heap[w.heap.size + 2]? = some (.cells (tbCells pred own false (aheadP me own rs) false).toArray 84 (0, 0))) := setRow_heap _ _ _ _ _ _ hold
        have HBF : Hid (Below w.heap.size w (wc.drew.setRow (w.heap.size + 2) (tbCells pred own false (aheadP me own rs) false).toArray)) := below_row' SA.out.1.bel (by omega) _
        have SZ : Hid (TB2 w gr me own rs tv pred st g7 (wc.drew.setRow (w.heap.size + 2) (tbCells pred own false (aheadP me own rs) false).toArray)) := SA.out.setR hold HGR.out hg7 (by simp [len_tb hp ho])
        refine hK.out _ _ SZ.out (fun _ => ?_)
        clear hK K
        refine wpAnyH_done (by kernel_rfl) ?_ _
        refine NoPanic.normal ?_
        go_wp2_with fail
        refine bodyPost_ret (v := .agg (tbCells pred own false (aheadP me own rs) false).toArray) (results_cell_row rfl _ _ (w.heap.size + 2) 84 _ (0, 0) _ rfl HF.out Yba.underlying84 rfl (by rw [sz84]; simp [len_tb hp ho])) rfl ?_
        exact ⟨by unfold tbV; rw [hrc]; simp, HBF.out⟩
      · have hne : (!eqP pred own) = (!eqP pred own) := rfl
        cases hsz : eqP st zeroP
        · refine wp_region_noPanic ?_
          refine wp_region_held_drew (S := TB2 w gr me own rs tv pred st g7) (by kernel_rfl) SA.out (fun _ => ?_)
          refine wpAnyH_take (i := 0) (oi := { dst := some 36, op := _, type := _, pos := _, after := _, guard := _ }) (v := .agg pred.cells.toArray) rfl (by kernel_rfl) (by kernel_rfl) (by kernel_rfl) (fun _ _ _ h => h) (yieldsIf_load_mid (by rfl) 67 (.tmp 4) rfl w.heap.size 0 rfl _ _ (fun W hW => hW.1.p) Yba.underlying67 rfl (by rw [sz67, hp.cells])) SA.out ?_
          simp only [Act.put, List.setIfInBounds_toArray, List.set_cons_zero, List.set_cons_succ]
          refine wpAnyH_take (i := 1) (oi := { dst := some 37, op := _, type := _, pos := _, after := _, guard := _ }) (v := .agg own.cells.toArray) rfl (by kernel_rfl) (by kernel_rfl) (by kernel_rfl) (fun _ _ _ h => h) (yieldsIf_load_mid (by rfl) 67 (.tmp 7) rfl g7 0 rfl _ _ (fun W hW => hW.2.1) Yba.underlying67 rfl (by rw [sz67, ho.cells])) SA.out ?_
          simp only [Act.put, List.setIfInBounds_toArray, List.set_cons_zero, List.set_cons_succ]
          refine wpAnyH_take (i := 2) (oi := { dst := some 38, op := _, type := _, pos := _, after := _, guard := _ }) (v := .bool true) rfl (by kernel_rfl) (by kernel_rfl) (by kernel_rfl) (fun _ _ _ h => h) (Or.inl ⟨by rfl, fun W hW => by clear hW; go_simp⟩) SA.out ?_
          simp only [Act.put, List.setIfInBounds_toArray, List.set_cons_zero, List.set_cons_succ]
          refine wpAnyH_take (i := 3) (oi := { dst := some 39, op := _, type := _, pos := _, after := _, guard := _ }) (v := .bool true) rfl (by kernel_rfl) (by kernel_rfl) (by kernel_rfl) (fun _ _ _ h => h) (Or.inl ⟨by rfl, fun W hW => by clear hW; go_simp⟩) SA.out ?_
          simp only [Act.put, List.setIfInBounds_toArray, List.set_cons_zero, List.set_cons_succ]
          refine wpAnyH_take (i := 4) (oi := { dst := some 40, op := _, type := _, pos := _, after := _, guard := _ }) (v := .agg pred.cells.toArray) rfl (by kernel_rfl) (by kernel_rfl) (by kernel_rfl) (fun _ _ _ h => h) (yieldsIf_load_mid (by rfl) 67 (.tmp 4) rfl w.heap.size 0 rfl _ _ (fun W hW => hW.1.p) Yba.underlying67 rfl (by rw [sz67, hp.cells])) SA.out ?_
          simp only [Act.put, List.setIfInBounds_toArray, List.set_cons_zero, List.set_cons_succ]
          refine wpAnyH_take (i := 5) (oi := { dst := some 41, op := _, type := _, pos := _, after := _, guard := _ }) (v := .agg own.cells.toArray) rfl (by kernel_rfl) (by kernel_rfl) (by kernel_rfl) (fun _ _ _ h => h) (yieldsIf_load_mid (by rfl) 67 (.tmp 7) rfl g7 0 rfl _ _ (fun W hW => hW.2.1) Yba.underlying67 rfl (by rw [sz67, ho.cells])) SA.out ?_
          simp only [Act.put, List.setIfInBounds_toArray, List.set_cons_zero, List.set_cons_succ]
          refine wpAnyH_take (i := 6) (oi := { dst := some 42, op := _, type := _, pos := _, after := _, guard := _ }) (v := .bool (!eqP pred own)) rfl (by kernel_rfl) (by kernel_rfl) (by kernel_rfl) (fun _ _ _ h => h) (Or.inl ⟨by rfl, fun W hW => (hne) ▸ exec_neq67 (x := .tmp 40) (y := .tmp 41) rfl rfl rfl hp ho W⟩) SA.out ?_
          simp only [Act.put, List.setIfInBounds_toArray, List.set_cons_zero, List.set_cons_succ]
          refine wpAnyH_take (i := 7) (oi := { dst := some 43, op := _, type := _, pos := _, after := _, guard := _ }) (v := .bool (!eqP pred own)) rfl (by kernel_rfl) (by kernel_rfl) (by kernel_rfl) (fun _ _ _ h => h) (Or.inl ⟨by rfl, fun W hW => by clear hW; go_simp⟩) SA.out ?_
          simp only [Act.put, List.setIfInBounds_toArray, List.set_cons_zero, List.set_cons_succ]
          refine wpAnyH_take (i := 8) (oi := { dst := some 44, op := _, type := _, pos := _, after := _, guard := _ }) (v := .bool (aheadP me own rs)) rfl (by kernel_rfl) (by kernel_rfl) (by kernel_rfl) (fun _ _ _ h => h) (Or.inl ⟨by rfl, fun W hW => by clear hW; go_simp⟩) SA.out ?_
          simp only [Act.put, List.setIfInBounds_toArray, List.set_cons_zero, List.set_cons_succ]
          refine wpAnyH_take (i := 9) (oi := { dst := some 45, op := _, type := _, pos := _, after := _, guard := _ }) (v := .bool true) rfl (by kernel_rfl) (by kernel_rfl) (by kernel_rfl) (fun _ _ _ h => h) (Or.inl ⟨by rfl, fun W hW => by clear hW; go_simp⟩) SA.out ?_
          simp only [Act.put, List.setIfInBounds_toArray, List.set_cons_zero, List.set_cons_succ]
          refine wpAnyH_take (i := 10) (oi := { dst := some 46, op := _, type := _, pos := _, after := _, guard := _ }) (v := .bool true) rfl (by kernel_rfl) (by kernel_rfl) (by kernel_rfl) (fun _ _ _ h => h) (Or.inl ⟨by rfl, fun W hW => by clear hW; go_simp⟩) SA.out ?_
          simp only [Act.put, List.setIfInBounds_toArray, List.set_cons_zero, List.set_cons_succ]
          refine wpAnyH_take (i := 11) (oi := { dst := some 47, op := _, type := _, pos := _, after := _, guard := _ }) (v := .agg st.cells.toArray) rfl (by kernel_rfl) (by kernel_rfl) (by kernel_rfl) (fun _ _ _ h => h) (yieldsIf_load_mid (by rfl) 67 (.tmp 5) rfl (w.heap.size + 1) 0 rfl _ _ (fun W hW => hW.1.s) Yba.underlying67 rfl (by rw [sz67, hst.cells])) SA.out ?_
          simp only [Act.put, List.setIfInBounds_toArray, List.set_cons_zero, List.set_cons_succ]
          refine wpAnyH_take (i := 12) (oi := { dst := some 48, op := _, type := _, pos := _, after := _, guard := _ }) (v := .agg zeroP.cells.toArray) rfl (by kernel_rfl) (by kernel_rfl) (by kernel_rfl) (fun _ _ _ h => h) (Or.inl ⟨by rfl, fun W hW => exec_build0 rfl W⟩) SA.out ?_
          simp only [Act.put, List.setIfInBounds_toArray, List.set_cons_zero, List.set_cons_succ]
          refine wpAnyH_take (i := 13) (oi := { dst := some 49, op := _, type := _, pos := _, after := _, guard := _ }) (v := .bool false) rfl (by kernel_rfl) (by kernel_rfl) (by kernel_rfl) (fun _ _ _ h => h) (Or.inl ⟨by rfl, fun W hW => (hsz) ▸ exec_eql67 (x := .tmp 47) (y := .tmp 48) rfl rfl rfl hst zeroP_ok W⟩) SA.out ?_
          simp only [Act.put, List.setIfInBounds_toArray, List.set_cons_zero, List.set_cons_succ]
          refine wpAnyH_take (i := 14) (oi := { dst := some 50, op := _, type := _, pos := _, after := _, guard := _ }) (v := .bool false) rfl (by kernel_rfl) (by kernel_rfl) (by kernel_rfl) (fun _ _ _ h => h) (Or.inl ⟨by rfl, fun W hW => by clear hW; go_simp⟩) SA.out ?_
          simp only [Act.put, List.setIfInBounds_toArray, List.set_cons_zero, List.set_cons_succ]
          refine wpAnyH_take (i := 15) (oi := { dst := some 51, op := _, type := _, pos := _, after := _, guard := _ }) (v := .bool false) rfl (by kernel_rfl) (by kernel_rfl) (by kernel_rfl) (fun _ _ _ h => h) (Or.inl ⟨by rfl, fun W hW => by clear hW; go_simp⟩) SA.out ?_
          simp only [Act.put, List.setIfInBounds_toArray, List.set_cons_zero, List.set_cons_succ]
          refine wpAnyH_take (i := 16) (oi := { dst := some 52, op := _, type := _, pos := _, after := _, guard := _ }) (v := undef) rfl (by kernel_rfl) (by kernel_rfl) (by kernel_rfl) (fun _ _ _ h => h) (Or.inr ⟨by rfl, rfl⟩) SA.out ?_
          simp only [Act.put, List.setIfInBounds_toArray, List.set_cons_zero, List.set_cons_succ]
          refine wpAnyH_take (i := 17) (oi := { dst := some 53, op := _, type := _, pos := _, after := _, guard := _ }) (v := .bool false) rfl (by kernel_rfl) (by kernel_rfl) (by kernel_rfl) (fun _ _ _ h => h) (Or.inl ⟨by rfl, fun W hW => by clear hW; go_simp⟩) SA.out ?_
          simp only [Act.put, List.setIfInBounds_toArray, List.set_cons_zero, List.set_cons_succ]
          refine wpAnyH_take (i := 18) (oi := { dst := some 54, op := _, type := _, pos := _, after := _, guard := _ }) (v := .agg (tbCells pred own (!eqP pred own) (aheadP me own rs) false).toArray) rfl (by kernel_rfl) (by kernel_rfl) (by kernel_rfl) (fun _ _ _ h => h) (Or.inl ⟨by rfl, fun W hW => exec_build5 rfl rfl rfl rfl rfl rfl hp ho W⟩) SA.out ?_
          simp only [Act.put, List.setIfInBounds_toArray, List.set_cons_zero, List.set_cons_succ]
          refine wpAnyH_ready (rs := [19]) (by kernel_rfl) (by simp) ?_
          refine AllReadyH.cons rfl (fun K hK => ?_) AllReadyH.nil
          obtain ⟨old, hold, hosz⟩ := SA.out.1.r
          refine step_store_row rfl 84 (.tmp 6) (.tmp 54) rfl (w.heap.size + 2) (tbCells pred own (!eqP pred own) (aheadP me own rs) false).toArray rfl rfl 84 old hold (by rw [sz84]; simp [len_tb hp ho]) (by simp [len_tb hp ho, hosz]) (all_oneCell_toArray (one_tb _ _ _ _ _)) ?_
          have HF : Hid ((wc.drew.setRow (w.heap.size + 2) (tbCells pred own (!eqP pred own) (aheadP me own rs) false).toArray).heap[w.heap.size + 2]? = some (.cells (tbCells pred own (!eqP pred own) (aheadP me own rs) false).toArray 84 (0, 0))) := setRow_heap _ _ _ _ _ _ hold
          have HBF : Hid (Below w.heap.size w (wc.drew.setRow (w.heap.size + 2) (tbCells pred own (!eqP pred own) (aheadP me own rs) false).toArray)) := below_row' SA.out.1.bel (by omega) _
          have SZ : Hid (TB2 w gr me own rs tv pred st g7 (wc.drew.setRow (w.heap.size + 2) (tbCells pred own (!eqP pred own) (aheadP me own rs) false).toArray)) := SA.out.setR hold HGR.out hg7 (by simp [len_tb hp ho])
          refine hK.out _ _ SZ.out (fun _ => ?_)
          clear hK K
          refine wpAnyH_done (by kernel_rfl) ?_ _
          refine NoPanic.normal ?_
          go_wp2_with fail
          refine bodyPost_ret (v := .agg (tbCells pred own (!eqP pred own) (aheadP me own rs) false).toArray) (results_cell_row rfl _ _ (w.heap.size + 2) 84 _ (0, 0) _ rfl HF.out Yba.underlying84 rfl (by rw [sz84]; simp [len_tb hp ho])) rfl ?_
          exact ⟨by unfold tbV; rw [hrc, hsz]; simp, HBF.out⟩
        · refine wp_region_noPanic ?_
          refine wp_region_held_drew (S := TB2 w gr me own rs tv pred st g7) (by kernel_rfl) SA.out (fun _ => ?_)
          refine wpAnyH_take (i := 0) (oi := { dst := some 36, op := _, type := _, pos := _, after := _, guard := _ }) (v := .agg pred.cells.toArray) rfl (by kernel_rfl) (by kernel_rfl) (by kernel_rfl) (fun _ _ _ h => h) (yieldsIf_load_mid (by rfl) 67 (.tmp 4) rfl w.heap.size 0 rfl _ _ (fun W hW => hW.1.p) Yba.underlying67 rfl (by rw [sz67, hp.cells])) SA.out ?_
          simp only [Act.put, List.setIfInBounds_toArray, List.set_cons_zero, List.set_cons_succ]
          refine wpAnyH_take (i := 1) (oi := { dst := some 37, op := _, type := _, pos := _, after := _, guard := _ }) (v := .agg own.cells.toArray) rfl (by kernel_rfl) (by kernel_rfl) (by kernel_rfl) (fun _ _ _ h => h) (yieldsIf_load_mid (by rfl) 67 (.tmp 7) rfl g7 0 rfl _ _ (fun W hW => hW.2.1) Yba.underlying67 rfl (by rw [sz67, ho.cells])) SA.out ?_
          simp only [Act.put, List.setIfInBounds_toArray, List.set_cons_zero, List.set_cons_succ]
          refine wpAnyH_take (i := 2) (oi := { dst := some 38, op := _, type := _, pos := _, after := _, guard := _ }) (v := .bool true) rfl (by kernel_rfl) (by kernel_rfl) (by kernel_rfl) (fun _ _ _ h => h) (Or.inl ⟨by rfl, fun W hW => by clear hW; go_simp⟩) SA.out ?_
          simp only [Act.put, List.setIfInBounds_toArray, List.set_cons_zero, List.set_cons_succ]
          refine wpAnyH_take (i := 3) (oi := { dst := some 39, op := _, type := _, pos := _, after := _, guard := _ }) (v := .bool true) rfl (by kernel_rfl) (by kernel_rfl) (by kernel_rfl) (fun _ _ _ h => h) (Or.inl ⟨by rfl, fun W hW => by clear hW; go_simp⟩) SA.out ?_
          simp only [Act.put, List.setIfInBounds_toArray, List.set_cons_zero, List.set_cons_succ]
          refine wpAnyH_take (i := 4) (oi := { dst := some 40, op := _, type := _, pos := _, after := _, guard := _ }) (v := .agg pred.cells.toArray) rfl (by kernel_rfl) (by kernel_rfl) (by kernel_rfl) (fun _ _ _ h => h) (yieldsIf_load_mid (by rfl) 67 (.tmp 4) rfl w.heap.size 0 rfl _ _ (fun W hW => hW.1.p) Yba.underlying67 rfl (by rw [sz67, hp.cells])) SA.out ?_
          simp only [Act.put, List.setIfInBounds_toArray, List.set_cons_zero, List.set_cons_succ]
          refine wpAnyH_take (i := 5) (oi := { dst := some 41, op := _, type := _, pos := _, after := _, guard := _ }) (v := .agg own.cells.toArray) rfl (by kernel_rfl) (by kernel_rfl) (by kernel_rfl) (fun _ _ _ h => h) (yieldsIf_load_mid (by rfl) 67 (.tmp 7) rfl g7 0 rfl _ _ (fun W hW => hW.2.1) Yba.underlying67 rfl (by rw [sz67, ho.cells])) SA.out ?_
          simp only [Act.put, List.setIfInBounds_toArray, List.set_cons_zero, List.set_cons_succ]
          refine wpAnyH_take (i := 6) (oi := { dst := some 42, op := _, type := _, pos := _, after := _, guard := _ }) (v := .bool (!eqP pred own)) rfl (by kernel_rfl) (by kernel_rfl) (by kernel_rfl) (fun _ _ _ h => h) (Or.inl ⟨by rfl, fun W hW => (hne) ▸ exec_neq67 (x := .tmp 40) (y := .tmp 41) rfl rfl rfl hp ho W⟩) SA.out ?_
          simp only [Act.put, List.setIfInBounds_toArray, List.set_cons_zero, List.set_cons_succ]
          refine wpAnyH_take (i := 7) (oi := { dst := some 43, op := _, type := _, pos := _, after := _, guard := _ }) (v := .bool (!eqP pred own)) rfl (by kernel_rfl) (by kernel_rfl) (by kernel_rfl) (fun _ _ _ h => h) (Or.inl ⟨by rfl, fun W hW => by clear hW; go_simp⟩) SA.out ?_
          simp only [Act.put, List.setIfInBounds_toArray, List.set_cons_zero, List.set_cons_succ]
          refine wpAnyH_take (i := 8) (oi := { dst := some 44, op := _, type := _, pos := _, after := _, guard := _ }) (v := .bool (aheadP me own rs)) rfl (by kernel_rfl) (by kernel_rfl) (by kernel_rfl) (fun _ _ _ h => h) (Or.inl ⟨by rfl, fun W hW => by clear hW; go_simp⟩) SA.out ?_
          simp only [Act.put, List.setIfInBounds_toArray, List.set_cons_zero, List.set_cons_succ]
          refine wpAnyH_take (i := 9) (oi := { dst := some 45, op := _, type := _, pos := _, after := _, guard := _ }) (v := .bool true) rfl (by kernel_rfl) (by kernel_rfl) (by kernel_rfl) (fun _ _ _ h => h) (Or.inl ⟨by rfl, fun W hW => by clear hW; go_simp⟩) SA.out ?_
          simp only [Act.put, List.setIfInBounds_toArray, List.set_cons_zero, List.set_cons_succ]
          refine wpAnyH_take (i := 10) (oi := { dst := some 46, op := _, type := _, pos := _, after := _, guard := _ }) (v := .bool true) rfl (by kernel_rfl) (by kernel_rfl) (by kernel_rfl) (fun _ _ _ h => h) (Or.inl ⟨by rfl, fun W hW => by clear hW; go_simp⟩) SA.out ?_
          simp only [Act.put, List.setIfInBounds_toArray, List.set_cons_zero, List.set_cons_succ]
          refine wpAnyH_take (i := 11) (oi := { dst := some 47, op := _, type := _, pos := _, after := _, guard := _ }) (v := .agg st.cells.toArray) rfl (by kernel_rfl) (by kernel_rfl) (by kernel_rfl) (fun _ _ _ h => h) (yieldsIf_load_mid (by rfl) 67 (.tmp 5) rfl (w.heap.size + 1) 0 rfl _ _ (fun W hW => hW.1.s) Yba.underlying67 rfl (by rw [sz67, hst.cells])) SA.out ?_
          simp only [Act.put, List.setIfInBounds_toArray, List.set_cons_zero, List.set_cons_succ]
          refine wpAnyH_take (i := 12) (oi := { dst := some 48, op := _, type := _, pos := _, after := _, guard := _ }) (v := .agg zeroP.cells.toArray) rfl (by kernel_rfl) (by kernel_rfl) (by kernel_rfl) (fun _ _ _ h => h) (Or.inl ⟨by rfl, fun W hW => exec_build0 rfl W⟩) SA.out ?_
          simp only [Act.put, List.setIfInBounds_toArray, List.set_cons_zero, List.set_cons_succ]
          refine wpAnyH_take (i := 13) (oi := { dst := some 49, op := _, type := _, pos := _, after := _, guard := _ }) (v := .bool true) rfl (by kernel_rfl) (by kernel_rfl) (by kernel_rfl) (fun _ _ _ h => h) (Or.inl ⟨by rfl, fun W hW => (hsz) ▸ exec_eql67 (x := .tmp 47) (y := .tmp 48) rfl rfl rfl hst zeroP_ok W⟩) SA.out ?_
          simp only [Act.put, List.setIfInBounds_toArray, List.set_cons_zero, List.set_cons_succ]
          refine wpAnyH_take (i := 14) (oi := { dst := some 50, op := _, type := _, pos := _, after := _, guard := _ }) (v := .bool true) rfl (by kernel_rfl) (by kernel_rfl) (by kernel_rfl) (fun _ _ _ h => h) (Or.inl ⟨by rfl, fun W hW => by clear hW; go_simp⟩) SA.out ?_
          simp only [Act.put, List.setIfInBounds_toArray, List.set_cons_zero, List.set_cons_succ]
          refine wpAnyH_take (i := 15) (oi := { dst := some 51, op := _, type := _, pos := _, after := _, guard := _ }) (v := .bool true) rfl (by kernel_rfl) (by kernel_rfl) (by kernel_rfl) (fun _ _ _ h => h) (Or.inl ⟨by rfl, fun W hW => by clear hW; go_simp⟩) SA.out ?_
          simp only [Act.put, List.setIfInBounds_toArray, List.set_cons_zero, List.set_cons_succ]
          refine wpAnyH_take (i := 16) (oi := { dst := some 52, op := _, type := _, pos := _, after := _, guard := _ }) (v := .bool (aheadP me own rs)) rfl (by kernel_rfl) (by kernel_rfl) (by kernel_rfl) (fun _ _ _ h => h) (Or.inl ⟨by rfl, fun W hW => by clear hW; go_simp⟩) SA.out ?_
          simp only [Act.put, List.setIfInBounds_toArray, List.set_cons_zero, List.set_cons_succ]
          refine wpAnyH_take (i := 17) (oi := { dst := some 53, op := _, type := _, pos := _, after := _, guard := _ }) (v := .bool (aheadP me own rs)) rfl (by kernel_rfl) (by kernel_rfl) (by kernel_rfl) (fun _ _ _ h => h) (Or.inl ⟨by rfl, fun W hW => by clear hW; go_simp⟩) SA.out ?_
          simp only [Act.put, List.setIfInBounds_toArray, List.set_cons_zero, List.set_cons_succ]
          refine wpAnyH_take (i := 18) (oi := { dst := some 54, op := _, type := _, pos := _, after := _, guard := _ }) (v := .agg (tbCells pred own (!eqP pred own) (aheadP me own rs) (aheadP me own rs)).toArray) rfl (by kernel_rfl) (by kernel_rfl) (by kernel_rfl) (fun _ _ _ h => h) (Or.inl ⟨by rfl, fun W hW => exec_build5 rfl rfl rfl rfl rfl rfl hp ho W⟩) SA.out ?_
          simp only [Act.put, List.setIfInBounds_toArray, List.set_cons_zero, List.set_cons_succ]
          refine wpAnyH_ready (rs := [19]) (by kernel_rfl) (by simp) ?_
          refine AllReadyH.cons rfl (fun K hK => ?_) AllReadyH.nil
          obtain ⟨old, hold, hosz⟩ := SA.out.1.r
          refine step_store_row rfl 84 (.tmp 6) (.tmp 54) rfl (w.heap.size + 2) (tbCells pred own (!eqP pred own) (aheadP me own rs) (aheadP me own rs)).toArray rfl rfl 84 old hold (by rw [sz84]; simp [len_tb hp ho]) (by simp [len_tb hp ho, hosz]) (all_oneCell_toArray (one_tb _ _ _ _ _)) ?_
          have HF : Hid ((wc.drew.setRow (w.heap.size + 2) (tbCells pred own (!eqP pred own) (aheadP me own rs) (aheadP me own rs)).toArray).heap[w.heap.size + 2]? = some (.cells (tbCells pred own (!eqP pred own) (aheadP me own rs) (aheadP me own rs)).toArray 84 (0, 0))) := setRow_heap _ _ _ _ _ _ hold
          have HBF : Hid (Below w.heap.size w (wc.drew.setRow (w.heap.size + 2) (tbCells pred own (!eqP pred own) (aheadP me own rs) (aheadP me own rs)).toArray)) := below_row' SA.out.1.bel (by omega) _
          have SZ : Hid (TB2 w gr me own rs tv pred st g7 (wc.drew.setRow (w.heap.size + 2) (tbCells pred own (!eqP pred own) (aheadP me own rs) (aheadP me own rs)).toArray)) := SA.out.setR hold HGR.out hg7 (by simp [len_tb hp ho])
          refine hK.out _ _ SZ.out (fun _ => ?_)
          clear hK K
          refine wpAnyH_done (by kernel_rfl) ?_ _
          refine NoPanic.normal ?_
          go_wp2_with fail
          refine bodyPost_ret (v := .agg (tbCells pred own (!eqP pred own) (aheadP me own rs) (aheadP me own rs)).toArray) (results_cell_row rfl _ _ (w.heap.size + 2) 84 _ (0, 0) _ rfl HF.out Yba.underlying84 rfl (by rw [sz84]; simp [len_tb hp ho])) rfl ?_
          exact ⟨by unfold tbV; rw [hrc, hsz]; simp, HBF.out⟩
end Go.Proofs.Ybulkdfgw
