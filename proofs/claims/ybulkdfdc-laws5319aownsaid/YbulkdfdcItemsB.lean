import Derived.Test.YbulkdfdcItemsOf
namespace Go.Proofs.Ybulkdfdc
open Go.ChangeShapes Go.WideShapes Go.ChangeAt Go.RowKit Go.MuLone
set_option linter.unusedVariables false
set_option linter.unusedSimpArgs false

/-- THE SITUATION behind the law's set-up: the node, the store, the map, the rows of the eight keys. -/
structure Sit (B : Nat) (W : World) (gn gs gm N : Nat) (V : Nat → Value) (I : Nat → List It) : Prop where
  node : ∃ nc : Array Value, W.heap[gn]? = some (.cells nc 86 (0, 0)) ∧ nc[26]? = some (.pointer (some ⟨gs, 0, none⟩)) ∧ ∀ (j : Nat) u, (idCells 9)[j]? = some u → nc[j]? = some u
  st : ∃ sc : Array Value, W.heap[gs]? = some (.cells sc 64 (0, 0)) ∧ sc[1]? = some (.int .i32 0) ∧ sc[3]? = some (.map (some gm))
  map : MapS W gm N V
  own : ∀ c, c < 8 → W.ownsRow B 34 24 (V c) (I c).length (itsV (I c))
  len : ∀ c, c < 8 → (I c).length ≤ 1024
  small : ∀ c, c < 8 → ∀ x ∈ I c, x.kn ≤ 32 ∧ x.vn ≤ 32

theorem below_grown {W w : World} (h : Below W.heap.size W w) : W.grownBy w none := ⟨h.os, h.tape, h.output, h.size, fun k hk _ => h.block k hk⟩
theorem grown_below {W w : World} (h : W.grownBy w none) : Below W.heap.size W w := ⟨h.os, h.tape, h.output, h.size, fun k hk => h.block k hk (by simp)⟩

theorem own_mono {w : World} {B B' : Nat} {e : TypeId} {size : Nat} {v : Value} {n : Nat} {xs : List Value} (h : w.ownsRow B e size v n xs) (hb : B' ≤ B) : w.ownsRow B' e size v n xs :=
  ⟨h.1, or_map h.2 id (fun ⟨g, cap, cur, h0, h1, r⟩ => ⟨g, cap, cur, h0, Nat.le_trans hb h1, r⟩)⟩

theorem MapS.block {w : World} {g N : Nat} {V : Nat → Value} (h : MapS w g N V) : ∃ es cl, w.heap[g]? = some (.map es cl) := by
  obtain ⟨D, ⟨es, cl, hb, _⟩, _⟩ := h; exact ⟨es, cl, hb⟩

theorem Sit.kept {B : Nat} {W w : World} {gn gs gm N : Nat} {V : Nat → Value} {I : Nat → List It} (h : Sit B W gn gs gm N V I) (hB : Below W.heap.size W w) : Sit B w gn gs gm N V I := by
  have lt : ∀ {k : Nat} {o : Obj}, W.heap[k]? = some o → w.heap[k]? = some o := fun hk => by rw [hB.block _ (Array.getElem?_eq_some_iff.1 hk).1]; exact hk
  obtain ⟨nc, n1, n2⟩ := h.node
  obtain ⟨sc, s1, s2⟩ := h.st
  exact ⟨⟨nc, lt n1, n2⟩, ⟨sc, lt s1, s2⟩, h.map.kept (below_grown hB) (by simp), fun c hc => (h.own c hc).kept (below_grown hB) (by cases (V c).ownBlock <;> simp), h.len, h.small⟩

/-- 'append(nil, xs...)' in a region that draws. -/
theorem step_append_items {w : World} {ops : Array Oper} {o : Oper} {a : Act} {K : Act → World → Prop} {Q : Exit → Act → World → Prop} {E : Prop} (hgd : o.guard = none) (s x : Operand)
    (ho : o.op = .call { callee := .builtin .append, args := #[s, x], argTypes := #[35, 35] }) (B : Nat) (v : Value) (L : List It) (hs : a.eval s = .slice none 0 0) (hx : a.eval x = v) (hown : w.ownsRow B 34 24 v L.length (itsV L)) (hl : L.length ≤ 1000000)
    (h : ∀ v' w', w'.ownsRow w.heap.size 34 24 v' L.length (itsV L) → w.grownBy w' none → K (a.put o.dst v') w') : if Region.wanted o (yielded ops a.tmps) = true then Oper.wp Yba.prog o a w K Q else E := by
  have hw : Region.wanted o (yielded ops a.tmps) = true := by simp [Region.wanted, hgd]
  rw [if_pos hw]
  obtain ⟨v', w', hr, h2, h3⟩ := run_append_items w B v L o.type hown hl
  unfold Oper.wp execOp
  simp only [ho, resolve, invoke, builtin, Sem.run_bind, Sem.run_pure, Result.andThen_ok, List.map_toArray, List.map_cons, List.map_nil, hs, hx, hr]
  exact h v' w' h2 h3

def S7 (B gs gm N ib c : Nat) (V : Nat → Value) (L : List It) (W : World) : Prop :=
  W.cell? ⟨gs, 3, none⟩ = some (.map (some gm)) ∧ W.rangeAt ib 0 (idCells c) ∧ MapS W gm N V ∧ W.ownsRow B 34 24 (V c) L.length (itsV L)

set_option maxHeartbeats 2000000 in
set_option maxRecDepth 20000 in
theorem itemsOf33 (B gn gs gm N c b o : Nat) (V : Nat → Value) (I : Nat → List It) (W w : World) (hS : Sit B W gn gs gm N V I) (hB : Below W.heap.size W w) (hc : c < 8) (hid : w.rangeAt b o (idCells c)) (hbg : b ≠ gs) (hbw : b < w.heap.size) :
    Calls Yba.prog 33 #[.pointer (some ⟨gs, 0, none⟩), .slice (some ⟨b, o, none⟩) 1 1] w fun e w' => ∃ v', e = .returned v' ∧ w'.ownsRow w.heap.size 34 24 v' (I c).length (itsV (I c)) ∧ Below w.heap.size w w' := by
  have hS' := hS.kept hB
  clear hB hS
  obtain ⟨sc, hsb, hs1, hs3⟩ := hS'.st
  have hgs : gs < w.heap.size := (Array.getElem?_eq_some_iff.1 hsb).1
  have c1 : w.cell? ⟨gs, 1, none⟩ = some (.int .i32 0) := by simp [World.cell?, hsb, hs1]
  have f1 : w.frozen? ⟨gs, 1, none⟩ = false := by simp [World.frozen?, hsb]
  -- behind the lock
  obtain ⟨w1, hw1⟩ : ∃ w1, w1 = w.setCell ⟨gs, 1, none⟩ (.int .i32 1) := ⟨_, rfl⟩
  have hsz1 : w1.heap.size = w.heap.size := by rw [hw1]; simp [World.setCell]
  have oth1 : ∀ k, k ≠ gs → w1.heap[k]? = w.heap[k]? := fun k hk => by rw [hw1]; exact Below.heap_setCell _ _ _ _ hk
  have GR1 : w.grownBy w1 (some gs) := ⟨by rw [hw1]; rfl, by rw [hw1]; rfl, by rw [hw1]; rfl, by omega, fun k _ hk => oth1 k (fun e => hk (by rw [e]))⟩
  have hgb1 : w1.heap[gs]? = some (.cells (sc.setIfInBounds 1 (.int .i32 1)) 64 (0, 0)) := by rw [hw1]; simp [World.setCell, Array.getElem?_modify, hsb]
  have hgm : gm ≠ gs := fun e => by obtain ⟨es, cl, hb⟩ := hS'.map.block; rw [e, hsb] at hb; cases hb
  have own1 : w1.ownsRow B 34 24 (V c) (I c).length (itsV (I c)) := (hS'.own c hc).kept GR1 (by
    cases hb : (V c).ownBlock with
    | none => exact Or.inl rfl
    | some k =>
      refine Or.inr fun e => ?_
      rcases (hS'.own c hc).2 with ⟨h0, _⟩ | ⟨g, cap, cur, h0, _, hg', _⟩
      · rw [h0] at hb; cases hb
      · rw [h0] at hb
        simp only [Value.ownBlock, Option.some.injEq] at hb e
        rw [hb, e, hsb] at hg'
        simp at hg')
  have map1 : MapS w1 gm N V := hS'.map.kept GR1 (by simpa using hgm)
  have cell1 : w1.cell? ⟨gs, 3, none⟩ = some (.map (some gm)) := by simp [World.cell?, hgb1, hs3]
  have id1 : w1.rangeAt b o (idCells c) := rangeAt_block (oth1 b hbg) hid
  have S7a : Hid (S7 B gs gm N w1.heap.size c V (I c) (w1.alloc (.cells (idCells c).toArray 26)).drew) := by
    refine ⟨?_, range_new _ _, (map1.alloc _), (own1.alloc _)⟩
    have : (w1.alloc (.cells (idCells c).toArray 26)).cell? ⟨gs, 3, none⟩ = some (.map (some gm)) := by rw [World.cell?_alloc_past _ _ _ (by omega)]; exact cell1
    exact this
  have HI : Hid _ := id1
  have HW1 : Hid _ := hw1
  have HGB1 : Hid _ := hgb1
  have HO1 : Hid _ := oth1
  have HSZ : Hid _ := hsz1
  have HGS : Hid _ := hsb
  have HS1 : Hid _ := hs1
  have HLEN : Hid _ := hS'.len c hc
  have hgs' : Hid _ := hgs
  clear hS' hsb hs1 hs3 hid hbg hgb1 oth1 id1 cell1 map1 own1 hgm GR1 hsz1 hgs hbw
  go_enter_defers Yba.func33, Yba.ntmps33
  go_wp2_with (go_at_call 30; refine (lock_free muLib ⟨gs, 1, none⟩ _ c1 f1).mono ?_; rintro e w' ⟨rfl, rfl⟩)
  rw [← hw1]
  clear hw1 c1 f1
  refine wp_loop_rounds 2 ?_
  rw [rounds_succ]
  go_wp2_with (first
    | (refine wpList_load_mid rfl 26 (.tmp 19) rfl b o rfl (idCells c) _ HI.out Yba.underlying26 rfl (by rw [sz26, len_id]) ?_)
    | (refine wpList_alloc_store rfl rfl 26 7 (.tmp 20) rfl rfl rfl rfl idZero 20 info26 rfl (idCells c).toArray (by simp [len_id]) (all_oneCell_toArray (one_id c)) rfl rfl ?_; simp only [Act.put, List.setIfInBounds_toArray, List.set_cons_zero, List.set_cons_succ]))
  refine wp_region_noPanic ?_
  refine wp_region_held_drew (S := S7 B gs gm N w1.heap.size c V (I c)) (by kernel_rfl) S7a.out (fun _ => ?_)
  refine wpAnyH_take (i := 0) (oi := { dst := some 21, op := _, type := _, pos := _, after := _, guard := _ }) (v := .slice none 0 0) rfl (by kernel_rfl) (by kernel_rfl) (by kernel_rfl) (fun _ _ _ h => h) (Or.inl ⟨by rfl, fun W hW => by clear hW; go_simp⟩) S7a.out ?_
  simp only [Act.put, List.setIfInBounds_toArray, List.set_cons_zero, List.set_cons_succ]
  refine wpAnyH_take (i := 1) (oi := { dst := some 22, op := _, type := _, pos := _, after := _, guard := _ }) (v := .pointer (some ⟨gs, 0, none⟩)) rfl (by kernel_rfl) (by kernel_rfl) (by kernel_rfl) (fun _ _ _ h => h) (Or.inl ⟨by rfl, fun W hW => by clear hW; go_simp⟩) S7a.out ?_
  simp only [Act.put, List.setIfInBounds_toArray, List.set_cons_zero, List.set_cons_succ]
  refine wpAnyH_take (i := 2) (oi := { dst := some 23, op := _, type := _, pos := _, after := _, guard := _ }) (v := .pointer (some ⟨gs, 0, none⟩)) rfl (by kernel_rfl) (by kernel_rfl) (by kernel_rfl) (fun _ _ _ h => h) (Or.inl ⟨by rfl, fun W hW => by clear hW; go_simp⟩) S7a.out ?_
  simp only [Act.put, List.setIfInBounds_toArray, List.set_cons_zero, List.set_cons_succ]
  refine wpAnyH_take (i := 3) (oi := { dst := some 24, op := _, type := _, pos := _, after := _, guard := _ }) (v := .pointer (some ⟨gs, 3, none⟩)) rfl (by kernel_rfl) (by kernel_rfl) (by kernel_rfl) (fun _ _ _ h => h) (Or.inl ⟨by rfl, fun W hW => by clear hW; go_simp⟩) S7a.out ?_
  simp only [Act.put, List.setIfInBounds_toArray, List.set_cons_zero, List.set_cons_succ]
  refine wpAnyH_take (i := 4) (oi := { dst := some 25, op := _, type := _, pos := _, after := _, guard := _ }) (v := .map (some gm)) rfl (by kernel_rfl) (by kernel_rfl) (by kernel_rfl) (fun _ _ _ h => h) (Or.inl ⟨by rfl, fun W hW => by have hd := hW.1; clear hW; go_simp⟩) S7a.out ?_
  simp only [Act.put, List.setIfInBounds_toArray, List.set_cons_zero, List.set_cons_succ]
  refine wpAnyH_take (i := 5) (oi := { dst := some 26, op := _, type := _, pos := _, after := _, guard := _ }) (v := .agg (idCells c).toArray) rfl (by kernel_rfl) (by kernel_rfl) (by kernel_rfl) (fun _ _ _ h => h) (yieldsIf_load_mid (by rfl) 26 (.tmp 7) rfl w1.heap.size 0 rfl _ _ (fun W hW => hW.2.1) Yba.underlying26 rfl (by rw [sz26, len_id])) S7a.out ?_
  simp only [Act.put, List.setIfInBounds_toArray, List.set_cons_zero, List.set_cons_succ]
  refine wpAnyH_take (i := 6) (oi := { dst := some 27, op := _, type := _, pos := _, after := _, guard := _ }) (v := V c) rfl (by kernel_rfl) (by kernel_rfl) (by kernel_rfl) (fun _ _ _ h => h) (Or.inl ⟨by rfl, fun W hW => by have hd := hW.2.2.1.look hc; unfold idV at hd; clear hW; unfold execOp; simp only [Act.eval]; simp [hd, Result.andThen]⟩) S7a.out ?_
  simp only [Act.put, List.setIfInBounds_toArray, List.set_cons_zero, List.set_cons_succ]
  refine wpAnyH_ready (rs := [7]) (by kernel_rfl) (by simp) ?_
  refine AllReadyH.cons rfl (fun K hK => ?_) AllReadyH.nil
  refine step_append_items rfl (.tmp 21) (.tmp 27) rfl B (V c) (I c) rfl rfl S7a.out.2.2.2 (by have := HLEN.out; omega) ?_
  intro v2 w2 hO2 hG2
  have HO2 : Hid _ := hO2
  have HG2 : Hid ((w1.alloc (.cells (idCells c).toArray 26)).drew.grownBy w2 none) := hG2
  have S7b : Hid (S7 B gs gm N w1.heap.size c V (I c) w2) := by
    have hb := grown_below hG2
    refine ⟨?_, ?_, S7a.out.2.2.1.kept hG2 (by simp), S7a.out.2.2.2.kept hG2 (by cases (V c).ownBlock <;> simp)⟩
    · rw [hb.cell (by have := hgs'.out; have := HSZ.out; simp; omega)]; exact S7a.out.1
    · exact rangeAt_block (hb.block _ (by simp)) S7a.out.2.1
  clear hO2 hG2
  refine hK.out _ _ S7b.out (fun _ => ?_)
  simp only [Act.put, List.setIfInBounds_toArray, List.set_cons_zero, List.set_cons_succ]
  clear hK K
  refine wpAnyH_take (i := 8) (oi := { dst := some 5, op := _, type := _, pos := _, after := _, guard := _ }) (v := v2) rfl (by kernel_rfl) (by kernel_rfl) (by kernel_rfl) (fun _ _ _ h => h) (Or.inl ⟨by rfl, fun W hW => by clear hW; go_simp⟩) S7b.out ?_
  simp only [Act.put, List.setIfInBounds_toArray, List.set_cons_zero, List.set_cons_succ]
  refine wpAnyH_done (by kernel_rfl) ?_ _
  refine NoPanic.normal ?_
  go_wp2_with fail
  rw [rounds_succ]
  go_wp2_with fail
  have hsz := HSZ.out
  have hg := hgs'.out
  have hz2 : w1.heap.size + 1 ≤ w2.heap.size := by have := HG2.out.size; simpa using this
  have hb2 : w2.heap[gs]? = some (.cells (sc.setIfInBounds 1 (.int .i32 1)) 64 (0, 0)) := by
    rw [(grown_below HG2.out).block gs (by simp; omega)]
    have : (w1.alloc (.cells (idCells c).toArray 26)).heap[gs]? = _ := Below.heap_alloc _ _ _ (by omega)
    exact this.trans HGB1.out
  have hs1l : 1 < sc.size := (Array.getElem?_eq_some_iff.1 HS1.out).1
  have c2 : w2.cell? ⟨gs, 1, none⟩ = some (.int .i32 1) := by simp [World.cell?, hb2, hs1l]
  have f2 : w2.frozen? ⟨gs, 1, none⟩ = false := by simp [World.frozen?, hb2]
  have hfin : Below w.heap.size w (w2.setCell ⟨gs, 1, none⟩ (.int .i32 0)) := by
    have hG := HG2.out
    have hw := HW1.out
    refine ⟨?_, ?_, ?_, by simp [World.setCell]; omega, fun k hk => ?_⟩
    · have h1 := hG.os; rw [hw] at h1; exact h1
    · have h1 := hG.tape; rw [hw] at h1; exact h1
    · have h1 := hG.output; rw [hw] at h1; exact h1
    · by_cases e : k = gs
      · subst e
        rw [HGS.out]
        simp [World.setCell, Array.getElem?_modify, hb2]
        obtain ⟨h2, h3⟩ := Array.getElem?_eq_some_iff.1 HS1.out
        rw [← h3]
        simp [Array.setIfInBounds, h2]
      · rw [Below.heap_setCell _ _ _ _ e, (grown_below hG).block k (by simp; omega)]
        have : (w1.alloc (.cells (idCells c).toArray 26)).heap[k]? = _ := Below.heap_alloc _ _ _ (by omega)
        exact this.trans (HO1.out k e)
  have hownf : (w2.setCell ⟨gs, 1, none⟩ (.int .i32 0)).ownsRow w.heap.size 34 24 v2 (I c).length (itsV (I c)) := by
    have hO : w2.ownsRow (w1.alloc (.cells (idCells c).toArray 26)).drew.heap.size 34 24 v2 (I c).length (itsV (I c)) := HO2.out
    refine World.ownsRow.kept (own_mono hO (by simp; omega)) (w' := w2.setCell ⟨gs, 1, none⟩ (.int .i32 0)) (row := some gs) ⟨rfl, rfl, rfl, by simp [World.setCell], fun k _ hk => Below.heap_setCell _ _ _ _ (fun e => hk (by simp [e]))⟩ ?_
    cases hb : v2.ownBlock with
    | none => exact Or.inl rfl
    | some k =>
      refine Or.inr fun e => ?_
      have := (hO.lt k hb).1
      simp at this e
      omega
  have HF : Hid _ := hfin
  have HOF : Hid (World.ownsRow (w2.setCell ⟨gs, 1, none⟩ (.int .i32 0)) w.heap.size 34 24 v2 (I c).length (itsV (I c))) := hownf
  clear hfin hownf hb2
  refine leaves_cons (f := 31) (args := #[.pointer (some ⟨gs, 1, none⟩)]) (by simp) (by simp [go_sem]) ?_
  refine (unlock_deferred muLib ⟨gs, 1, none⟩ .returning _ c2 f2).mono ?_
  rintro e u' w'' ⟨rfl, rfl, rfl⟩
  exact ⟨_, results_tmp rfl _ _ _, v2, rfl, HOF.out, HF.out⟩
end Go.Proofs.Ybulkdfdc
