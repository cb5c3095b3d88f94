import Derived.Test.YbulkdfdcFetch
import Derived.Laws.MakeOwn
namespace Go.Proofs.Ybulkdfdc
open Go.ChangeShapes Go.WideShapes Go.ChangeAt Go.RowKit
set_option linter.unusedVariables false
set_option linter.unusedSimpArgs false

/-- One element of 'held'. -/
structure Hd where
  sel : Nat
  ka : Option Addr
  kn : Nat
  kc : Nat
  va : Option Addr
  vn : Nat
  vc : Nat
  del : Bool

def Hd.cells (h : Hd) : List Value := [.int .u8 h.sel, .slice h.ka h.kn h.kc, .slice h.va h.vn h.vc, .bool h.del]
structure Hd.Ok (W : World) (h : Hd) : Prop where
  sel : h.sel ≤ 255
  kc : h.kn ≤ h.kc ∧ h.kc ≤ maxLen
  vc : h.vn ≤ h.vc ∧ h.vc ≤ maxLen
  k : ∃ zs : List Int, zs.length = h.kn ∧ PreAt W.heap.size W h.ka zs
  v : ∃ zs : List Int, zs.length = h.vn ∧ PreAt W.heap.size W h.va zs
theorem Hd.one (h : Hd) : ∀ u ∈ h.cells, u.oneCell' = true := by
  intro u hu
  simp only [Hd.cells, List.mem_cons, List.not_mem_nil, or_false] at hu
  rcases hu with rfl | rfl | rfl | rfl <;> rfl

/-- Its item. -/
def Hd.it (h : Hd) : It := ⟨h.ka, min h.kn 32, h.kc, h.va, min h.vn 32, h.vc, h.del⟩
theorem PreAt.take {B : Nat} {w : World} {a : Option Addr} {zs : List Int} (h : PreAt B w a zs) (n : Nat) : PreAt B w a (zs.take n) := fun h0 => by
  obtain ⟨b, o, ha, hb, hc⟩ := h (by rw [List.length_take] at h0; omega)
  refine ⟨b, o, ha, hb, fun j u hu => hc j u ?_⟩
  rw [zV, List.getElem?_map] at hu ⊢
  rw [List.getElem?_take] at hu
  split at hu
  · exact hu
  · cases hu
theorem Hd.Ok.it {W : World} {h : Hd} (ho : h.Ok W) : h.it.Ok W := by
  obtain ⟨zk, hk, pk⟩ := ho.k
  obtain ⟨zv, hv, pv⟩ := ho.v
  exact ⟨by show min _ _ ≤ _; omega, by show min _ _ ≤ _; omega, ⟨zk.take 32, by rw [List.length_take, hk]; show _ = min _ _; omega, pk.take 32⟩, ⟨zv.take 32, by rw [List.length_take, hv]; show _ = min _ _; omega, pv.take 32⟩⟩

def updI (I : Nat → List It) (c : Nat) (L : List It) : Nat → List It := fun d => if d = c then L else I d

/-- THE MAP IN THE MAKING. -/
structure Bld (W : World) (gm k : Nat) (w : World) (V : Nat → Value) (I : Nat → List It) : Prop where
  bel : Below W.heap.size W w
  gmle : W.heap.size ≤ gm
  map : MapS w gm k V
  own : ∀ c, c < 8 → w.ownsRow W.heap.size 34 24 (V c) (I c).length (itsV (I c))
  apart : ∀ c d, c < 8 → d < 8 → c ≠ d → ∀ q, (V c).ownBlock = some q → (V d).ownBlock ≠ some q
  len : ∀ c, c < 8 → (I c).length ≤ k
  ok : ∀ c, c < 8 → ∀ x ∈ I c, x.Ok W

theorem bld_made (W : World) : Bld W W.heap.size 0 (W.alloc (.map #[] 0)) (fun _ => .slice none 0 0) (fun _ => []) :=
  ⟨(Below.refl _ _).alloc (Nat.le_refl _) _, Nat.le_refl _, mapS_made W 0, fun c _ => World.ownsRow_nil _ _ _ _, (fun c d _ _ _ q hq => (by cases hq)), (fun c _ => Nat.le_refl _), (fun c _ x hx => (by cases hx))⟩

theorem Bld.below {W w w' : World} {gm k : Nat} {V : Nat → Value} {I : Nat → List It} (h : Bld W gm k w V I) (hB : Below w.heap.size w w') : Bld W gm k w' V I :=
  ⟨h.bel.trans (hB.mono h.bel.size), h.gmle, h.map.kept (below_grown hB) (by simp), fun c hc => (h.own c hc).kept (below_grown hB) (by cases (V c).ownBlock <;> simp), h.apart, h.len, h.ok⟩

theorem Bld.ne {W w : World} {gm k : Nat} {V : Nat → Value} {I : Nat → List It} (h : Bld W gm k w V I) {c : Nat} (hc : c < 8) : (V c).ownBlock ≠ some gm := fun e => by
  obtain ⟨_, _, cur, hb⟩ := own_lt (h.own c hc) e
  obtain ⟨es, cl, hm⟩ := h.map.block
  rw [hm] at hb
  cases hb

theorem ne_or {x : Option Nat} {y : Option Nat} (h : x ≠ y) : x = none ∨ x ≠ y := Or.inr h

/-- One item more. -/
theorem Bld.step {W w : World} {gm k : Nat} {V : Nat → Value} {I : Nat → List It} (h : Bld W gm k w V I) (hk : k < 2000) (x : It) (hx : x.Ok W) {c : Nat} (hc : c < 8) :
    ∃ (st : Nat) (w1 : World), (Instr.mapEntry 47 (.map (some gm)) (idV c)).run Yba.prog (w.alloc (.cells x.cells.toArray 34)) = .ok (.tuple #[V c, goInt st]) w1 ∧
      w1.ownsRow W.heap.size 34 24 (V c) (I c).length (itsV (I c)) ∧ w1.ownsRow w.heap.size 34 24 (.slice (some ⟨w.heap.size, 0, none⟩) 1 1) [x].length (itsV [x]) ∧ W.heap.size ≤ w1.heap.size ∧
      ∀ v' w2, w2.ownsRow W.heap.size 34 24 v' (I c ++ [x]).length (itsV (I c ++ [x])) → w1.grownBy w2 (V c).ownBlock → (v'.ownBlock = (V c).ownBlock ∨ ∃ q, v'.ownBlock = some q ∧ w1.heap.size ≤ q) →
        ∃ w3, (Instr.entryStore 47 (.map (some gm)) (goInt st) v').run Yba.prog w2 = .ok () w3 ∧ Bld W gm (k + 1) w3 (updV V c v') (updI I c (I c ++ [x])) := by
  have hb := h.below ((Below.refl _ w).alloc (Nat.le_refl _) (.cells x.cells.toArray 34))
  have hgl := h.map.lt
  have hWs := h.bel.size
  obtain ⟨st, w1, hr, hg1, hz1, hst⟩ := hb.map.entry (by unfold maxLen; omega) hc
  have hz1' : w1.heap.size = w.heap.size + 1 := by rw [hz1]; simp
  have ne : ∀ d, d < 8 → (V d).ownBlock ≠ some gm := fun d hd => h.ne hd
  have own1 : ∀ d, d < 8 → w1.ownsRow W.heap.size 34 24 (V d) (I d).length (itsV (I d)) := fun d hd => (hb.own d hd).kept hg1 (ne_or (ne d hd))
  refine ⟨st, w1, hr, own1 c hc, (own_built w x).kept hg1 (ne_or (by simp [Value.ownBlock]; omega)), by omega, ?_⟩
  intro v' w2 hO2 hg2 hloc
  obtain ⟨d, hd⟩ : ∃ d, elemS v' = some (d, []) := by
    rcases hO2.2 with ⟨h0, _⟩ | ⟨g, cap, cur, h0, _⟩
    · rw [h0]; exact ⟨_, rfl⟩
    · rw [h0]; exact ⟨_, rfl⟩
  obtain ⟨w3, hr3, hg3, hz3, hm3⟩ := hst w2 _ v' d hg2 (fun e => ne c hc e.symm) hd
  have hvne : v'.ownBlock ≠ some gm := by
    rcases hloc with e | ⟨q, e, hq⟩
    · rw [e]; exact ne c hc
    · rw [e]; simp; omega
  refine ⟨w3, hr3, ?_, h.gmle, hm3, ?_, ?_, ?_, ?_⟩
  · have b1 : Below W.heap.size W w1 := hb.bel.grown hg1 (by simp; omega) (fun q hq => by simp only [Option.some.injEq] at hq; rw [← hq]; exact h.gmle)
    have b2 : Below W.heap.size W w2 := b1.grown hg2 (by omega) (fun q hq => (own_lt (own1 c hc) hq).1)
    exact b2.grown hg3 b2.size (fun q hq => by simp only [Option.some.injEq] at hq; rw [← hq]; exact h.gmle)
  · intro e he
    unfold updV updI
    by_cases hec : e = c
    · rw [if_pos hec, if_pos hec]; exact hO2.kept hg3 (ne_or hvne)
    · rw [if_neg hec, if_neg hec]
      refine World.ownsRow.kept (World.ownsRow.kept (own1 e he) hg2 ?_) hg3 (ne_or (ne e he))
      cases hq : (V e).ownBlock with
      | none => exact Or.inl rfl
      | some q => exact Or.inr (fun e1 => h.apart e c he hc hec q hq e1.symm)
  · intro a b ha hb' hab q hq
    unfold updV at hq ⊢
    by_cases e1 : a = c
    · rw [if_pos e1] at hq
      rw [if_neg (fun e2 => hab (e1.trans e2.symm))]
      rcases hloc with e | ⟨q', e, hq'⟩
      · rw [e] at hq; rw [← e1] at hq; exact h.apart a b ha hb' hab q hq
      · rw [e] at hq
        simp only [Option.some.injEq] at hq
        intro e3
        have := (own_lt (h.own b hb') e3).2.1
        omega
    · rw [if_neg e1] at hq
      by_cases e2 : b = c
      · rw [if_pos e2]
        rcases hloc with e | ⟨q', e, hq'⟩
        · rw [e, ← e2]; exact h.apart a b ha hb' hab q hq
        · rw [e]
          have := (own_lt (h.own a ha) hq).2.1
          simp; omega
      · rw [if_neg e2]; exact h.apart a b ha hb' hab q hq
  · intro e he
    unfold updI
    have := h.len e he
    by_cases hec : e = c
    · rw [if_pos hec]; subst hec; simp; omega
    · rw [if_neg hec]; omega
  · intro e he y hy
    unfold updI at hy
    by_cases hec : e = c
    · rw [if_pos hec] at hy
      rcases List.mem_append.1 hy with hy | hy
      · exact h.ok c hc y hy
      · rw [List.mem_singleton.1 hy]; exact hx
    · rw [if_neg hec] at hy; exact h.ok e he y hy

/-! ### Laws of the walk -/
theorem wpList_mapEntry {w w1 : World} {ops : Array Oper} {rest : List Oper} {o : Oper} {a : Act} {Q : Exit → Act → World → Prop} (hgd : o.guard = none) (m k : Operand) (ho : o.op = .mapEntry 47 m k) (gm c : Nat) (v : Value) (hm : a.eval m = .map (some gm)) (hk : a.eval k = idV c)
    (hr : (Instr.mapEntry 47 (.map (some gm)) (idV c)).run Yba.prog w = .ok v w1) (h : wpList Yba.prog ops Q rest (a.put o.dst v) w1) : wpList Yba.prog ops Q (o :: rest) a w :=
  wpList_plain hgd fun K hK => by
    unfold Oper.wp execOp
    simp only [ho, hm, hk, Sem.run_bind, hr, Result.andThen_ok, Sem.run_pure]
    exact hK _ _ h
theorem wpList_entryStore {w w1 : World} {ops : Array Oper} {rest : List Oper} {o : Oper} {a : Act} {Q : Exit → Act → World → Prop} (hgd : o.guard = none) (m s x : Operand) (ho : o.op = .entryStore 47 m s x) (hdst : o.dst = none) (gm : Nat) (sv v : Value) (hm : a.eval m = .map (some gm)) (hs : a.eval s = sv) (hx : a.eval x = v)
    (hr : (Instr.entryStore 47 (.map (some gm)) sv v).run Yba.prog w = .ok () w1) (h : wpList Yba.prog ops Q rest a w1) : wpList Yba.prog ops Q (o :: rest) a w :=
  wpList_plain hgd fun K hK => by
    unfold Oper.wp execOp
    simp only [ho, hm, hs, hx, Sem.run_bind, hr, Result.andThen_ok, Sem.run_pure]
    exact hK _ _ (by rw [hdst]; exact h)
theorem wpList_look {w : World} {ops : Array Oper} {rest : List Oper} {o : Oper} {a : Act} {Q : Exit → Act → World → Prop} (hgd : o.guard = none) (m k : Operand) (ho : o.op = .lookup 47 m k false) (gm N c : Nat) (V : Nat → Value) (hM : MapS w gm N V) (hc : c < 8) (hm : a.eval m = .map (some gm)) (hk : a.eval k = .agg (idCells c).toArray)
    (h : wpList Yba.prog ops Q rest (a.put o.dst (V c)) w) : wpList Yba.prog ops Q (o :: rest) a w :=
  wpList_plain hgd fun K hK => by
    have hd := hM.look hc
    unfold idV at hd
    unfold Oper.wp execOp
    simp only [ho, hm, hk, Sem.run_bind, hd, Result.andThen_ok, Sem.run_pure]
    exact hK _ _ h

/-! ### The list of keys -/
def idsV (ks : List Nat) : List Value := ks.flatMap idCells
theorem len_idsV (ks : List Nat) : (idsV ks).length = 20 * ks.length := by
  unfold idsV
  induction ks with
  | nil => rfl
  | cons x L ih => simp only [List.flatMap_cons, List.length_append, List.length_cons, ih, len_id]; omega
theorem one_idsV (ks : List Nat) : ∀ u ∈ idsV ks, u.oneCell' = true := fun u hu => by
  obtain ⟨x, _, hx⟩ := List.mem_flatMap.1 hu
  exact one_id x u hx
theorem idsV_at : ∀ (L : List Nat) (i c : Nat), L[i]? = some c → ∀ j u, (idCells c)[j]? = some u → (idsV L)[i * 20 + j]? = some u
  | [], i, x, h, j, u, hu => by simp at h
  | y :: L, 0, x, h, j, u, hu => by
    simp only [List.getElem?_cons_zero, Option.some.injEq] at h
    subst h
    show (idCells y ++ idsV L)[_]? = _
    rw [Nat.zero_mul, Nat.zero_add, List.getElem?_append_left (List.getElem?_eq_some_iff.1 hu).1]
    exact hu
  | y :: L, i + 1, x, h, j, u, hu => by
    simp only [List.getElem?_cons_succ] at h
    show (idCells y ++ idsV L)[_]? = _
    rw [List.getElem?_append_right (by rw [len_id]; omega), len_id]
    have e : (i + 1) * 20 + j - 20 = i * 20 + j := by omega
    rw [e]
    exact idsV_at L i x h j u hu
theorem idRow_own {w : World} {B : Nat} {a : Option Addr} {cap : Nat} {ks : List Nat} (h : w.ownsRow B 26 20 (.slice a ks.length cap) ks.length (idsV ks)) : IdRow w a ks := fun i c hc => by
  rcases h.2 with ⟨h0, h1⟩ | ⟨g, cap', cur, h0, _, hg, _⟩
  · obtain rfl : ks = [] := List.eq_nil_of_length_eq_zero h1
    simp at hc
  · simp only [Value.slice.injEq] at h0
    refine ⟨g, h0.1, (Array.getElem?_eq_some_iff.1 hg).1, fun j u hu => ?_⟩
    have := h.cells (g := g) (by rw [h0.1]; rfl) (i * 20 + j) u (idsV_at ks i c hc j u hu)
    have e : (⟨g, 0, none⟩ : Addr).add (i * 20 + j) = ⟨g, i * 20 + j, none⟩ := by
      simp only [Addr.add]
      split
      · rename_i h0; simp at h0; simp [h0]
      · simp
    rw [e] at this
    exact this

/-- 'append(list, ID{c})'. -/
theorem wpList_append_id (w : World) {ops : Array Oper} {rest : List Oper} {o : Oper} {a : Act} {Q : Exit → Act → World → Prop} (hgd : o.guard = none) (s x : Operand)
    (ho : o.op = .call { callee := .builtin .append, args := #[s, x], argTypes := #[24, 24] })
    (B : Nat) (v : Value) (ks : List Nat) (c g : Nat) (hs : a.eval s = v) (hx : a.eval x = .slice (some ⟨g, 0, none⟩) 1 1) (hown : w.ownsRow B 26 20 v ks.length (idsV ks)) (hr : w.rangeAt g 0 (idCells c)) (hl : ks.length ≤ 2000) (hB : B ≤ w.heap.size)
    (h : ∀ v' w', w'.ownsRow B 26 20 v' (ks ++ [c]).length (idsV (ks ++ [c])) → w.grownBy w' v.ownBlock → wpList Yba.prog ops Q rest (a.put o.dst v') w') : wpList Yba.prog ops Q (o :: rest) a w := by
  obtain ⟨i26, hi26, ha, hb, hc⟩ := info_parts inf26
  have hcl : ∀ j u, (idCells c)[j]? = some u → w.cell? ((⟨g, 0, none⟩ : Addr).add j) = some u := fun j u hu => by
    have e : (⟨g, 0, none⟩ : Addr).add j = ⟨g, 0 + j, none⟩ := by
      simp only [Addr.add]
      split
      · rename_i h0; simp [h0]
      · simp
    rw [e]; exact hr j u hu
  obtain ⟨v', w', hr, h2, h3, _, h5⟩ := run_append_own_at (P := Yba.prog) w B 24 o.type 26 i26 idZero 20 20 Yba.underlying24 hi26 ha hb hc rfl (by decide) v ks.length (idsV ks) hown ⟨g, 0, none⟩ 1 1 (idCells c) (by rw [len_id]) hcl (one_id c) (by unfold maxLen; omega) (by omega) hB
  refine wpList_plain hgd fun K hK => ?_
  unfold Oper.wp execOp
  simp only [ho, resolve, invoke, builtin, Sem.run_bind, Sem.run_pure, Result.andThen_ok, List.map_toArray, List.map_cons, List.map_nil, hs, hx, hr]
  refine hK _ _ (h v' w' ?_ h3)
  have e : idsV (ks ++ [c]) = idsV ks ++ idCells c := by unfold idsV; simp
  rw [e, List.length_append]; exact h2
end Go.Proofs.Ybulkdfdc
