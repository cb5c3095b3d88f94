import Derived.Test.YbulkdfdcItemsOf
namespace Go.Proofs.Ybulkdfdc
open Go.ChangeShapes Go.WideShapes Go.ChangeAt Go.RowKit
set_option linter.unusedVariables false
set_option linter.unusedSimpArgs false

theorem len_cells (x : It) : x.cells.length = 24 := rfl
theorem itsV_cons (x : It) (L : List It) : itsV (x :: L) = x.cells ++ itsV L := rfl
theorem itsV_append (L M : List It) : itsV (L ++ M) = itsV L ++ itsV M := by unfold itsV; simp
theorem itsV_at : ∀ (L : List It) (i : Nat) (x : It), L[i]? = some x → ∀ j u, x.cells[j]? = some u → (itsV L)[i * 24 + j]? = some u
  | [], i, x, h, j, u, hu => by simp at h
  | y :: L, 0, x, h, j, u, hu => by
    simp only [List.getElem?_cons_zero, Option.some.injEq] at h
    subst h
    rw [itsV_cons, Nat.zero_mul, Nat.zero_add, List.getElem?_append_left (by rw [len_cells]; have := (List.getElem?_eq_some_iff.1 hu).1; rw [len_cells] at this; omega)]
    exact hu
  | y :: L, i + 1, x, h, j, u, hu => by
    simp only [List.getElem?_cons_succ] at h
    rw [itsV_cons, List.getElem?_append_right (by rw [len_cells]; omega), len_cells]
    have e : (i + 1) * 24 + j - 24 = i * 24 + j := by omega
    rw [e]
    exact itsV_at L i x h j u hu

/-- A slice value that reads as the items 'L'. -/
def ItRow (w : World) (v : Value) (L : List It) : Prop :=
  ∃ a cap, v = .slice a L.length cap ∧ ∀ i x, L[i]? = some x → ∃ g, a = some ⟨g, 0, none⟩ ∧ g < w.heap.size ∧ w.rangeAt g (i * 24) x.cells

theorem itRow_own {w : World} {B : Nat} {v : Value} {L : List It} (h : w.ownsRow B 34 24 v L.length (itsV L)) : ItRow w v L := by
  rcases h.2 with ⟨h0, h1⟩ | ⟨g, cap, cur, h0, _, hg, _⟩
  · obtain rfl : L = [] := List.eq_nil_of_length_eq_zero h1
    exact ⟨none, 0, h0, fun i x hx => by simp at hx⟩
  · refine ⟨_, cap, h0, fun i x hx => ⟨g, rfl, (Array.getElem?_eq_some_iff.1 hg).1, fun j u hu => ?_⟩⟩
    have := h.cells (g := g) (by rw [h0]; rfl) (i * 24 + j) u (itsV_at L i x hx j u hu)
    have e : (⟨g, 0, none⟩ : Addr).add (i * 24 + j) = ⟨g, i * 24 + j, none⟩ := by
      simp only [Addr.add]
      split
      · rename_i h0; simp at h0; simp [h0]
      · simp
    rw [e] at this
    exact this

theorem ItRow.below {w w' : World} {v : Value} {L : List It} (h : ItRow w v L) (hB : Below w.heap.size w w') : ItRow w' v L := by
  obtain ⟨a, cap, hv, hr⟩ := h
  refine ⟨a, cap, hv, fun i x hx => ?_⟩
  obtain ⟨g, ha, hg, hc⟩ := hr i x hx
  exact ⟨g, ha, Nat.lt_of_lt_of_le hg hB.size, rangeAt_block (hB.block g hg) hc⟩

/-- One item in a row of its own. -/
theorem own_built (w : World) (x : It) : (w.alloc (.cells x.cells.toArray 34)).ownsRow w.heap.size 34 24 (.slice (some ⟨w.heap.size, 0, none⟩) 1 1) [x].length (itsV [x]) := by
  refine ⟨by simp [itsV, len_cells], Or.inr ⟨w.heap.size, 1, x.cells.toArray, rfl, Nat.le_refl _, heap_alloc_new _ _, by simp, by unfold maxLen; omega, by simp [len_cells], ?_⟩⟩
  simp [itsV, len_cells]
  exact (List.take_of_length_le (by rw [len_cells]; omega))

/-- 'append(xs, ys...)', both rows of the call's own. -/
theorem run_append_rows (w : World) (B B2 : Nat) (v v2 : Value) (L M : List It) (ty : TypeId) (hown : w.ownsRow B 34 24 v L.length (itsV L)) (hown2 : w.ownsRow B2 34 24 v2 M.length (itsV M)) (hl : L.length + M.length ≤ 3000000) (hB : B ≤ w.heap.size) :
    ∃ v' w', (Builtin.append_ #[35, 35] ty #[v, v2]).run Yba.prog w = .ok v' w' ∧ w'.ownsRow B 34 24 v' (L ++ M).length (itsV (L ++ M)) ∧ w.grownBy w' v.ownBlock ∧ (v'.ownBlock = v.ownBlock ∨ ∃ k, v'.ownBlock = some k ∧ w.heap.size ≤ k) := by
  obtain ⟨i34, hi34, ha, hb, hc⟩ := info_parts inf34
  rcases hown2.2 with ⟨h0, h1⟩ | ⟨g, cap, cur, h0, _, hg, hr⟩
  · obtain rfl : M = [] := List.eq_nil_of_length_eq_zero h1
    subst h0
    refine ⟨v, w, ?_, by simpa using hown, World.grownBy.refl _ _, Or.inl rfl⟩
    rcases hown.2 with ⟨h0, _⟩ | ⟨g', cap', cur', h0, _, hg', hn', _⟩
    · subst h0
      simp [Builtin.append_, run_underlying Yba.underlying35, sizeOf, typeInfo, hi34, hb, go_sem]
    · subst h0
      simp [Builtin.append_, run_underlying Yba.underlying35, sizeOf, typeInfo, hi34, hb, go_sem]
      intro h; omega
  · have hcl := hown2.cells (g := g) (by rw [h0]; rfl)
    subst h0
    obtain ⟨v', w', hr, h2, h3, _, h5⟩ := run_append_own_at (P := Yba.prog) w B 35 ty 34 i34 itZero 24 88 Yba.underlying35 hi34 ha hb hc rfl (by decide) v L.length (itsV L) hown ⟨g, 0, none⟩ M.length cap (itsV M) (by rw [len_itsV]; omega) hcl (one_itsV M) (by unfold maxLen; omega) (by omega) hB
    refine ⟨v', w', hr, ?_, h3, or_map h5 id (fun h => ⟨_, h, Nat.le_refl _⟩)⟩
    rw [List.length_append, itsV_append]; exact h2

theorem wpList_append_rows (w : World) {ops : Array Oper} {rest : List Oper} {o : Oper} {a : Act} {Q : Exit → Act → World → Prop} (hgd : o.guard = none) (s x : Operand)
    (ho : o.op = .call { callee := .builtin .append, args := #[s, x], argTypes := #[35, 35] })
    (B B2 : Nat) (v v2 : Value) (L M : List It) (hs : a.eval s = v) (hx : a.eval x = v2) (hown : w.ownsRow B 34 24 v L.length (itsV L)) (hown2 : w.ownsRow B2 34 24 v2 M.length (itsV M)) (hl : L.length + M.length ≤ 3000000) (hB : B ≤ w.heap.size)
    (h : ∀ v' w', w'.ownsRow B 34 24 v' (L ++ M).length (itsV (L ++ M)) → w.grownBy w' v.ownBlock → (v'.ownBlock = v.ownBlock ∨ ∃ k, v'.ownBlock = some k ∧ w.heap.size ≤ k) → wpList Yba.prog ops Q rest (a.put o.dst v') w') : wpList Yba.prog ops Q (o :: rest) a w := by
  obtain ⟨v', w', hr, h2, h3, h4⟩ := run_append_rows w B B2 v v2 L M o.type hown hown2 hl hB
  refine wpList_plain hgd fun K hK => ?_
  unfold Oper.wp execOp
  simp only [ho, resolve, invoke, builtin, Sem.run_bind, Sem.run_pure, Result.andThen_ok, List.map_toArray, List.map_cons, List.map_nil, hs, hx, hr]
  exact hK _ _ (h v' w' h2 h3 h4)

/-! ### The plain page -/
def szs (L : List It) : Nat := (L.map It.sz).sum
theorem szs_append (L M : List It) : szs (L ++ M) = szs L + szs M := by simp [szs]
theorem szs_nil : szs [] = 0 := rfl
theorem szs_take_succ {L : List It} {k : Nat} {x : It} (h : L[k]? = some x) : szs (L.take (k + 1)) = szs (L.take k) + x.sz := by
  rw [List.take_add_one, h]; simp [szs]
def fl (I : Nat → List It) (ks : List Nat) : List It := ks.flatMap I
theorem fl_take_succ {I : Nat → List It} {ks : List Nat} {k c : Nat} (h : ks[k]? = some c) : fl I (ks.take (k + 1)) = fl I (ks.take k) ++ I c := by
  unfold fl; rw [List.take_add_one, h]; simp
theorem len_fl {I : Nat → List It} (hI : ∀ c, c < 8 → (I c).length ≤ 1024) : ∀ (ks : List Nat), (∀ k ∈ ks, k < 8) → (fl I ks).length ≤ 1024 * ks.length
  | [], _ => by simp [fl]
  | k :: ks, h => by
    have h1 := hI k (h k List.mem_cons_self)
    have h2 := len_fl hI ks (fun x hx => h x (List.mem_cons_of_mem _ hx))
    unfold fl at *
    simp only [List.flatMap_cons, List.length_append, List.length_cons]
    omega
theorem szs_le {L : List It} (h : ∀ x ∈ L, x.kn ≤ 32 ∧ x.vn ≤ 32) : szs L ≤ 99 * L.length := by
  induction L with
  | nil => simp [szs]
  | cons x L ih =>
    have h1 := ih (fun y hy => h y (List.mem_cons_of_mem _ hy))
    have h2 := h x List.mem_cons_self
    have h3 : x.sz ≤ 99 := by unfold It.sz; split <;> omega
    simp only [szs, List.map_cons, List.sum_cons, List.length_cons] at *
    omega

/-- What a page is. -/
def PageOk (I : Nat → List It) (ks : List Nat) (h : Nat) (L : List It) : Prop :=
  h ≤ ks.length ∧ szs (fl I (ks.take h)) ≤ 1049635 ∧ L = fl I (ks.take h) ∧ (h = ks.length ∨ (1 ≤ h ∧ ∃ c, ks[h]? = some c ∧ 1049635 < szs (fl I (ks.take h)) + szs (I c)))

/-- A slice's address at which the keys 'ks' lie. -/
def IdRow (w : World) (a : Option Addr) (ks : List Nat) : Prop :=
  ∀ i c, ks[i]? = some c → ∃ g, a = some ⟨g, 0, none⟩ ∧ g < w.heap.size ∧ w.rangeAt g (i * 20) (idCells c)
theorem IdRow.below {w w' : World} {a : Option Addr} {ks : List Nat} (h : IdRow w a ks) (hB : Below w.heap.size w w') : IdRow w' a ks := fun i c hc => by
  obtain ⟨g, ha, hg, hr⟩ := h i c hc
  exact ⟨g, ha, Nat.lt_of_lt_of_le hg hB.size, rangeAt_block (hB.block g hg) hr⟩
end Go.Proofs.Ybulkdfdc
