import Derived.Test.YbulkdfdcRows
import Derived.WalkKit
import Derived.ProofKit
import Derived.WalkSpells
import Derived.WalkLawsBesides
import Derived.WalkSmall
import Derived.Maps.AppendAt
import Derived.Deep.AppendLies
import Derived.Deep.MidRow
import Derived.Deep.WholeRow
namespace Go.Proofs.Ybulkdfdc
open Go.ChangeShapes Go.WideShapes Go.ChangeAt Go.RowKit
set_option linter.unusedVariables false
set_option linter.unusedSimpArgs false

theorem or_map {a b c d : Prop} (h : a ∨ b) (f : a → c) (g : b → d) : c ∨ d := by
  rcases h with h | h
  · exact Or.inl (f h)
  · exact Or.inr (g h)
theorem ex_map {α : Type} {p q : α → Prop} (h : ∃ x, p x) (f : ∀ x, p x → q x) : ∃ x, q x := by
  obtain ⟨x, hx⟩ := h
  exact ⟨x, f x hx⟩

/-- A SLICE OF THE CALL's OWN HAS BEEN APPENDED TO: what it owns now; what else has turned (new blocks, its own row behind its old end). -/
structure App (B : Nat) (e : TypeId) (w : World) (v : Value) (xs : List Value) (w' : World) (v' : Value) (xs' : List Value) : Prop where
  own : w'.ownsRow B e 1 v' xs'.length xs'
  grown : w.grownBy w' v.ownBlock
  loc : v'.ownBlock = v.ownBlock ∨ ∃ k, v'.ownBlock = some k ∧ w.heap.size ≤ k
  len : xs.length ≤ xs'.length
  keep : ∀ g, v.ownBlock = some g → ∀ j, j < xs.length → w'.cell? ⟨g, j, none⟩ = w.cell? ⟨g, j, none⟩

theorem own_lt {w : World} {B : Nat} {e : TypeId} {size : Nat} {v : Value} {n : Nat} {xs : List Value} (h : w.ownsRow B e size v n xs) {g : Nat} (hg : v.ownBlock = some g) : B ≤ g ∧ g < w.heap.size ∧ ∃ cur, w.heap[g]? = some (.cells cur e (0, 0)) := by
  rcases h.2 with ⟨h0, _⟩ | ⟨g', cap', cur, h0, hb, hg', _⟩
  · subst h0; cases hg
  · subst h0
    simp only [Value.ownBlock, Option.some.injEq] at hg
    subst hg
    exact ⟨hb, (Array.getElem?_eq_some_iff.1 hg').1, cur, hg'⟩

theorem App.refl {B : Nat} {e : TypeId} {w : World} {v : Value} {xs : List Value} (h : w.ownsRow B e 1 v xs.length xs) : App B e w v xs w v xs :=
  ⟨h, World.grownBy.refl _ _, Or.inl rfl, Nat.le_refl _, fun _ _ _ _ => rfl⟩

theorem App.trans {B : Nat} {e : TypeId} {w w1 w2 : World} {v v1 v2 : Value} {xs xs1 xs2 : List Value} (h0 : w.ownsRow B e 1 v xs.length xs) (h1 : App B e w v xs w1 v1 xs1) (h2 : App B e w1 v1 xs1 w2 v2 xs2) : App B e w v xs w2 v2 xs2 := by
  have far : ∀ i, i < w.heap.size → some i ≠ v.ownBlock → some i ≠ v1.ownBlock := fun i hi hne => by
    rcases h1.loc with hl | ⟨k, hk, hle⟩
    · rw [hl]; exact hne
    · rw [hk]; intro e; simp only [Option.some.injEq] at e; omega
  refine ⟨h2.own, ⟨h2.grown.os.trans h1.grown.os, h2.grown.tape.trans h1.grown.tape, h2.grown.output.trans h1.grown.output, Nat.le_trans h1.grown.size h2.grown.size, fun i hi hne => ?_⟩, ?_, Nat.le_trans h1.len h2.len, fun g hg j hj => ?_⟩
  · rw [h2.grown.block i (Nat.lt_of_lt_of_le hi h1.grown.size) (far i hi hne), h1.grown.block i hi hne]
  · rcases h2.loc with hl | ⟨k, hk, hle⟩
    · rw [hl]; exact h1.loc
    · exact Or.inr ⟨k, hk, Nat.le_trans h1.grown.size hle⟩
  · rw [← h1.keep g hg j hj]
    by_cases e1 : v1.ownBlock = some g
    · exact h2.keep g e1 j (Nat.lt_of_lt_of_le hj h1.len)
    · obtain ⟨_, hlt, _⟩ := own_lt h0 hg
      exact World.cell?_of_block (w := w1) (h2.grown.block g (Nat.lt_of_lt_of_le hlt h1.grown.size) (fun e => e1 e.symm))

/-- A block laid ahead of it. -/
theorem App.behind {B : Nat} {e : TypeId} {w w1 : World} {v v1 : Value} {xs xs1 : List Value} (h0 : w.ownsRow B e 1 v xs.length xs) {o : Obj} (h : App B e (w.alloc o) v xs w1 v1 xs1) : App B e w v xs w1 v1 xs1 := by
  refine ⟨h.own, ⟨h.grown.os, h.grown.tape, h.grown.output, by have := h.grown.size; simp at this; omega, fun i hi hne => ?_⟩, ?_, h.len, fun g hg j hj => ?_⟩
  · rw [h.grown.block i (by simp; omega) hne, Below.heap_alloc _ _ _ hi]
  · rcases h.loc with hl | ⟨k, hk, hle⟩
    · exact Or.inl hl
    · exact Or.inr ⟨k, hk, by simp at hle; omega⟩
  · obtain ⟨_, hlt, _⟩ := own_lt h0 hg
    rw [h.keep g hg j hj]
    exact World.cell?_alloc_past _ _ _ hlt

/-- Whatever lies in another block of the past is as it was. -/
theorem App.other {B : Nat} {e : TypeId} {w w1 : World} {v v1 : Value} {xs xs1 : List Value} (h0 : w.ownsRow B e 1 v xs.length xs) (h : App B e w v xs w1 v1 xs1) {k : Nat} {cs : Array Value} {t : TypeId} {fr : Nat × Nat} (hk : w.heap[k]? = some (.cells cs t fr)) (ht : t ≠ e) : w1.heap[k]? = some (.cells cs t fr) := by
  rw [h.grown.block k (Array.getElem?_eq_some_iff.1 hk).1 (fun e0 => by
    obtain ⟨_, _, cur, hc⟩ := own_lt h0 e0.symm
    rw [hk] at hc
    simp only [Option.some.injEq, Obj.cells.injEq] at hc
    exact ht hc.2.1)]
  exact hk

theorem App.below {B : Nat} {e : TypeId} {w w1 W : World} {v v1 : Value} {xs xs1 : List Value} (h0 : w.ownsRow B e 1 v xs.length xs) (h : App B e w v xs w1 v1 xs1) (hb : Below B W w) (hB : B ≤ w.heap.size) : Below B W w1 :=
  hb.grown h.grown hB (fun k hk => (own_lt h0 hk).1)

/-- THE BUILT-IN append, on a row of one-cell elements that the call owns. -/
theorem run_append_app {P : Program} (w : World) (B : Nat) (t ty e : TypeId) (i : TypeInfo) (z : Value) (bytes : Nat) (ht : P.underlying t = some (.slice e)) (hi : P.info? e = some i) (hz : i.zero = some z)
    (hsize : i.size = 1) (hby : i.bytes = bytes) (hzs : z.cells.size = 1) (v : Value) (xs : List Value) (hown : w.ownsRow B e 1 v xs.length xs)
    (a : Addr) (c : Nat) (news : List Value) (hnews : ∀ j u, news[j]? = some u → w.cell? (a.add j) = some u) (h1 : ∀ u ∈ news, u.oneCell' = true)
    (h63 : xs.length + news.length ≤ maxLen) (hbytes : (xs.length + news.length) * bytes ≤ 140737488355328) (hbase : B ≤ w.heap.size) :
    ∃ v' w', (Builtin.append_ #[t, t] ty #[v, .slice (some a) news.length c]).run P w = .ok v' w' ∧ App B e w v xs w' v' (xs ++ news) := by
  obtain ⟨v', w', hr, h2, h3, _, h5⟩ := run_append_own_at (P := P) w B t ty e i z 1 bytes ht hi hz hsize hby hzs (by decide) v xs.length xs hown a news.length c news (by simp) hnews h1 h63 hbytes hbase
  have hl : (xs ++ news).length = xs.length + news.length := by simp
  refine ⟨v', w', hr, by rw [hl]; exact h2, h3, ?_, by simp, ?_⟩
  · rcases h5 with h | h
    · exact Or.inl h
    · exact Or.inr ⟨_, h, Nat.le_refl _⟩
  · intro g hg j hj
    have hold : ∀ {w0 : World} {v0 : Value} {n : Nat} {ys : List Value}, w0.ownsRow B e 1 v0 n ys → v0.ownBlock = some g → ∀ u, ys[j]? = some u → w0.cell? ⟨g, j, none⟩ = some u := by
      intro w0 v0 n ys ho hb u hu
      rcases ho.2 with ⟨h0, _⟩ | ⟨g', cap', cur, h0, _, hg', _, _, _, ht'⟩
      · subst h0; cases hb
      · subst h0
        simp only [Value.ownBlock, Option.some.injEq] at hb
        subst hb
        rw [← ht', List.getElem?_take] at hu
        split at hu
        · simp only [World.cell?, hg']
          simpa using hu
        · cases hu
    have hju : xs[j]? = some xs[j] := List.getElem?_eq_getElem hj
    by_cases e1 : v'.ownBlock = some g
    · rw [hold h2 e1 xs[j] (by rw [List.getElem?_append_left hj]; exact hju), hold hown hg xs[j] hju]
    · -- the row has moved: the old one is as it was
      rcases hown.2 with ⟨h0, _⟩ | ⟨g', cap, cur, h0, hbg, hg', hnc, hcm, hcs, ht'⟩
      · subst h0; cases hg
      · subst h0
        simp only [Value.ownBlock, Option.some.injEq] at hg
        subst hg
        by_cases hroom : xs.length + news.length ≤ cap
        · obtain ⟨w2, hr2, _⟩ := run_append_fits (P := P) w B t ty e i 1 ht hi hsize g' xs.length cap xs hown a news.length c news (by simp) hnews h1 hroom
          rw [hr] at hr2
          simp only [Result.ok.injEq] at hr2
          rw [hr2.1] at e1
          exact absurd rfl e1
        · have holds : ∀ j u, xs[j]? = some u → w.cell? ((⟨g', 0, none⟩ : Addr).add j) = some u := hown.cells (g := g') rfl
          subst hby
          have hr3 := run_append_grow (P := P) w t ty e i z ht hi hz ⟨g', 0, none⟩ xs.length cap xs (by rw [hsize]; simp) holds a news.length c news (by rw [hsize]; simp) hnews (by omega) (by unfold maxLen at h63; omega) (growslice_fits (by omega) hbytes)
          rw [hr] at hr3
          simp only [Result.ok.injEq] at hr3
          rw [hr3.2]
          exact World.cell?_alloc_past _ _ _ (Array.getElem?_eq_some_iff.1 hg').1

/-- .. AS A LAW OF THE WALK. -/
theorem wpList_append_app {P : Program} (w : World) {ops : Array Oper} {rest : List Oper} {o : Oper} {a : Act} {Q : Exit → Act → World → Prop} (hgd : o.guard = none) (s x : Operand) (t : TypeId)
    (ho : o.op = .call { callee := .builtin .append, args := #[s, x], argTypes := #[t, t] })
    (B : Nat) (e : TypeId) (i : TypeInfo) (z : Value) (bytes : Nat) (ht : P.underlying t = some (.slice e)) (hi : P.info? e = some i) (hz : i.zero = some z)
    (hsize : i.size = 1) (hby : i.bytes = bytes) (hzs : z.cells.size = 1) (v : Value) (xs : List Value) (hs : a.eval s = v) (hown : w.ownsRow B e 1 v xs.length xs)
    (ad : Addr) (m c : Nat) (news : List Value) (hx : a.eval x = .slice (some ad) m c) (hm : m = news.length) (hnews : ∀ j u, news[j]? = some u → w.cell? (ad.add j) = some u) (h1 : ∀ u ∈ news, u.oneCell' = true)
    (h63 : xs.length + news.length ≤ maxLen) (hbytes : (xs.length + news.length) * bytes ≤ 140737488355328) (hbase : B ≤ w.heap.size)
    (h : ∀ v' w', App B e w v xs w' v' (xs ++ news) → wpList P ops Q rest (a.put o.dst v') w') : wpList P ops Q (o :: rest) a w := by
  subst hm
  obtain ⟨v', w', hr, hA⟩ := run_append_app (P := P) w B t o.type e i z bytes ht hi hz hsize hby hzs v xs hown ad c news hnews h1 h63 hbytes hbase
  refine wpList_plain hgd fun K hK => ?_
  unfold Oper.wp execOp
  simp only [ho, resolve, invoke, builtin, Sem.run_bind, Sem.run_pure, Result.andThen_ok, List.map_toArray, List.map_cons, List.map_nil, hs, hx, hr]
  exact hK _ _ (h v' w' hA)
end Go.Proofs.Ybulkdfdc
