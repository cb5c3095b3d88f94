import Derived.Test.YbulkdfeeGreatDoorRows
import Derived.WalkKit
import Derived.ProofKit
import Derived.WalkSpells
import Derived.WalkLawsBesides
import Derived.WalkSmall
import Derived.Deep.QuietTactic
import Derived.BigQuiet
import Derived.Laws.Tables
import Derived.Laws.MakeOwn
import Derived.Laws.OwnMore
import Derived.Great.BuildSlice
import Derived.Deep.RegionHeld3
import Derived.Deep.MidRow
import Derived.Deep.WholeRow
import Derived.Deep.CutRange
import Derived.Maps.AppendAt
import Derived.Deep.AppendLies
import Derived.Laws.ResultCell
import Derived.Laws.Rows
import Derived.Below
import Derived.Lib.SliceRun
namespace Go.Proofs.YbulkdfeeGreatDoor
open Go.ChangeShapes Go.WideShapes Go.ChangeAt Go.RowKit
set_option linter.unusedVariables false
set_option linter.unusedSimpArgs false

theorem gate {P : Program} {w : World} {ops : Array Oper} {rest : List Oper} {o : Oper} {a : Act} {Q : Exit → Act → World → Prop} (d : Option Nat) (hd : o.dst = d) (h : wpList P ops Q (o :: rest) a w) : wpList P ops Q (o :: rest) a w := h
theorem wpList_val {w : World} {ops : Array Oper} {rest : List Oper} {o : Oper} {a : Act} {Q : Exit → Act → World → Prop} (hw : Region.wanted o (yielded ops a.tmps) = true) (v : Value) (hr : (execOp a.eval o).run Ybaz.prog w = .ok (.value v) w)
    (h : wpList Ybaz.prog ops Q rest (a.put o.dst v) w) : wpList Ybaz.prog ops Q (o :: rest) a w :=
  wpList_step fun K hK => by
    rw [if_pos hw]
    unfold Oper.wp
    rw [hr]
    exact hK _ _ h
/-- A goal that is not looked into while terms are read against it. -/
structure Sld (p : Prop) : Prop where
  out : p
theorem Sld.byVal {w : World} {ops : Array Oper} {rest : List Oper} {o : Oper} {a : Act} {Q : Exit → Act → World → Prop} (hw : Region.wanted o (yielded ops a.tmps) = true) (v : Value) (hr : (execOp a.eval o).run Ybaz.prog w = .ok (.value v) w)
    (h : Sld (wpList Ybaz.prog ops Q rest (a.put o.dst v) w)) : Sld (wpList Ybaz.prog ops Q (o :: rest) a w) := ⟨wpList_val hw v hr h.out⟩
theorem Sld.byPast {w : World} {ops : Array Oper} {rest : List Oper} {o : Oper} {a : Act} {Q : Exit → Act → World → Prop} (hw : Region.wanted o (yielded ops a.tmps) = false)
    (h : Sld (wpList Ybaz.prog ops Q rest (a.put o.dst undef) w)) : Sld (wpList Ybaz.prog ops Q (o :: rest) a w) :=
  ⟨by rw [wpList, hw, if_neg Bool.false_ne_true]; exact h.out⟩
theorem exec_load {o : Oper} {a : Act} (ty : TypeId) (x : Operand) (ho : o.op = .load ty x) (b off : Nat) (hx : a.eval x = .pointer (some ⟨b, off, none⟩)) (cs : List Value) (d : TypeDesc) {w : World} (hc : w.rangeAt b off cs)
    (hu : Ybaz.prog.underlying ty = some d) (hd : d.isRow = true) (hi : (Ybaz.prog.info? ty).map (·.size) = some cs.length) : (execOp a.eval o).run Ybaz.prog w = .ok (.value (.agg cs.toArray)) w := by
  unfold execOp
  simp only [ho, hx, Instr.loadAt, Instr.sureAddr, Sem.run_bind, Sem.run_pure, Result.andThen_ok, run_loadVar_mid w b off ty cs d hc hu hd hi]
theorem or_map {a b c d : Prop} (h : a ∨ b) (f : a → c) (g : b → d) : c ∨ d := by
  rcases h with h | h
  · exact Or.inl (f h)
  · exact Or.inr (g h)
theorem heap_new (w : World) (o : Obj) : (w.alloc o).heap[w.heap.size]? = some o := heap_alloc_new w o
theorem step_alloc (w : World) (o : Obj) : Below w.heap.size w (w.alloc o) := (Below.refl _ _).alloc (Nat.le_refl _) _

theorem rangeAt_blk {w w' : World} {g o : Nat} {cs : List Value} (hb : w'.heap[g]? = w.heap[g]?) (h : w.rangeAt g o cs) : w'.rangeAt g o cs := fun j u hu => by
  rw [World.cell?_of_block (w := w) (w' := w') (a := ⟨g, o + j, none⟩) hb]
  exact h j u hu

/-! ### A block whose cells are known -/
def CB (w : World) (g : Nat) (t : TypeId) (cs : List Value) : Prop := w.heap[g]? = some (.cells cs.toArray t (0, 0))
section
variable {w w' : World} {g g' n i B : Nat} {t t' : TypeId} {cs cs' : List Value} {v u : Value}
theorem CB.lt (h : CB w g t cs) : g < w.heap.size := (Array.getElem?_eq_some_iff.1 h).1
theorem CB.cell (h : CB w g t cs) (hu : cs[i]? = some u) : w.cell? ⟨g, i, none⟩ = some u := by
  simp only [World.cell?, show w.heap[g]? = _ from h]
  simpa using hu
theorem CB.froz (h : CB w g t cs) : w.frozen? ⟨g, i, none⟩ = false := by
  simp [World.frozen?, show w.heap[g]? = _ from h]
theorem CB.set (h : CB w g t cs) : CB (w.setCell ⟨g, i, none⟩ v) g t (cs.set i v) := by
  unfold CB at *
  simp [World.setCell, Array.getElem?_modify, h]
theorem CB.other (h : CB w g t cs) (hne : g' ≠ g) : CB (w.setCell ⟨g', i, none⟩ v) g t cs := by
  unfold CB at *
  simp [World.setCell, Array.getElem?_modify, h, hne]
theorem CB.new (w : World) : CB (w.alloc (.cells cs.toArray t)) w.heap.size t cs := heap_new _ _
theorem CB.alloc (h : CB w g t cs) (o : Obj) : CB (w.alloc o) g t cs := by
  have hl := h.lt
  unfold CB at *
  rw [Below.heap_alloc _ _ _ hl]; exact h
theorem CB.below (h : CB w g t cs) (hB : Below B w w') (hg : g < B) : CB w' g t cs := by
  unfold CB at *
  rw [hB.block _ hg]; exact h
theorem CB.grown {row : Option Nat} (h : CB w g t cs) (hG : w.grownBy w' row) (hne : row ≠ some g) : CB w' g t cs := by
  have hl := h.lt
  unfold CB at *
  rw [hG.block g hl (fun e => hne e.symm)]; exact h
theorem CB.apart (h : CB w g t cs) (h' : CB w g' t' cs') (ht : t ≠ t') : g ≠ g' := by
  intro e; subst e
  have := h.symm.trans h'
  simp only [Option.some.injEq, Obj.cells.injEq] at this
  exact ht this.2.1
theorem CB.range (h : CB w g t cs) : w.rangeAt g 0 cs := fun j u hu => by
  have := h.cell hu
  simpa using this
theorem CB.drew (h : CB w g t cs) : CB w.drew g t cs := h
end

def fcells (n : Nat) (f : Nat → Int) : List Value := (List.range n).map (fun i => Value.int .i64 (f i))
def bcells (n : Nat) (f : Nat → Bool) : List Value := (List.range n).map (fun i => Value.bool (f i))
theorem len_fcells (n : Nat) (f : Nat → Int) : (fcells n f).length = n := by simp [fcells]
theorem len_bcells (n : Nat) (f : Nat → Bool) : (bcells n f).length = n := by simp [bcells]
theorem get_fcells {n i : Nat} (f : Nat → Int) (h : i < n) : (fcells n f)[i]? = some (.int .i64 (f i)) := by simp [fcells, h]
theorem get_bcells {n i : Nat} (f : Nat → Bool) (h : i < n) : (bcells n f)[i]? = some (.bool (f i)) := by simp [bcells, h]
theorem set_fcells (n i : Nat) (f : Nat → Int) (y : Int) : (fcells n f).set i (.int .i64 y) = fcells n (fun j => if j = i then y else f j) := by
  refine List.ext_getElem? fun j => ?_
  rw [List.getElem?_set]
  simp only [fcells, List.length_map, List.length_range]
  by_cases hj : j < n
  · by_cases e : i = j
    · subst e; simp [hj]
    · have e' : ¬ j = i := fun h => e h.symm
      simp [hj, e, e']
  · by_cases e : i = j
    · subst e; simp [hj]
    · simp [hj, e]
theorem set_bcells (n i : Nat) (f : Nat → Bool) (y : Bool) : (bcells n f).set i (.bool y) = bcells n (fun j => if j = i then y else f j) := by
  refine List.ext_getElem? fun j => ?_
  rw [List.getElem?_set]
  simp only [bcells, List.length_map, List.length_range]
  by_cases hj : j < n
  · by_cases e : i = j
    · subst e; simp [hj]
    · have e' : ¬ j = i := fun h => e h.symm
      simp [hj, e, e']
  · by_cases e : i = j
    · subst e; simp [hj]
    · simp [hj, e]
theorem fcells_congr {n : Nat} {f f' : Nat → Int} (h : ∀ i, i < n → f i = f' i) : fcells n f = fcells n f' := by
  unfold fcells
  exact List.map_congr_left fun i hi => by rw [h i (by simpa using hi)]
theorem bcells_congr {n : Nat} {f f' : Nat → Bool} (h : ∀ i, i < n → f i = f' i) : bcells n f = bcells n f' := by
  unfold bcells
  exact List.map_congr_left fun i hi => by rw [h i (by simpa using hi)]

/-- A row of numbers, of flags. -/
def FB (w : World) (g n : Nat) (f : Nat → Int) : Prop := CB w g 3 (fcells n f)
def BB (w : World) (g n : Nat) (f : Nat → Bool) : Prop := CB w g 4 (bcells n f)
section
variable {w w' : World} {g g' n i B : Nat} {f f' : Nat → Int} {b b' : Nat → Bool} {v : Value}
theorem FB.cell (h : FB w g n f) (hi : i < n) : w.cell? ⟨g, i, none⟩ = some (.int .i64 (f i)) := CB.cell h (get_fcells f hi)
theorem BB.cell (h : BB w g n b) (hi : i < n) : w.cell? ⟨g, i, none⟩ = some (.bool (b i)) := CB.cell h (get_bcells b hi)
theorem FB.set (h : FB w g n f) (i : Nat) (y : Int) : FB (w.setCell ⟨g, i, none⟩ (.int .i64 y)) g n (fun j => if j = i then y else f j) := by
  have := CB.set (i := i) (v := .int .i64 y) h
  rw [set_fcells] at this; exact this
theorem BB.set (h : BB w g n b) (i : Nat) (y : Bool) : BB (w.setCell ⟨g, i, none⟩ (.bool y)) g n (fun j => if j = i then y else b j) := by
  have := CB.set (i := i) (v := .bool y) h
  rw [set_bcells] at this; exact this
theorem FB.congr (h : FB w g n f) (e : ∀ i, i < n → f i = f' i) : FB w g n f' := by unfold FB at *; rw [← fcells_congr e]; exact h
theorem BB.congr (h : BB w g n b) (e : ∀ i, i < n → b i = b' i) : BB w g n b' := by unfold BB at *; rw [← bcells_congr e]; exact h
end

/-! ### make -/
theorem inf3 : (Ybaz.prog.info? 3).map (fun i => (i.zero, i.size, i.bytes)) = some (some (.int .i64 0), 1, 8) := by kernel_rfl
theorem inf4 : (Ybaz.prog.info? 4).map (fun i => (i.zero, i.size, i.bytes)) = some (some (.bool false), 1, 1) := by kernel_rfl
def usZ : Value := .agg #[.int .i64 0, .int .i64 0, .int .i64 0, .int .i64 0, .int .i64 0, .int .i64 0, .int .i64 0]
theorem inf36 : (Ybaz.prog.info? 36).map (fun i => (i.zero, i.size, i.bytes)) = some (some usZ, 7, 56) := by kernel_rfl
theorem info_parts {t : TypeId} {z : Option Value} {s b : Nat} (h : (Ybaz.prog.info? t).map (fun i => (i.zero, i.size, i.bytes)) = some (z, s, b)) : ∃ i, Ybaz.prog.info? t = some i ∧ i.zero = z ∧ i.size = s ∧ i.bytes = b := by
  cases hi : Ybaz.prog.info? t with
  | none => rw [hi] at h; cases h
  | some i =>
    rw [hi] at h
    simp only [Option.map_some, Option.some.injEq, Prod.mk.injEq] at h
    exact ⟨i, rfl, h.1, h.2.1, h.2.2⟩
theorem made_one (z : Value) (n : Nat) : madeCells #[z] n = ((List.range n).map (fun _ => z)).toArray := by
  unfold madeCells
  apply Array.ext'
  simp only [Array.toList_map, Array.toList_range]
  refine List.map_congr_left fun i hi => ?_
  simp [Nat.mod_one]
theorem run_make28 (w : World) (n : Nat) (hn : n ≤ 10000000) : (Instr.makeSlice 28 (.int .i64 n) (.int .i64 n)).run Ybaz.prog w = .ok (.slice (some ⟨w.heap.size, 0, none⟩) n n) (w.alloc (.cells (fcells n (fun _ => 0)).toArray 3)) := by
  obtain ⟨i, hi, hz, hs, hb⟩ := info_parts inf3
  have := run_makeSlice (P := Ybaz.prog) w 28 3 i (.int .i64 0) Ybaz.underlying28 hi hz .i64 .i64 n n (by omega) (by omega) (by rw [hs]; simp; omega) (by rw [hb]; omega) (by omega)
  rw [this, hs]
  simp only [Int.toNat_natCast, Nat.mul_one, Value.cells, made_one]
  rfl
theorem run_make41 (w : World) (n : Nat) (hn : n ≤ 10000000) : (Instr.makeSlice 41 (.int .i64 n) (.int .i64 n)).run Ybaz.prog w = .ok (.slice (some ⟨w.heap.size, 0, none⟩) n n) (w.alloc (.cells (bcells n (fun _ => false)).toArray 4)) := by
  obtain ⟨i, hi, hz, hs, hb⟩ := info_parts inf4
  have := run_makeSlice (P := Ybaz.prog) w 41 4 i (.bool false) Ybaz.underlying41 hi hz .i64 .i64 n n (by omega) (by omega) (by rw [hs]; simp; omega) (by rw [hb]; omega) (by omega)
  rw [this, hs]
  simp only [Int.toNat_natCast, Nat.mul_one, Value.cells, made_one]
  rfl
theorem step_make28 {w : World} {ops : Array Oper} {o : Oper} {a : Act} {K : Act → World → Prop} {Q : Exit → Act → World → Prop} {E : Prop} (hgd : o.guard = none) (x y : Operand) (ho : o.op = .makeSlice 28 x y) (n : Nat) (hn : n ≤ 10000000)
    (hx : a.eval x = .int .i64 n) (hy : a.eval y = .int .i64 n)
    (h : K (a.put o.dst (.slice (some ⟨w.heap.size, 0, none⟩) n n)) (w.alloc (.cells (fcells n (fun _ => 0)).toArray 3))) : if Region.wanted o (yielded ops a.tmps) = true then Oper.wp Ybaz.prog o a w K Q else E := by
  have hw : Region.wanted o (yielded ops a.tmps) = true := by simp [Region.wanted, hgd]
  rw [if_pos hw]
  unfold Oper.wp execOp
  simp only [ho, hx, hy, Sem.run_bind, run_make28 w n hn, Result.andThen_ok]
  exact h
theorem step_make41 {w : World} {ops : Array Oper} {o : Oper} {a : Act} {K : Act → World → Prop} {Q : Exit → Act → World → Prop} {E : Prop} (hgd : o.guard = none) (x y : Operand) (ho : o.op = .makeSlice 41 x y) (n : Nat) (hn : n ≤ 10000000)
    (hx : a.eval x = .int .i64 n) (hy : a.eval y = .int .i64 n)
    (h : K (a.put o.dst (.slice (some ⟨w.heap.size, 0, none⟩) n n)) (w.alloc (.cells (bcells n (fun _ => false)).toArray 4))) : if Region.wanted o (yielded ops a.tmps) = true then Oper.wp Ybaz.prog o a w K Q else E := by
  have hw : Region.wanted o (yielded ops a.tmps) = true := by simp [Region.wanted, hgd]
  rw [if_pos hw]
  unfold Oper.wp execOp
  simp only [ho, hx, hy, Sem.run_bind, run_make41 w n hn, Result.andThen_ok]
  exact h

/-! ### Numbers at an address -/
def IA (w : World) (a : Option Addr) (xs : List Int) : Prop := ∀ i x, xs[i]? = some x → ∃ g o, a = some ⟨g, o, none⟩ ∧ g < w.heap.size ∧ w.cell? ⟨g, o + i, none⟩ = some (.int .i64 x)
theorem IA.below {w w' : World} {a : Option Addr} {xs : List Int} (h : IA w a xs) (hB : Below w.heap.size w w') : IA w' a xs := fun i x hx => by
  obtain ⟨g, o, ha, hg, hc⟩ := h i x hx
  exact ⟨g, o, ha, Nat.lt_of_lt_of_le hg hB.size, by rw [hB.cell hg]; exact hc⟩

/-! ### A row of numbers that the call owns -/
def OI (B : Nat) (w : World) (v : Value) (xs : List Int) : Prop := w.ownsRow B 3 1 v xs.length (xs.map (Value.int .i64))
theorem OI.nil (B : Nat) (w : World) : OI B w (.slice none 0 0) [] := ⟨rfl, Or.inl ⟨rfl, rfl⟩⟩
theorem own_tag {w : World} {B : Nat} {e : TypeId} {s : Nat} {v : Value} {n : Nat} {xs : List Value} (h : w.ownsRow B e s v n xs) {g : Nat} (hg : v.ownBlock = some g) : B ≤ g ∧ g < w.heap.size ∧ ∃ cur, w.heap[g]? = some (.cells cur e (0, 0)) := by
  rcases h.2 with ⟨h0, _⟩ | ⟨g', cap', cur, h0, hb, hg', _⟩
  · subst h0; cases hg
  · subst h0
    simp only [Value.ownBlock, Option.some.injEq] at hg
    subst hg
    exact ⟨hb, (Array.getElem?_eq_some_iff.1 hg').1, cur, hg'⟩
theorem own_ne {w : World} {B : Nat} {e : TypeId} {s : Nat} {v : Value} {n : Nat} {xs : List Value} (h : w.ownsRow B e s v n xs) {g : Nat} {t : TypeId} {cs : List Value} (hc : CB w g t cs) (ht : t ≠ e) : v.ownBlock ≠ some g := fun hg => by
  obtain ⟨_, _, cur, hcur⟩ := own_tag h hg
  have := hc.symm.trans hcur
  simp only [Option.some.injEq, Obj.cells.injEq] at this
  exact ht this.2.1
theorem own_keep {w w' : World} {B : Nat} {e : TypeId} {s : Nat} {v : Value} {n : Nat} {xs : List Value} (h : w.ownsRow B e s v n xs) (hk : ∀ g, v.ownBlock = some g → w'.heap[g]? = w.heap[g]?) : w'.ownsRow B e s v n xs := by
  refine ⟨h.1, or_map h.2 id fun ⟨g, cap, cur, h0, hb, hg, hr⟩ => ⟨g, cap, cur, h0, hb, ?_, hr⟩⟩
  rw [hk g (by rw [h0]; rfl)]; exact hg
theorem own_set {w : World} {B : Nat} {e : TypeId} {s : Nat} {v : Value} {n : Nat} {xs : List Value} (h : w.ownsRow B e s v n xs) {g i : Nat} {u : Value} (hne : v.ownBlock ≠ some g) : (w.setCell ⟨g, i, none⟩ u).ownsRow B e s v n xs :=
  own_keep h fun k hk => by
    have : g ≠ k := fun e => hne (by rw [e]; exact hk)
    simp [World.setCell, Array.getElem?_modify, this]
theorem own_alloc {w : World} {B : Nat} {e : TypeId} {s : Nat} {v : Value} {n : Nat} {xs : List Value} (h : w.ownsRow B e s v n xs) (o : Obj) : (w.alloc o).ownsRow B e s v n xs :=
  own_keep h fun k hk => Below.heap_alloc _ _ _ (own_tag h hk).2.1
theorem own_below {w w' : World} {B : Nat} {e : TypeId} {s : Nat} {v : Value} {n : Nat} {xs : List Value} (h : w.ownsRow B e s v n xs) (hB : Below w.heap.size w w') : w'.ownsRow B e s v n xs :=
  own_keep h fun k hk => hB.block k (own_tag h hk).2.1
theorem own_grown {w w' : World} {B : Nat} {e : TypeId} {s : Nat} {v : Value} {n : Nat} {xs : List Value} (h : w.ownsRow B e s v n xs) {row : Option Nat} (hG : w.grownBy w' row) (hne : ∀ g, v.ownBlock = some g → row ≠ some g) : w'.ownsRow B e s v n xs :=
  own_keep h fun k hk => hG.block k (own_tag h hk).2.1 (fun e => hne k hk e.symm)
theorem OI.lies {B : Nat} {w : World} {v : Value} {xs : List Int} (h : OI B w v xs) : ∃ a cap, v = .slice a xs.length cap ∧ IA w a xs := by
  rcases h.2 with ⟨h0, h1⟩ | ⟨g, cap, cur, h0, _, hg, hr⟩
  · obtain rfl : xs = [] := List.eq_nil_of_length_eq_zero h1
    exact ⟨none, 0, h0, fun i x hx => by simp at hx⟩
  · refine ⟨_, cap, h0, fun i x hx => ⟨g, 0, rfl, (Array.getElem?_eq_some_iff.1 hg).1, ?_⟩⟩
    have := h.cells (g := g) (by rw [h0]; rfl) i (.int .i64 x) (by rw [List.getElem?_map, hx]; rfl)
    rw [← add_plain]; exact this
theorem grown_behind {w w1 : World} {row : Option Nat} {o : Obj} (h : (w.alloc o).grownBy w1 row) : w.grownBy w1 row :=
  ⟨h.os, h.tape, h.output, by have := h.size; simp at this; omega, fun i hi hne => by rw [h.block i (by simp; omega) hne, Below.heap_alloc _ _ _ hi]⟩

theorem run_buildInt (w : World) (x : Int) : (Instr.buildSlice 28 1 #[(0, .int .i64 x)]).run Ybaz.prog w = .ok (.slice (some ⟨w.heap.size, 0, none⟩) 1 1) (w.alloc (.cells #[.int .i64 x] 3)) := by
  obtain ⟨i, hi, hz, hs, hb⟩ := info_parts inf3
  refine run_buildSlice w 28 3 1 _ #[.int .i64 x] i (.int .i64 0) Ybaz.underlying28 hi hz (by rw [hs]; omega) (by rw [hs]; omega) ?_
  rw [hs]; kernel_rfl
/-- 'append(xs, x)' -/
theorem run_appendInt (w : World) (B : Nat) (v : Value) (xs : List Int) (x : Int) (ty : TypeId) (h : OI B w v xs) (hl : xs.length ≤ 10000000) (hB : B ≤ w.heap.size) :
    ∃ v' w', (Builtin.append_ #[28, 28] ty #[v, .slice (some ⟨w.heap.size, 0, none⟩) 1 1]).run Ybaz.prog (w.alloc (.cells #[.int .i64 x] 3)) = .ok v' w' ∧ OI B w' v' (xs ++ [x]) ∧ w.grownBy w' v.ownBlock ∧ (v'.ownBlock = v.ownBlock ∨ ∃ k, v'.ownBlock = some k ∧ w.heap.size ≤ k) := by
  obtain ⟨i, hi, hz, hs, hb⟩ := info_parts inf3
  have h0 : (w.alloc (.cells #[.int .i64 x] 3)).ownsRow B 3 1 v xs.length (xs.map (Value.int .i64)) := own_alloc h _
  obtain ⟨v', w', hr, h2, h3, _, h5⟩ := run_append_own_at (P := Ybaz.prog) (w.alloc (.cells #[.int .i64 x] 3)) B 28 ty 3 i (.int .i64 0) 1 8 Ybaz.underlying28 hi hz hs hb rfl (by decide) v xs.length _ h0 ⟨w.heap.size, 0, none⟩ 1 1 [.int .i64 x] rfl (fun j u hu => by
    rw [add_plain, Nat.zero_add]
    exact CB.cell (CB.new (cs := [.int .i64 x]) w) hu) (fun u hu => by simp at hu; subst hu; rfl) (by unfold maxLen; omega) (by omega) (by simp; omega)
  refine ⟨v', w', hr, ?_, grown_behind h3, or_map h5 id (fun h => ⟨_, h, by simp⟩)⟩
  unfold OI
  rw [List.length_append, List.map_append]; exact h2
theorem wpList_buildInt {w : World} {ops : Array Oper} {rest : List Oper} {o : Oper} {a : Act} {Q : Exit → Act → World → Prop} (hg : o.guard = none) (x : Operand) (ho : o.op = .buildSlice 28 1 #[(0, x)]) (y : Int) (hx : a.eval x = .int .i64 y)
    (h : wpList Ybaz.prog ops Q rest (a.put o.dst (.slice (some ⟨w.heap.size, 0, none⟩) 1 1)) (w.alloc (.cells #[.int .i64 y] 3))) : wpList Ybaz.prog ops Q (o :: rest) a w :=
  wpList_plain hg fun K hK => by
    unfold Oper.wp execOp
    simp only [ho, List.map_toArray, List.map_cons, List.map_nil, hx, Sem.run_bind, run_buildInt w y, Result.andThen_ok]
    exact hK _ _ h
theorem wpList_appendInt (w : World) {ops : Array Oper} {rest : List Oper} {o : Oper} {a : Act} {Q : Exit → Act → World → Prop} (hgd : o.guard = none) (s x : Operand)
    (ho : o.op = .call { callee := .builtin .append, args := #[s, x], argTypes := #[28, 28] })
    (B : Nat) (v : Value) (xs : List Int) (y : Int) (hs : a.eval s = v) (hx : a.eval x = .slice (some ⟨w.heap.size, 0, none⟩) 1 1) (hown : OI B w v xs) (hl : xs.length ≤ 10000000) (hB : B ≤ w.heap.size)
    (h : ∀ v' w', OI B w' v' (xs ++ [y]) → w.grownBy w' v.ownBlock → (v'.ownBlock = v.ownBlock ∨ ∃ k, v'.ownBlock = some k ∧ w.heap.size ≤ k) → wpList Ybaz.prog ops Q rest (a.put o.dst v') w') : wpList Ybaz.prog ops Q (o :: rest) a (w.alloc (.cells #[.int .i64 y] 3)) := by
  obtain ⟨v', w', hr, h2, h3, h4⟩ := run_appendInt w B v xs y o.type hown hl hB
  refine wpList_plain hgd fun K hK => ?_
  unfold Oper.wp execOp
  simp only [ho, resolve, invoke, builtin, Sem.run_bind, Sem.run_pure, Result.andThen_ok, List.map_toArray, List.map_cons, List.map_nil, hs, hx, hr]
  exact hK _ _ (h v' w' h2 h3 h4)
end Go.Proofs.YbulkdfeeGreatDoor
