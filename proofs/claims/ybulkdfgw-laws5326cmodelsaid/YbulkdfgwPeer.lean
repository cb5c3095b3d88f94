import Derived.Test.YbulkdfgwRows
import Derived.WalkKit
import Derived.ProofKit
import Derived.WalkSpells
import Derived.WalkLawsBesides
import Derived.WalkSmall
import Derived.Deep.QuietTactic
import Derived.BigQuiet
import Derived.Laws.Tables
import Derived.Great.BuildSlice
import Derived.Deep.RegionHeld3
import Derived.Deep.MidRow
import Derived.Deep.WholeRow
import Derived.Stop.BytesEq
import Derived.Lib.Bytealg
import Derived.Laws.ResultCell
import Derived.Laws.Rows
namespace Go.Proofs.Ybulkdfgw
open Go.ChangeShapes Go.WideShapes Go.ChangeAt Go.RowKit
open Extern.Stop (cell)
set_option linter.unusedVariables false
set_option linter.unusedSimpArgs false

structure Pr where
  ad : ByteArray
  id : List UInt8
def idC (x : List UInt8) : List Value := x.map cell
def Pr.cells (p : Pr) : List Value := .string p.ad :: idC p.id
structure Pr.Ok (p : Pr) : Prop where
  len : p.id.length = 20
def eqP (p q : Pr) : Bool := p.ad.toList == q.ad.toList && p.id == q.id
def zeroP : Pr := ⟨⟨#[]⟩, List.replicate 20 0⟩
theorem zeroP_ok : zeroP.Ok := ⟨rfl⟩
theorem built67 : Yba.prog.built 67 [] = some zeroP.cells.toArray := by kernel_rfl
theorem len_idC (x : List UInt8) : (idC x).length = x.length := by simp [idC]
theorem one_idC (x : List UInt8) : ∀ u ∈ idC x, u.oneCell' = true := by
  intro u hu; obtain ⟨b, _, rfl⟩ := List.mem_map.1 hu; rfl
theorem Pr.Ok.cells {p : Pr} (h : p.Ok) : p.cells.length = 21 := by simp [Pr.cells, len_idC, h.len]
theorem Pr.one (p : Pr) : ∀ u ∈ p.cells, u.oneCell' = true := by
  intro u hu
  rcases List.mem_cons.1 hu with rfl | hu
  · rfl
  · exact one_idC _ u hu

theorem size5 (w : World) : (sizeOf 5).run Yba.prog w = .ok 1 w := by kernel_rfl
theorem fields67 : (Yba.prog.fieldsOf 67).toList.map (fun f => (f.name, f.type, f.offset)) = [("Addr", 9, 0), ("ID", 65, 1)] := by kernel_rfl
theorem under67 : Yba.prog.underlying 67 = some (.struct (Yba.prog.fieldsOf 67)) := by kernel_rfl
theorem held67 : Yba.prog.stoodInHeld 67 = false := by kernel_rfl
theorem size65 (w : World) : (sizeOf 65).run Yba.prog w = .ok 20 w := by kernel_rfl

theorem run_eqIn65 (d : Nat) (x y : List UInt8) (hx : x.length = 20) (hy : y.length = 20) (w : World) : (Op.equalIn (d + 2) 65 (.agg (idC x).toArray) (.agg (idC y).toArray)).run Yba.prog w = .ok (x == y) w :=
  run_equalIn_bytes w d 65 5 20 Yba.underlying65 Yba.underlying5 size5 x y hx hy
theorem run_eql65 (x y : List UInt8) (hx : x.length = 20) (hy : y.length = 20) (w : World) : (binOp .eql 65 (.agg (idC x).toArray) (.agg (idC y).toArray)).run Yba.prog w = .ok (.bool (x == y)) w :=
  run_eql_bytes w 65 5 20 Yba.underlying65 Yba.underlying5 size5 x y hx hy

theorem part9 (p : Pr) (w : World) : (part 9 p.cells.toArray 0).run Yba.prog w = .ok (.string p.ad) w := by
  simp [part, isAgg, run_underlying Yba.underlying9, Pr.cells]
theorem part65 (p : Pr) (h : p.Ok) (w : World) : (part 65 p.cells.toArray 1).run Yba.prog w = .ok (.agg (idC p.id).toArray) w := by
  have hl := len_idC p.id
  have h20 := h.len
  simp [part, isAgg, run_underlying Yba.underlying65, Pr.cells, size65]
  exact List.take_of_length_le (by omega)

theorem run_eqIn67 (d : Nat) (p q : Pr) (hp : p.Ok) (hq : q.Ok) (w : World) : (Op.equalIn (d + 3) 67 (.agg p.cells.toArray) (.agg q.cells.toArray)).run Yba.prog w = .ok (eqP p q) w := by
  rw [run_equalIn_struct w (d + 2) 67 _ _ under67 held67]
  have hf := fields67
  generalize (Yba.prog.fieldsOf 67).toList = fs at hf
  rcases fs with _ | ⟨f0, _ | ⟨f1, _ | ⟨f2, fs⟩⟩⟩ <;> simp at hf
  obtain ⟨⟨n0, t0, o0⟩, ⟨n1, t1, o1⟩⟩ := hf
  simp only [Op.eqFields, n0, n1, t0, t1, o0, o1]
  simp [part9, part65 _ hp, part65 _ hq, run_equalIn_string w (d + 1) 9 p.ad q.ad Yba.underlying9, run_eqIn65 d _ _ hp.len hq.len]
  unfold eqP
  by_cases h1 : p.ad.toList = q.ad.toList <;> by_cases h2 : p.id = q.id <;> simp [h1, h2]

theorem run_eql67 (p q : Pr) (hp : p.Ok) (hq : q.Ok) (w : World) : (binOp .eql 67 (.agg p.cells.toArray) (.agg q.cells.toArray)).run Yba.prog w = .ok (.bool (eqP p q)) w := by
  rw [run_eql_struct, run_eqIn67 9997 p q hp hq]; rfl
theorem run_neq67 (p q : Pr) (hp : p.Ok) (hq : q.Ok) (w : World) : (binOp .neq 67 (.agg p.cells.toArray) (.agg q.cells.toArray)).run Yba.prog w = .ok (.bool (!eqP p q)) w := by
  rw [run_neq_struct, run_eqIn67 9997 p q hp hq]; rfl
theorem guard67 : Yba.prog.eqGuardType Yba.prog.depth 67 = false := by kernel_rfl
theorem guard65 : Yba.prog.eqGuardType Yba.prog.depth 65 = false := by kernel_rfl

theorem exec_eql67 {o : Oper} {x y : Operand} (ho : o.op = .binOp .eql 67 x y 67) {a : Act} {p q : Pr} (hx : a.eval x = .agg p.cells.toArray) (hy : a.eval y = .agg q.cells.toArray) (hp : p.Ok) (hq : q.Ok) (w : World) :
    (execOp a.eval o).run Yba.prog w = .ok (.value (.bool (eqP p q))) w := by
  unfold execOp
  simp only [ho, hx, hy, Sem.run_bind, run_eqGuard_agg w .eql 67 x y _ _ guard67, run_eql67 p q hp hq, Result.andThen_ok, Sem.run_pure]
theorem exec_neq67 {o : Oper} {x y : Operand} (ho : o.op = .binOp .neq 67 x y 67) {a : Act} {p q : Pr} (hx : a.eval x = .agg p.cells.toArray) (hy : a.eval y = .agg q.cells.toArray) (hp : p.Ok) (hq : q.Ok) (w : World) :
    (execOp a.eval o).run Yba.prog w = .ok (.value (.bool (!eqP p q))) w := by
  unfold execOp
  simp only [ho, hx, hy, Sem.run_bind, run_eqGuard_agg w .neq 67 x y _ _ guard67, run_neq67 p q hp hq, Result.andThen_ok, Sem.run_pure]
theorem exec_eql65 {o : Oper} {x y : Operand} (ho : o.op = .binOp .eql 65 x y 65) {a : Act} {p q : List UInt8} (hx : a.eval x = .agg (idC p).toArray) (hy : a.eval y = .agg (idC q).toArray) (hp : p.length = 20) (hq : q.length = 20) (w : World) :
    (execOp a.eval o).run Yba.prog w = .ok (.value (.bool (p == q))) w := by
  unfold execOp
  simp only [ho, hx, hy, Sem.run_bind, run_eqGuard_agg w .eql 65 x y _ _ guard65, run_eql65 p q hp hq, Result.andThen_ok, Sem.run_pure]

theorem wpList_exec {w : World} {ops : Array Oper} {rest : List Oper} {o : Oper} {a : Act} {Q : Exit → Act → World → Prop} (hgd : o.guard = none) (v : Value) (hr : (execOp a.eval o).run Yba.prog w = .ok (.value v) w)
    (h : wpList Yba.prog ops Q rest (a.put o.dst v) w) : wpList Yba.prog ops Q (o :: rest) a w :=
  wpList_plain hgd fun K hK => by
    unfold Oper.wp
    rw [hr]
    exact hK _ _ h
theorem wpList_val {w : World} {ops : Array Oper} {rest : List Oper} {o : Oper} {a : Act} {Q : Exit → Act → World → Prop} (hw : Region.wanted o (yielded ops a.tmps) = true) (v : Value) (hr : (execOp a.eval o).run Yba.prog w = .ok (.value v) w)
    (h : wpList Yba.prog ops Q rest (a.put o.dst v) w) : wpList Yba.prog ops Q (o :: rest) a w :=
  wpList_step fun K hK => by
    rw [if_pos hw]
    unfold Oper.wp
    rw [hr]
    exact hK _ _ h
theorem exec_load {o : Oper} {a : Act} (ty : TypeId) (x : Operand) (ho : o.op = .load ty x) (b off : Nat) (hx : a.eval x = .pointer (some ⟨b, off, none⟩)) (cs : List Value) (d : TypeDesc) {w : World} (hc : w.rangeAt b off cs)
    (hu : Yba.prog.underlying ty = some d) (hd : d.isRow = true) (hi : (Yba.prog.info? ty).map (·.size) = some cs.length) : (execOp a.eval o).run Yba.prog w = .ok (.value (.agg cs.toArray)) w := by
  unfold execOp
  simp only [ho, hx, Instr.loadAt, Instr.sureAddr, Sem.run_bind, Sem.run_pure, Result.andThen_ok, run_loadVar_mid w b off ty cs d hc hu hd hi]
theorem gate {P : Program} {w : World} {ops : Array Oper} {rest : List Oper} {o : Oper} {a : Act} {Q : Exit → Act → World → Prop} (d : Option Nat) (hd : o.dst = d) (h : wpList P ops Q (o :: rest) a w) : wpList P ops Q (o :: rest) a w := h

/-! ### Comparing identifiers -/
def cmpI (a b : List UInt8) : Int := Lib.compareBytes a b
def btw (id a b : List UInt8) : Bool := if cmpI a b < 0 then decide (cmpI a id < 0) && decide (cmpI id b < 0) else decide (cmpI a id < 0) || decide (cmpI id b < 0)
def ownsP (p pred : Pr) (id : List UInt8) : Bool := !eqP pred zeroP && (id == p.id || btw id pred.id p.id)

theorem sz65 : (Yba.prog.info? 65).map (·.size) = some 20 := by kernel_rfl
theorem sz67 : (Yba.prog.info? 67).map (·.size) = some 21 := by kernel_rfl

theorem loadB {P : Program} (w : World) : ∀ (l : List UInt8) (a : Addr) (acc : ByteArray), (∀ j x, l[j]? = some x → w.cell? (a.add j) = some (cell x)) → (Extern.Bytes.loadBytes a l.length acc).run P w = .ok ⟨acc.data ++ l.toArray⟩ w
  | [], a, acc, _ => by simp [Extern.Bytes.loadBytes]
  | x :: l, a, acc, h => by
    have h0 : w.cell? a = some (.int .u8 x.toNat) := by
      have := h 0 x rfl
      simpa [Addr.add, cell] using this
    have ih := loadB (P := P) w l (a.add 1) (acc.push x) (fun j y hy => by
      have := h (j + 1) y (by simpa using hy)
      have e : (a.add 1).add j = a.add (j + 1) := by
        unfold Addr.add
        by_cases hj : j = 0
        · subst hj; simp
        · simp [hj]; omega
      rw [e]; exact this)
    simp only [List.length_cons, Extern.Bytes.loadBytes, Sem.run_bind, run_load, h0, Result.andThen]
    have e8 : ((x.toNat : Int)).toNat.toUInt8 = x := by simp
    rw [e8, ih]
    congr 1
    apply ByteArray.ext
    simp [ByteArray.push]

theorem bytesOf_row {w : World} {b o : Nat} {x : List UInt8} (h : w.rangeAt b o (idC x)) (cap : Nat) : (Extern.Bytes.bytesOf (.slice (some ⟨b, o, none⟩) x.length cap)).run Yba.prog w = .ok ⟨x.toArray⟩ w := by
  have := loadB (P := Yba.prog) w x ⟨b, o, none⟩ .empty (fun j y hj => by
    have e : (⟨b, o, none⟩ : Addr).add j = ⟨b, o + j, none⟩ := by unfold Addr.add; split <;> simp_all
    rw [e]
    exact h j (cell y) (by unfold idC; rw [List.getElem?_map, hj]; rfl))
  simp only [Extern.Bytes.bytesOf]
  rw [this]
  congr 1
  apply ByteArray.ext
  simp [ByteArray.empty, ByteArray.emptyWithCapacity]
  rfl

/-- bytealg.Compare of two rows of 20 bytes. -/
theorem cmp35 (b1 o1 b2 o2 : Nat) (x y : List UInt8) (hx : x.length = 20) (hy : y.length = 20) (w : World) (h1 : w.rangeAt b1 o1 (idC x)) (h2 : w.rangeAt b2 o2 (idC y)) :
    (callFunc 35 #[.slice (some ⟨b1, o1, none⟩) 20 20, .slice (some ⟨b2, o2, none⟩) 20 20]).run Yba.prog w = .ok (.value (.int .i64 (cmpI x y))) w := by
  rw [run_callFunc_extern (P := Yba.prog) (f := 35) Yba.func35 (by kernel_rfl) (by kernel_rfl) (by kernel_rfl) (e := Extern.BytealgCompare.compare) (by kernel_rfl)]
  have r1 := bytesOf_row h1 20
  have r2 := bytesOf_row h2 20
  rw [hx] at r1
  rw [hy] at r2
  change (Sem.run Yba.prog (do pure (goInt (Extern.BytealgCompare.cmp (← Extern.Bytes.bytesOf (.slice (some ⟨b1, o1, none⟩) 20 20)) (← Extern.Bytes.bytesOf (.slice (some ⟨b2, o2, none⟩) 20 20))))) w).andThen _ = _
  simp only [Sem.run_bind, r1, r2, Result.andThen_ok, Sem.run_pure]
  rw [Lib.cmp_eq]
  rfl

theorem cmp34 (b1 o1 b2 o2 : Nat) (x y : List UInt8) (hx : x.length = 20) (hy : y.length = 20) (w : World) (h1 : w.rangeAt b1 o1 (idC x)) (h2 : w.rangeAt b2 o2 (idC y)) :
    Calls Yba.prog 34 #[.slice (some ⟨b1, o1, none⟩) 20 20, .slice (some ⟨b2, o2, none⟩) 20 20] w fun e w' => e = .returned (.int .i64 (cmpI x y)) ∧ w = w' := by
  have hc := cmp35 b1 o1 b2 o2 x y hx hy w h1 h2
  clear h1 h2
  go_enter Yba.func34, Yba.ntmps34
  go_wp2
  go_ret
  exact ⟨rfl, rfl⟩

def B2 (w : World) (x y : List UInt8) : World := (w.alloc (.cells (idC x).toArray 65)).alloc (.cells (idC y).toArray 65)
theorem b2_facts (w : World) (x y : List UInt8) : (B2 w x y).heap.size = w.heap.size + 2 ∧ Below w.heap.size w (B2 w x y) ∧ (B2 w x y).rangeAt w.heap.size 0 (idC x) ∧ (B2 w x y).rangeAt (w.heap.size + 1) 0 (idC y) := by
  have e : (w.alloc (.cells (idC x).toArray 65)).heap.size = w.heap.size + 1 := by simp
  have hb : Below (w.alloc (.cells (idC x).toArray 65)).heap.size (w.alloc (.cells (idC x).toArray 65)) (B2 w x y) := (Below.refl _ _).alloc (Nat.le_refl _) _
  have n1 : (B2 w x y).heap[w.heap.size]? = some (.cells (idC x).toArray 65 (0, 0)) := by rw [hb.block _ (by omega)]; exact heap_alloc_new _ _
  have n2 : (B2 w x y).heap[w.heap.size + 1]? = some (.cells (idC y).toArray 65 (0, 0)) := by
    have := heap_alloc_new (w.alloc (.cells (idC x).toArray 65)) (.cells (idC y).toArray 65)
    rw [e] at this; exact this
  refine ⟨by simp [B2], ((Below.refl _ w).alloc (Nat.le_refl _) _).alloc (by omega) _, fun j u hu => ?_, fun j u hu => ?_⟩
  · simp [World.cell?, n1, hu]
  · simp [World.cell?, n2, hu]

def SC (w0 x y : Nat) (a b : List UInt8) (w : World) : Prop := w.rangeAt x 0 (idC a) ∧ w.rangeAt y 0 (idC b)

theorem cmp32 (x y : List UInt8) (hx : x.length = 20) (hy : y.length = 20) (w : World) :
    Calls Yba.prog 32 #[.agg (idC x).toArray, .agg (idC y).toArray] w fun e w' => e = .returned (.int .i64 (cmpI x y)) ∧ Below w.heap.size w w' := by
  obtain ⟨hz, hb, r1, r2⟩ := b2_facts w x y
  obtain ⟨w1, hw1⟩ : ∃ w1, w1 = B2 w x y := ⟨_, rfl⟩
  rw [← hw1] at hz hb r1 r2
  have SA : Hid (SC 0 w.heap.size (w.heap.size + 1) x y w1.drew) := ⟨r1, r2⟩
  have HB : Hid _ := hb
  have hw2 : w1 = (w.alloc (.cells (idC x).toArray 65)).alloc (.cells (idC y).toArray 65) := hw1
  clear hw1 r1 r2 hb hz
  go_enter Yba.func32, Yba.ntmps32
  go_wp2_with fail
  rw [← hw2]
  clear hw2
  refine wp_region_noPanic ?_
  refine wp_region_held_drew (S := SC 0 w.heap.size (w.heap.size + 1) x y) (by kernel_rfl) SA.out (fun _ => ?_)
  refine wpAnyH_take (i := 0) (oi := { dst := some 5, op := _, type := _, pos := _, after := _, guard := _ }) (v := .slice (some ⟨w.heap.size, 0, none⟩) 20 20) rfl (by kernel_rfl) (by kernel_rfl) (by kernel_rfl) (fun _ _ _ h => h) (Or.inl ⟨by rfl, fun W hW => by clear hW; go_simp⟩) SA.out ?_
  simp only [Act.put, List.setIfInBounds_toArray, List.set_cons_zero, List.set_cons_succ]
  refine wpAnyH_take (i := 1) (oi := { dst := some 6, op := _, type := _, pos := _, after := _, guard := _ }) (v := .slice (some ⟨w.heap.size + 1, 0, none⟩) 20 20) rfl (by kernel_rfl) (by kernel_rfl) (by kernel_rfl) (fun _ _ _ h => h) (Or.inl ⟨by rfl, fun W hW => by clear hW; go_simp⟩) SA.out ?_
  simp only [Act.put, List.setIfInBounds_toArray, List.set_cons_zero, List.set_cons_succ]
  refine wpAnyH_ready (rs := [2]) (by kernel_rfl) (by simp) ?_
  refine AllReadyH.cons rfl (fun K hK => ?_) AllReadyH.nil
  rw [if_pos (by rfl)]
  go_simp
  refine (cmp34 w.heap.size 0 (w.heap.size + 1) 0 x y hx hy w1.drew SA.out.1 SA.out.2).mono ?_
  rintro e w3 ⟨rfl, rfl⟩
  refine hK.out _ _ SA.out (fun _ => ?_)
  clear hK K
  refine wpAnyH_take (i := 3) (oi := { dst := some 4, op := _, type := _, pos := _, after := _, guard := _ }) (v := .int .i64 (cmpI x y)) rfl (by kernel_rfl) (by kernel_rfl) (by kernel_rfl) (fun _ _ _ h => h) (Or.inl ⟨by rfl, fun W hW => by clear hW; go_simp⟩) SA.out ?_
  simp only [Act.put, List.setIfInBounds_toArray, List.set_cons_zero, List.set_cons_succ]
  refine wpAnyH_done (by kernel_rfl) ?_ _
  refine NoPanic.normal ?_
  go_wp2_with fail
  go_ret
  exact ⟨rfl, HB.out.drew⟩

/-! ### zzs5326ccmp -/
theorem cmp_lt : ∀ (x y : List UInt8) (i : Nat) (a b : UInt8), x.take i = y.take i → x[i]? = some a → y[i]? = some b → a < b → Lib.compareBytes x y = -1
  | [], y, i, a, b, h, hx, hy, hl => by simp at hx
  | x :: xs, [], i, a, b, h, hx, hy, hl => by simp at hy
  | x :: xs, y :: ys, 0, a, b, h, hx, hy, hl => by
    simp only [List.getElem?_cons_zero, Option.some.injEq] at hx hy
    subst hx hy
    unfold Lib.compareBytes
    rw [if_pos hl]
  | x :: xs, y :: ys, i + 1, a, b, h, hx, hy, hl => by
    simp only [List.take_succ_cons, List.cons.injEq] at h
    simp only [List.getElem?_cons_succ] at hx hy
    obtain ⟨rfl, h⟩ := h
    unfold Lib.compareBytes
    rw [if_neg (UInt8.lt_irrefl x), if_neg (UInt8.lt_irrefl x)]
    exact cmp_lt xs ys i a b h hx hy hl
theorem cmp_gt : ∀ (x y : List UInt8) (i : Nat) (a b : UInt8), x.take i = y.take i → x[i]? = some a → y[i]? = some b → b < a → Lib.compareBytes x y = 1
  | [], y, i, a, b, h, hx, hy, hl => by simp at hx
  | x :: xs, [], i, a, b, h, hx, hy, hl => by simp at hy
  | x :: xs, y :: ys, 0, a, b, h, hx, hy, hl => by
    simp only [List.getElem?_cons_zero, Option.some.injEq] at hx hy
    subst hx hy
    unfold Lib.compareBytes
    rw [if_neg (fun h1 => UInt8.lt_irrefl _ (UInt8.lt_trans h1 hl)), if_pos hl]
  | x :: xs, y :: ys, i + 1, a, b, h, hx, hy, hl => by
    simp only [List.take_succ_cons, List.cons.injEq] at h
    simp only [List.getElem?_cons_succ] at hx hy
    obtain ⟨rfl, h⟩ := h
    unfold Lib.compareBytes
    rw [if_neg (UInt8.lt_irrefl x), if_neg (UInt8.lt_irrefl x)]
    exact cmp_gt xs ys i a b h hx hy hl
theorem cmp_self : ∀ (x : List UInt8), Lib.compareBytes x x = 0
  | [] => rfl
  | x :: xs => by
    unfold Lib.compareBytes
    rw [if_neg (UInt8.lt_irrefl x), if_neg (UInt8.lt_irrefl x)]
    exact cmp_self xs

theorem below_drewN {B : Nat} {a w : World} (h : Below B a w) (n : Nat) : Below B a (w.drewN n) := ⟨h.os, h.tape, h.output, h.size, h.block⟩
theorem cmp26 (x y : List UInt8) (hx : x.length = 20) (hy : y.length = 20) (w : World) :
    Calls Yba.prog 26 #[.agg (idC x).toArray, .agg (idC y).toArray] w fun e w' => e = .returned (.int .i64 (cmpI x y)) ∧ Below w.heap.size w w' := by
  obtain ⟨hz, hb, r1, r2⟩ := b2_facts w x y
  obtain ⟨w1, hw1⟩ : ∃ w1, w1 = B2 w x y := ⟨_, rfl⟩
  rw [← hw1] at hz hb r1 r2
  have HR : Hid (SC 0 w.heap.size (w.heap.size + 1) x y w1) := ⟨r1, r2⟩
  have HB : Hid _ := hb
  have hw2 : w1 = (w.alloc (.cells (idC x).toArray 65)).alloc (.cells (idC y).toArray 65) := hw1
  clear hw1 r1 r2 hb hz
  go_enter Yba.func26, Yba.ntmps26
  go_wp2_with fail
  rw [← hw2]
  clear hw2
  go_loopw [5] (fun v5 wr => ∃ (i : Nat), i ≤ 20 ∧ v5 = .int .i64 i ∧ x.take i = y.take i ∧ SC 0 w.heap.size (w.heap.size + 1) x y wr ∧ Below w.heap.size w wr) (fun v5 _ => 20 - (intOf v5).toNat)
  case atStart => exact ⟨0, by omega, rfl, rfl, HR.out, HB.out⟩
  case round =>
    obtain ⟨i, hi, rfl, hT, hS, hB⟩ := hrel
    have HT : Hid _ := hT
    have HS : Hid (SC 0 w.heap.size (w.heap.size + 1) x y wr) := hS
    have HBq : Hid _ := hB
    clear hT hS hB HR HB
    by_cases hil : i < 20
    · have hil' : (i : Int) < 20 := by omega
      obtain ⟨a, ha⟩ : ∃ a, x[i]? = some a := ⟨x[i]'(by omega), List.getElem?_eq_getElem _⟩
      obtain ⟨b, hb⟩ : ∃ b, y[i]? = some b := ⟨y[i]'(by omega), List.getElem?_eq_getElem _⟩
      have c1 : wr.cell? ⟨w.heap.size, i, none⟩ = some (.int .u8 (a.toNat : Int)) := by
        have := HS.out.1 i (cell a) (by unfold idC; rw [List.getElem?_map, ha]; rfl)
        simpa [cell] using this
      have c2 : wr.cell? ⟨w.heap.size + 1, i, none⟩ = some (.int .u8 (b.toNat : Int)) := by
        have := HS.out.2 i (cell b) (by unfold idC; rw [List.getElem?_map, hb]; rfl)
        simpa [cell] using this
      have HA : Hid _ := ha
      have HBb : Hid _ := hb
      clear ha hb
      by_cases h1 : a.toNat < b.toNat
      · have d1 : decide ((a.toNat : Int) < (b.toNat : Int)) = true := by simp; omega
        go_wp2_with fail
        go_quiet (fail)
        go_wp2_with fail
        go_ret
        exact ⟨by rw [show cmpI x y = -1 from cmp_lt x y i a b HT.out HA.out HBb.out h1]; rfl, below_drewN HBq.out _⟩
      · have d1 : decide ((a.toNat : Int) < (b.toNat : Int)) = false := by simp; omega
        by_cases h2 : b.toNat < a.toNat
        · have d2 : decide ((b.toNat : Int) < (a.toNat : Int)) = true := by simp; omega
          go_wp2_with fail
          go_quiet (fail)
          go_wp2_with fail
          go_quiet (fail)
          go_wp2_with fail
          go_ret
          exact ⟨by rw [show cmpI x y = 1 from cmp_gt x y i a b HT.out HA.out HBb.out h2]; rfl, below_drewN (below_drewN HBq.out _) _⟩
        · have d2 : decide ((b.toNat : Int) < (a.toNat : Int)) = false := by simp; omega
          have e : a = b := UInt8.toNat_inj.1 (by omega)
          subst e
          go_wp2_with fail
          go_quiet (fail)
          go_wp2_with fail
          go_quiet (fail)
          go_wp2_with fail
          go_roundw
          case rel => exact ⟨i + 1, by omega, by simp, by rw [List.take_add_one, List.take_add_one, HA.out, HBb.out, HT.out], HS.out, below_drewN HBq.out _⟩
          case measure => simp [intOf]; omega
    · obtain rfl : i = 20 := by omega
      go_wp2_with fail
      go_ret
      have e : x = y := by
        have h0 := HT.out
        rw [List.take_of_length_le (by omega), List.take_of_length_le (by omega)] at h0
        exact h0
      subst e
      exact ⟨by rw [show cmpI x x = 0 from cmp_self x]; rfl, HBq.out⟩
end Go.Proofs.Ybulkdfgw
