import Derived.Test.YbulkdfdcStamp
namespace Go.Proofs.Ybulkdfdc
open Go.ChangeShapes Go.WideShapes Go.ChangeAt Go.RowKit
set_option linter.unusedVariables false
set_option linter.unusedSimpArgs false

/-- 'x := v', v a struct of whatever cells, x a variable in memory: 'alloc', then 'store': one new block that holds the cells. -/
theorem wpList_alloc_store {P : Program} {w : World} {ops : Array Oper} {rest : List Oper} {o1 o2 : Oper} {a : Act} {Q : Exit → Act → World → Prop} (g1 : o1.guard = none) (g2 : o2.guard = none) (T : TypeId) (d : Nat) (y : Operand)
    (h1 : o1.op = .alloc T) (hd1 : o1.dst = some d) (h2 : o2.op = .store T (.tmp d) y) (hd2 : o2.dst = none) (z : Value) (n : Nat) (hi : (P.info? T).map (fun i => (i.zero, i.size)) = some (some z, n)) (hzn : z.cells.size = n) (cells : Array Value) (hcn : cells.size = n)
    (h1c : cells.all (·.oneCell') = true) (hx : (a.put (some d) (.pointer (some ⟨w.heap.size, 0, none⟩))).eval (.tmp d) = .pointer (some ⟨w.heap.size, 0, none⟩)) (hy : (a.put (some d) (.pointer (some ⟨w.heap.size, 0, none⟩))).eval y = .agg cells)
    (h : wpList P ops Q rest (a.put (some d) (.pointer (some ⟨w.heap.size, 0, none⟩))) (w.alloc (.cells cells T))) : wpList P ops Q (o1 :: o2 :: rest) a w := by
  subst hcn
  have hzs := hzn
  obtain ⟨hz, hsz⟩ := zero_of_info hi
  refine wpList_plain g1 fun K hK => ?_
  unfold Oper.wp
  simp [execOp, h1, Instr.alloc, hz, newVar, newRow, Result.andThen]
  refine hK (a.put o1.dst (.pointer (some ⟨w.heap.size, 0, none⟩))) _ ?_
  rw [hd1]
  refine wpList_plain g2 fun K2 hK2 => ?_
  unfold Oper.wp
  have hst := run_storeAt_new (P := P) w T z.cells cells hsz hzs h1c
  simp [execOp, h2, hx, hy, hst, Result.andThen]
  have e : (a.put (some d) (.pointer (some ⟨w.heap.size, 0, none⟩))).put o2.dst undef = a.put (some d) (.pointer (some ⟨w.heap.size, 0, none⟩)) := by rw [hd2]; rfl
  exact hK2 _ _ (by first | exact h | (rw [e]; exact h))

/-- A block that no append of bytes turns. -/
def Fix (B : Nat) (w : World) (b : Nat) : Prop := b < w.heap.size ∧ (b < B ∨ ∃ cs t fr, w.heap[b]? = some (.cells cs t fr) ∧ t ≠ 5)

theorem Fix.app {B : Nat} {w w1 : World} {v v1 : Value} {xs xs1 : List Value} {b : Nat} (h0 : w.ownsRow B 5 1 v xs.length xs) (h : App B 5 w v xs w1 v1 xs1) (hf : Fix B w b) : w1.heap[b]? = w.heap[b]? ∧ Fix B w1 b := by
  have e : w1.heap[b]? = w.heap[b]? := h.grown.block b hf.1 (fun e0 => by
    obtain ⟨hB, _, cur, hc⟩ := own_lt h0 e0.symm
    rcases hf.2 with hl | ⟨cs, t, fr, hk, ht⟩
    · omega
    · rw [hk] at hc
      simp only [Option.some.injEq, Obj.cells.injEq] at hc
      exact ht hc.2.1)
  exact ⟨e, Nat.lt_of_lt_of_le hf.1 h.grown.size, or_map hf.2 id (fun ⟨cs, t, fr, hk, ht⟩ => ⟨cs, t, fr, by rw [e]; exact hk, ht⟩)⟩

theorem Fix.alloc {B : Nat} {w : World} {b : Nat} (hf : Fix B w b) (o : Obj) : (w.alloc o).heap[b]? = w.heap[b]? ∧ Fix B (w.alloc o) b := by
  have e := Below.heap_alloc w o b hf.1
  exact ⟨e, by have := hf.1; simp; omega, or_map hf.2 id (fun ⟨cs, t, fr, hk, ht⟩ => ⟨cs, t, fr, by rw [e]; exact hk, ht⟩)⟩

theorem rangeAt_block {w w1 : World} {b o : Nat} {cs : List Value} (e : w1.heap[b]? = w.heap[b]?) (h : w.rangeAt b o cs) : w1.rangeAt b o cs := fun j v hv => by
  rw [World.cell?_of_block (w := w) (by simpa using e)]; exact h j v hv

/-- THE ROWS 'L', each of 'size' cells, lie at a slice's address, in a block that no append of bytes turns. -/
def Reads (B : Nat) (w : World) (a : Option Addr) (size : Nat) (L : List (List Value)) : Prop :=
  L ≠ [] → ∃ b o, a = some ⟨b, o, none⟩ ∧ Fix B w b ∧ ∀ i cs, L[i]? = some cs → w.rangeAt b (o + i * size) cs

theorem Reads.app {B : Nat} {w w1 : World} {v v1 : Value} {xs xs1 : List Value} {a : Option Addr} {size : Nat} {L : List (List Value)} (h0 : w.ownsRow B 5 1 v xs.length xs) (h : App B 5 w v xs w1 v1 xs1) (hr : Reads B w a size L) : Reads B w1 a size L := fun hL => by
  obtain ⟨b, o, ha, hf, hc⟩ := hr hL
  obtain ⟨e, hf1⟩ := Fix.app h0 h hf
  exact ⟨b, o, ha, hf1, fun i cs hi => rangeAt_block e (hc i cs hi)⟩

theorem Reads.alloc {B : Nat} {w : World} {a : Option Addr} {size : Nat} {L : List (List Value)} (hr : Reads B w a size L) (ob : Obj) : Reads B (w.alloc ob) a size L := fun hL => by
  obtain ⟨b, o, ha, hf, hc⟩ := hr hL
  obtain ⟨e, hf1⟩ := Fix.alloc hf ob
  exact ⟨b, o, ha, hf1, fun i cs hi => rangeAt_block e (hc i cs hi)⟩

theorem range_new {w : World} (cs : List Value) (t : TypeId) : (w.alloc (.cells cs.toArray t)).rangeAt w.heap.size 0 cs := fun j v hv => by
  rw [Nat.zero_add]; exact cell_of_block (heap_alloc_new _ _) hv

def smZero : Value := .agg #[.int .u8 0, .int .u8 0, .int .u8 0, .int .u8 0, .int .u8 0, .int .u8 0, .int .u8 0, .int .u8 0, .int .u8 0, .int .u8 0, .int .u8 0, .int .u8 0, .int .u8 0, .int .u8 0, .int .u8 0, .int .u8 0, .int .u8 0, .int .u8 0, .int .u8 0, .int .u8 0, .int .u64 0, .int .u8 0, .int .u8 0, .int .u8 0, .int .u8 0, .int .u8 0, .int .u8 0, .int .u8 0, .int .u8 0, .int .u8 0, .int .u8 0, .int .u8 0, .int .u8 0, .int .u8 0, .int .u8 0, .int .u8 0, .int .u8 0, .int .u8 0, .int .u8 0, .int .u8 0, .int .u8 0, .bool false, .int .i64 0]
theorem info120 : (Yba.prog.info? 120).map (fun i => (i.zero, i.size)) = some (some smZero, 43) := by kernel_rfl
theorem sz120 : (Yba.prog.info? 120).map (·.size) = some 43 := by kernel_rfl

def encSms (L : List Sm) : List Value := bytesBE 4 (L.length : Int) ++ L.flatMap Sm.enc

theorem len_encs {L : List Sm} (h : ∀ x ∈ L, x.Ok) : (L.flatMap Sm.enc).length = 53 * L.length := by
  induction L with
  | nil => rfl
  | cons x L ih =>
    simp only [List.flatMap_cons, List.length_append, List.length_cons]
    rw [ih (fun y hy => h y (List.mem_cons_of_mem _ hy)), (h x (List.mem_cons_self)).length_enc]
    omega

theorem map_ne {α : Type} {L : List α} {f : α → List Value} (h : 0 < L.length) : L.map f ≠ [] := by
  cases L with
  | nil => cases h
  | cons => simp

theorem len_encs_take {L : List Sm} (h : ∀ x ∈ L, x.Ok) (k : Nat) : ((L.take k).flatMap Sm.enc).length ≤ 53 * L.length := by
  rw [len_encs (fun x hx => h x (List.mem_of_mem_take hx)), List.length_take]
  omega

theorem flatMap_take_succ {α : Type} {L : List α} {f : α → List Value} {k : Nat} {x : α} (h : L[k]? = some x) : (L.take (k + 1)).flatMap f = (L.take k).flatMap f ++ f x := by
  rw [List.take_add_one, h]; simp

theorem stamps24 (B : Nat) (v : Value) (xs : List Value) (a : Option Addr) (cap : Nat) (L : List Sm) (hL : ∀ x ∈ L, x.Ok) (hn : L.length ≤ 1024) (w : World) (hown : w.ownsRow B 5 1 v xs.length xs) (hlen : xs.length + 60000 ≤ 1099511627776) (hB : B ≤ w.heap.size)
    (hR : Reads B w a 43 (L.map Sm.cells)) :
    Calls Yba.prog 24 #[v, .slice a L.length cap] w fun e w' => ∃ v', e = .returned v' ∧ App B 5 w v xs w' v' (xs ++ encSms L) := by
  have HO : Hid _ := hown
  have HL : Hid _ := hL
  have HR : Hid (Reads B w a 43 (L.map Sm.cells)) := hR
  clear hown hL hR
  obtain ⟨n, hne⟩ : ∃ n, L.length = n := ⟨_, rfl⟩
  rw [hne] at hn ⊢
  go_enter Yba.func24, Yba.ntmps24
  go_wp2_with fail
  refine (u32_21 B v xs (n : Int) w HO.out (by omega) hB (by omega) (by omega)).mono ?_
  rintro e w1 ⟨v1, rfl, hA⟩
  have H1 : Hid _ := hA
  clear hA
  go_wp2_with fail
  go_loopw [0, 15] (fun vv i wr => ∃ (k : Nat), k ≤ n ∧ i = .int .i64 k ∧ App B 5 w v xs wr vv (xs ++ (bytesBE 4 (n : Int) ++ (L.take k).flatMap Sm.enc))) (fun _ i _ => n - (intOf i).toNat)
  case atStart => exact ⟨0, by omega, rfl, by simpa using H1.out⟩
  case round =>
    obtain ⟨k, hk, rfl, hA⟩ := hrel
    have HA : Hid _ := hA
    have hz := hA.grown.size
    clear hA
    by_cases hlt : k < n
    · have hlt' : (k : Int) < (n : Int) := by omega
      obtain ⟨x, hx⟩ : ∃ x, L[k]? = some x := ⟨L[k], List.getElem?_eq_getElem (by omega)⟩
      have HX : Hid _ := hx
      have hxo : x.Ok := HL.out x (List.mem_of_getElem? hx)
      obtain ⟨b, o, rfl, hfx, hrd⟩ := Reads.app HO.out HA.out HR.out (map_ne (by omega))
      have HRd : Hid _ := hrd k x.cells (by simp [hx])
      have HXO : Hid _ := hxo
      clear hx hxo hfx hrd
      go_wp2_with (first
        | (refine wpList_load_mid rfl 120 (.tmp 17) rfl b (o + k * 43) rfl x.cells _ HRd.out Yba.underlying120 rfl (by rw [sz120, HXO.out.length_cells]) ?_)
        | (refine wpList_alloc_store rfl rfl 120 6 (.tmp 18) rfl rfl rfl rfl smZero 43 info120 rfl x.cells.toArray (by simpa using HXO.out.length_cells) (all_oneCell_toArray HXO.out.one) rfl rfl ?_)
        | (refine wpList_load_mid rfl 120 (.tmp 6) rfl wr.heap.size 0 rfl x.cells _ (range_new x.cells 120) Yba.underlying120 rfl (by rw [sz120, HXO.out.length_cells]) ?_))
      have hlk := len_encs_take HL.out k
      refine (stamp32 B u0 _ x HXO.out _ (World.ownsRow.alloc HA.out.own _) (by simp only [List.length_append, length_bytesBE]; omega) (by simp; omega)).mono ?_
      rintro e w2 ⟨v2, rfl, hA2⟩
      have R : App B 5 w v xs w2 v2 (xs ++ (bytesBE 4 (n : Int) ++ (L.take (k + 1)).flatMap Sm.enc)) := by
        rw [flatMap_take_succ HX.out]
        have := App.next HO.out HA.out (App.behind HA.out.own hA2)
        simpa [List.append_assoc] using this
      clear hA2
      go_wp2_with fail
      go_roundw
      case rel => exact ⟨k + 1, by omega, by simp, R⟩
      case measure => simp [intOf]; omega
    · obtain rfl : k = n := by omega
      go_wp2_with fail
      go_ret
      refine ⟨u0, rfl, ?_⟩
      have := HA.out
      rw [List.take_of_length_le (by omega)] at this
      rw [encSms, hne]
      exact this
end Go.Proofs.Ybulkdfdc
