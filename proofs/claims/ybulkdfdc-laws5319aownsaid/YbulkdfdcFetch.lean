import Derived.Test.YbulkdfdcPage
import Derived.Laws.ResultCell
import Derived.Laws.Rows
namespace Go.Proofs.Ybulkdfdc
open Go.ChangeShapes Go.WideShapes Go.ChangeAt Go.RowKit
set_option linter.unusedVariables false
set_option linter.unusedSimpArgs false

theorem sz37 : (Yba.prog.info? 37).map (·.size) = some 2 := by kernel_rfl

theorem below_row {B g : Nat} {w0 w : World} (hb : Below B w0 w) (hBg : B ≤ g) (cs : Array Value) : Below B w0 (w.setRow g cs) :=
  ⟨hb.os, hb.tape, hb.output, by have := hb.size; simpa using this, fun k hk => by rw [setRow_other _ _ _ _ (by omega)]; exact hb.block k hk⟩

/-- A small block is no row of items. -/
theorem ItRow.setRow {w : World} {v : Value} {L : List It} (h : ItRow w v L) {g : Nat} {old : Array Value} {t : TypeId} {fr : Nat × Nat} (hg : w.heap[g]? = some (.cells old t fr)) (hs : old.size ≤ 2) (cs : Array Value) : ItRow (w.setRow g cs) v L := by
  obtain ⟨a, cap, hv, hr⟩ := h
  refine ⟨a, cap, hv, fun i x hx => ?_⟩
  obtain ⟨g2, ha, hg2, hc⟩ := hr i x hx
  have hne : g2 ≠ g := fun e => by
    have := hc 2 (.int .u64 0) rfl
    rw [e] at this
    simp [World.cell?, hg] at this
    have := (Array.getElem?_eq_some_iff.1 this).1
    omega
  exact ⟨g2, ha, by simpa using hg2, rangeAt_block (setRow_other _ _ _ _ hne) hc⟩

set_option maxHeartbeats 1000000 in
set_option maxRecDepth 20000 in
theorem fetch18 (B gn gs gm N : Nat) (V : Nat → Value) (I : Nat → List It) (W w : World) (hS : Sit B W gn gs gm N V I) (hB : Below W.heap.size W w) (a : Option Addr) (cap : Nat) (ks : List Nat) (hks : ∀ k ∈ ks, k < 8) (hn : ks.length ≤ 1024) (hid : IdRow w a ks) :
    Calls Yba.prog 18 #[.pointer (some ⟨gn, 0, none⟩), .slice a ks.length cap] w fun e w' => ∃ v' h L, e = .returned (.agg #[v', .int .i64 (h : Nat)]) ∧ ItRow w' v' L ∧ PageOk I ks h L ∧ Below w.heap.size w w' := by
  go_enter Yba.func18, Yba.ntmps18
  have HS : Hid _ := hS
  have HK : Hid _ := hks
  have HID : Hid (IdRow w a ks) := hid
  have HBB : Hid (Below w.heap.size w (w.alloc (.cells #[.slice none 0 0, .int .i64 0] 37))) := (Below.refl _ _).alloc (Nat.le_refl _) _
  have HB : Hid _ := hB
  clear hS hks hid hB
  go_wp2_with fail
  refine (page29 B gn gs gm N V I W _ HS.out (HB.out.trans (HBB.out.mono HB.out.size)) a cap ks HK.out hn (HID.out.below HBB.out)).mono ?_
  rintro e w2 ⟨v2, h, L, rfl, hI2, hP2, hB2⟩
  have HI2 : Hid (ItRow w2 v2 L) := hI2
  have HP2 : Hid (PageOk I ks h L) := hP2
  have hb2 : w2.heap[w.heap.size]? = some (.cells #[.slice none 0 0, .int .i64 0] 37 (0, 0)) := by rw [hB2.block _ (by simp)]; exact heap_alloc_new _ _
  have HB2 : Hid (Below w.heap.size w w2) := HBB.out.trans (hB2.mono (by simp))
  clear hI2 hP2 hB2
  obtain ⟨a2, cap2, hv2⟩ : ∃ a2 cap2, v2 = .slice a2 L.length cap2 := by obtain ⟨a2, cap2, h0, _⟩ := HI2.out; exact ⟨a2, cap2, h0⟩
  subst hv2
  have HR2 : Hid _ := hb2
  clear hb2
  go_wp2_with (refine wpList_store_rowTo rfl 37 (.tmp 4) (.tmp 15) rfl rfl w.heap.size #[.slice a2 L.length cap2, .int .i64 (h : Nat)] rfl rfl 37 _ HR2.out sz37 rfl (by simp [Value.oneCell']) ?_)
  refine bodyPost_ret (v := .agg #[.slice a2 L.length cap2, .int .i64 (h : Nat)]) (results_cell_row rfl _ _ w.heap.size 37 _ (0, 0) _ rfl (setRow_heap _ _ _ _ _ _ HR2.out) Yba.underlying37 rfl sz37) rfl ?_
  exact ⟨_, h, L, rfl, HI2.out.setRow HR2.out (by simp) _, HP2.out, below_row HB2.out (Nat.le_refl _) _⟩
def peerCells (s : Value) : List Value := idCells 9 ++ [s]
def S1 (pb gn : Nat) (W : World) : Prop := W.rangeAt pb 0 (idCells 9) ∧ W.rangeAt gn 0 (idCells 9)
theorem sz44 : (Yba.prog.info? 44).map (·.size) = some 21 := by kernel_rfl

set_option maxHeartbeats 1000000 in
set_option maxRecDepth 20000 in
theorem fetchAt9 (B gn gs gm N : Nat) (V : Nat → Value) (I : Nat → List It) (W w : World) (hS : Sit B W gn gs gm N V I) (hB : Below W.heap.size W w) (a : Option Addr) (cap : Nat) (ks : List Nat) (hks : ∀ k ∈ ks, k < 8) (hn : ks.length ≤ 1024) (hid : IdRow w a ks) (ctx s : Value) :
    Calls Yba.prog 9 #[.pointer (some ⟨gn, 0, none⟩), ctx, .agg (peerCells s).toArray, .slice a ks.length cap] w fun e w' => ∃ v' h L, e = .returned (.tuple #[.agg #[v', .int .i64 (h : Nat)], .nilIface]) ∧ ItRow w' v' L ∧ PageOk I ks h L ∧ Below w.heap.size w w' := by
  go_enter Yba.func9, Yba.ntmps9
  have HS : Hid _ := hS
  have HK : Hid _ := hks
  have HID : Hid (IdRow w a ks) := hid
  have HB : Hid _ := hB
  obtain ⟨w1, hw1⟩ : ∃ w1, w1 = (w.alloc (Obj.cells (peerCells s).toArray 44)).alloc (Obj.cells #[Value.slice none 0 0, Value.int IntKind.i64 0] 37) := ⟨_, rfl⟩
  have hz1 : w1.heap.size = w.heap.size + 2 := by rw [hw1]; simp
  have HB1 : Hid (Below w.heap.size w w1) := by rw [hw1]; exact ((Below.refl _ _).alloc (Nat.le_refl _) _).alloc (by simp) _
  have HR1 : Hid (w1.heap[w.heap.size + 1]? = some (.cells #[Value.slice none 0 0, Value.int IntKind.i64 0] 37 (0, 0))) := by
    rw [hw1]
    have h0 := heap_alloc_new (w.alloc (Obj.cells (peerCells s).toArray 44)) (Obj.cells #[Value.slice none 0 0, Value.int IntKind.i64 0] 37)
    have e : (w.alloc (Obj.cells (peerCells s).toArray 44)).heap.size = w.heap.size + 1 := by simp
    rw [e] at h0
    exact h0
  have SA : Hid (S1 w.heap.size gn w1.drew) := by
    obtain ⟨nc, n1, _, n2⟩ := (hS.kept hB).node
    refine ⟨?_, ?_⟩
    · intro j u hu
      have h0 := range_new (w := w) (peerCells s) 44 j u (by unfold peerCells; rw [List.getElem?_append_left (List.getElem?_eq_some_iff.1 hu).1]; exact hu)
      have h1 : w1.cell? ⟨w.heap.size, 0 + j, none⟩ = (w.alloc (Obj.cells (peerCells s).toArray 44)).cell? ⟨w.heap.size, 0 + j, none⟩ := by rw [hw1]; exact World.cell?_alloc_past _ _ _ (by simp)
      exact h1.trans h0
    · intro j u hu
      have h1 : w1.cell? ⟨gn, 0 + j, none⟩ = w.cell? ⟨gn, 0 + j, none⟩ := HB1.out.cell (Array.getElem?_eq_some_iff.1 n1).1
      refine h1.trans ?_
      simp [World.cell?, n1, n2 j u hu]
  clear hS hks hid hB
  go_wp2_with fail
  rw [← hw1]
  clear hw1
  refine wp_region_noPanic ?_
  refine wp_region_held_drew (S := S1 w.heap.size gn) (by kernel_rfl) SA.out (fun _ => ?_)
  refine wpAnyH_take (i := 0) (oi := { dst := some 10, op := _, type := _, pos := _, after := _, guard := _ }) (v := .pointer (some ⟨w.heap.size, 0, none⟩)) rfl (by kernel_rfl) (by kernel_rfl) (by kernel_rfl) (fun _ _ _ h => h) (Or.inl ⟨by rfl, fun W hW => by clear hW; go_simp⟩) SA.out ?_
  simp only [Act.put, List.setIfInBounds_toArray, List.set_cons_zero, List.set_cons_succ]
  refine wpAnyH_take (i := 1) (oi := { dst := some 11, op := _, type := _, pos := _, after := _, guard := _ }) (v := .agg (idCells 9).toArray) rfl (by kernel_rfl) (by kernel_rfl) (by kernel_rfl) (fun _ _ _ h => h) (yieldsIf_load_mid (by rfl) 26 (.tmp 10) rfl w.heap.size 0 rfl _ _ (fun W hW => hW.1) Yba.underlying26 rfl (by rw [sz26, len_id])) SA.out ?_
  simp only [Act.put, List.setIfInBounds_toArray, List.set_cons_zero, List.set_cons_succ]
  refine wpAnyH_take (i := 2) (oi := { dst := some 12, op := _, type := _, pos := _, after := _, guard := _ }) (v := .pointer (some ⟨gn, 0, none⟩)) rfl (by kernel_rfl) (by kernel_rfl) (by kernel_rfl) (fun _ _ _ h => h) (Or.inl ⟨by rfl, fun W hW => by clear hW; go_simp⟩) SA.out ?_
  simp only [Act.put, List.setIfInBounds_toArray, List.set_cons_zero, List.set_cons_succ]
  refine wpAnyH_take (i := 3) (oi := { dst := some 13, op := _, type := _, pos := _, after := _, guard := _ }) (v := .pointer (some ⟨gn, 0, none⟩)) rfl (by kernel_rfl) (by kernel_rfl) (by kernel_rfl) (fun _ _ _ h => h) (Or.inl ⟨by rfl, fun W hW => by clear hW; go_simp⟩) SA.out ?_
  simp only [Act.put, List.setIfInBounds_toArray, List.set_cons_zero, List.set_cons_succ]
  refine wpAnyH_take (i := 4) (oi := { dst := some 14, op := _, type := _, pos := _, after := _, guard := _ }) (v := .pointer (some ⟨gn, 0, none⟩)) rfl (by kernel_rfl) (by kernel_rfl) (by kernel_rfl) (fun _ _ _ h => h) (Or.inl ⟨by rfl, fun W hW => by clear hW; go_simp⟩) SA.out ?_
  simp only [Act.put, List.setIfInBounds_toArray, List.set_cons_zero, List.set_cons_succ]
  refine wpAnyH_take (i := 5) (oi := { dst := some 15, op := _, type := _, pos := _, after := _, guard := _ }) (v := .pointer (some ⟨gn, 0, none⟩)) rfl (by kernel_rfl) (by kernel_rfl) (by kernel_rfl) (fun _ _ _ h => h) (Or.inl ⟨by rfl, fun W hW => by clear hW; go_simp⟩) SA.out ?_
  simp only [Act.put, List.setIfInBounds_toArray, List.set_cons_zero, List.set_cons_succ]
  refine wpAnyH_take (i := 6) (oi := { dst := some 16, op := _, type := _, pos := _, after := _, guard := _ }) (v := .agg (idCells 9).toArray) rfl (by kernel_rfl) (by kernel_rfl) (by kernel_rfl) (fun _ _ _ h => h) (yieldsIf_load_mid (by rfl) 26 (.tmp 15) rfl gn 0 rfl _ _ (fun W hW => hW.2) Yba.underlying26 rfl (by rw [sz26, len_id])) SA.out ?_
  simp only [Act.put, List.setIfInBounds_toArray, List.set_cons_zero, List.set_cons_succ]
  refine wpAnyH_take (i := 7) (oi := { dst := some 17, op := _, type := _, pos := _, after := _, guard := _ }) (v := .bool true) rfl (by kernel_rfl) (by kernel_rfl) (by kernel_rfl) (fun _ _ _ h => h) (Or.inl ⟨by rfl, fun W hW => by clear hW; unfold execOp; simp only [Act.eval]; kernel_rfl⟩) SA.out ?_
  simp only [Act.put, List.setIfInBounds_toArray, List.set_cons_zero, List.set_cons_succ]
  refine wpAnyH_done (by kernel_rfl) ?_ _
  refine NoPanic.normal ?_
  go_wp2_with fail
  refine (fetch18 B gn gs gm N V I W _ HS.out (HB.out.trans (HB1.out.drew.mono HB.out.size)) a cap ks HK.out hn (HID.out.below HB1.out.drew)).mono ?_
  rintro e w2 ⟨v2, h, L, rfl, hI2, hP2, hB2⟩
  have HI2 : Hid (ItRow w2 v2 L) := hI2
  have HP2 : Hid (PageOk I ks h L) := hP2
  have HR2 : Hid (w2.heap[w.heap.size + 1]? = some (.cells #[Value.slice none 0 0, Value.int IntKind.i64 0] 37 (0, 0))) := by
    rw [hB2.block _ (by simp; omega)]; exact HR1.out
  have HB2 : Hid (Below w.heap.size w w2) := HB1.out.drew.trans (hB2.mono (by simp; omega))
  clear hI2 hP2 hB2
  obtain ⟨a2, cap2, hv2⟩ : ∃ a2 cap2, v2 = .slice a2 L.length cap2 := by obtain ⟨a2, cap2, h0, _⟩ := HI2.out; exact ⟨a2, cap2, h0⟩
  subst hv2
  go_wp2_with (refine wpList_store_rowTo rfl 37 (.tmp 8) (.tmp 20) rfl rfl (w.heap.size + 1) #[.slice a2 L.length cap2, .int .i64 (h : Nat)] rfl rfl 37 _ HR2.out sz37 rfl (by simp [Value.oneCell']) ?_)
  refine bodyPost_ret (v := .tuple #[.agg #[.slice a2 L.length cap2, .int .i64 (h : Nat)], .nilIface]) ?_ rfl ?_
  · rw [results_cell_tmp rfl]
    have h0 := run_loadVar_row (P := Yba.prog) (w2.setRow (w.heap.size + 1) #[Value.slice a2 L.length cap2, Value.int IntKind.i64 (h : Nat)]) (w.heap.size + 1) 37 37 #[Value.slice a2 L.length cap2, Value.int IntKind.i64 (h : Nat)] (0, 0) _ (setRow_heap _ _ _ _ _ _ HR2.out) Yba.underlying37 rfl sz37
    simp [asAddr, h0]
  · exact ⟨_, h, L, rfl, HI2.out.setRow HR2.out (by simp) _, HP2.out, below_row HB2.out (by omega) _⟩
end Go.Proofs.Ybulkdfdc
