import Derived.Test.YbulkdfdcLeaf5
namespace Go.Proofs.Ybulkdfdc
open Go.ChangeShapes Go.WideShapes Go.ChangeAt Go.RowKit
set_option linter.unusedVariables false
set_option linter.unusedSimpArgs false

theorem App.drew {B : Nat} {e : TypeId} {w w1 : World} {v v1 : Value} {xs xs1 : List Value} (h : App B e w v xs w1 v1 xs1) : App B e w v xs w1.drew v1 xs1 :=
  ⟨h.own, ⟨h.grown.os, h.grown.tape, h.grown.output, h.grown.size, h.grown.block⟩, h.loc, h.len, h.keep⟩

theorem inf32 : (Yba.prog.info? 32).map (·.size) = some 21 := by kernel_rfl

/-- What the region's loads read. -/
def StK (g : Nat) (x : Sm) (W : World) : Prop := W.heap[g]? = some (.cells x.cells.toArray 120 (0, 0))

theorem StK.range {g : Nat} {x : Sm} (hx : x.Ok) {W : World} (h : StK g x W) : W.rangeAt g 20 (.int .u64 x.t :: x.node) := fun j u hu => by
  refine cell_of_block h ?_
  obtain ⟨id, t, node, del, size⟩ := x
  have hl := hx.id.len
  simp only [Sm.cells]
  simp only at hl
  rw [List.getElem?_append_right (by omega), hl, Nat.add_sub_cancel_left]
  have hj := (List.getElem?_eq_some_iff.1 hu).1
  rw [← List.cons_append, List.getElem?_append_left hj]
  exact hu

theorem StK.del {g : Nat} {x : Sm} (hx : x.Ok) {W : World} (h : StK g x W) : W.cell? ⟨g, 41, none⟩ = some (.bool x.del) := by
  refine cell_of_block h ?_
  obtain ⟨id, t, node, del, size⟩ := x
  have hl := hx.id.len
  have hn := hx.node.len
  simp only at hl hn
  simp only [Sm.cells]
  rw [List.getElem?_append_right (by omega), hl]
  show (Value.int .u64 t :: (node ++ [.bool del, .int .i64 size]))[20 + 1]? = _
  rw [List.getElem?_cons_succ, List.getElem?_append_right (by omega), hn]
  rfl

theorem StK.size {g : Nat} {x : Sm} (hx : x.Ok) {W : World} (h : StK g x W) : W.cell? ⟨g, 42, none⟩ = some (.int .i64 x.size) := by
  refine cell_of_block h ?_
  obtain ⟨id, t, node, del, size⟩ := x
  have hl := hx.id.len
  have hn := hx.node.len
  simp only at hl hn
  simp only [Sm.cells]
  rw [List.getElem?_append_right (by omega), hl]
  show (Value.int .u64 t :: (node ++ [.bool del, .int .i64 size]))[21 + 1]? = _
  rw [List.getElem?_cons_succ, List.getElem?_append_right (by omega), hn]
  rfl

theorem StK.id {g : Nat} {x : Sm} (hx : x.Ok) {W : World} (h : StK g x W) : ∀ j u, x.id[j]? = some u → W.cell? ((⟨g, 0, none⟩ : Addr).add j) = some u :=
  news_block h (fun j u hu => by
    rw [Nat.zero_add, Sm.cells, List.getElem?_append_left (List.getElem?_eq_some_iff.1 hu).1]
    exact hu)

set_option maxHeartbeats 1000000 in
theorem stamp32 (B : Nat) (v : Value) (xs : List Value) (x : Sm) (hx : x.Ok) (w : World) (hown : w.ownsRow B 5 1 v xs.length xs) (hlen : xs.length + 100 ≤ 1099511627776) (hB : B ≤ w.heap.size) :
    Calls Yba.prog 32 #[v, .agg x.cells.toArray] w fun e w' => ∃ v', e = .returned v' ∧ App B 5 w v xs w' v' (xs ++ x.enc) := by
  obtain ⟨i5, hi5, h5a, h5b, h5c⟩ := info_parts inf5
  have HO : Hid _ := hown
  have HX : Hid _ := hx
  have hil := hx.id.len
  have hnl := hx.node.len
  clear hown hx
  have H0 : Hid (App B 5 w v xs (w.alloc (.cells x.cells.toArray 120)).drew v (xs ++ [])) := (App.first HO.out _).drew
  have hk0 : StK w.heap.size x (w.alloc (.cells x.cells.toArray 120)).drew := heap_alloc_new _ _
  have K0 : Hid (StK w.heap.size x (w.alloc (.cells x.cells.toArray 120)).drew) := hk0
  have hlu : (xs ++ []).length ≤ 1099511627776 - 53 := by simp; omega
  clear hk0
  have hl32 : ∀ W : World, W.rangeAt w.heap.size 20 (.int .u64 x.t :: x.node) → (Instr.loadAt 32 (.pointer (some ⟨w.heap.size, 20, none⟩))).run Yba.prog W = .ok (.agg (.int .u64 x.t :: x.node).toArray) W := fun W hW => run_loadAt_mid W w.heap.size 20 32 _ _ hW Yba.underlying32 rfl (by rw [inf32]; simp [hnl])
  go_enter Yba.func32, Yba.ntmps32
  go_wp2_with fail
  refine wp_region_held_drew (S := StK w.heap.size x) (by kernel_rfl) K0.out (fun _ => ?_)
  refine wpAnyH_take (i := 0) (v := v) rfl (by kernel_rfl) (by kernel_rfl) (by kernel_rfl) (fun _ _ _ h => h) (Or.inl ⟨by rfl, fun W hW => by go_simp⟩) K0.out ?_
  simp only [Act.put, List.setIfInBounds_toArray, List.set_cons_zero, List.set_cons_succ]
  refine wpAnyH_take (i := 1) (v := .pointer (some ⟨w.heap.size, 0, none⟩)) rfl (by kernel_rfl) (by kernel_rfl) (by kernel_rfl) (fun _ _ _ h => h) (Or.inl ⟨by rfl, fun W hW => by go_simp⟩) K0.out ?_
  simp only [Act.put, List.setIfInBounds_toArray, List.set_cons_zero, List.set_cons_succ]
  refine wpAnyH_take (i := 2) (v := .slice (some ⟨w.heap.size, 0, none⟩) 20 20) rfl (by kernel_rfl) (by kernel_rfl) (by kernel_rfl) (fun _ _ _ h => h) (Or.inl ⟨by rfl, fun W hW => by go_simp⟩) K0.out ?_
  simp only [Act.put, List.setIfInBounds_toArray, List.set_cons_zero, List.set_cons_succ]
  refine wpAnyH_take (i := 4) (v := .pointer (some ⟨w.heap.size, 20, none⟩)) rfl (by kernel_rfl) (by kernel_rfl) (by kernel_rfl) (fun _ _ _ h => h) (Or.inl ⟨by rfl, fun W hW => by go_simp⟩) K0.out ?_
  simp only [Act.put, List.setIfInBounds_toArray, List.set_cons_zero, List.set_cons_succ]
  refine wpAnyH_take (i := 5) (v := .agg (.int .u64 x.t :: x.node).toArray) rfl (by kernel_rfl) (by kernel_rfl) (by kernel_rfl) (fun _ _ _ h => h) (yieldsIf_load_mid (by rfl) 32 (.tmp 9) rfl w.heap.size 20 rfl _ _ (fun W hW => StK.range HX.out hW) Yba.underlying32 rfl (by rw [inf32]; simp [hnl])) K0.out ?_
  simp only [Act.put, List.setIfInBounds_toArray, List.set_cons_zero, List.set_cons_succ]
  refine wpAnyH_take (i := 7) (v := .pointer (some ⟨w.heap.size, 41, none⟩)) rfl (by kernel_rfl) (by kernel_rfl) (by kernel_rfl) (fun _ _ _ h => h) (Or.inl ⟨by rfl, fun W hW => by go_simp⟩) K0.out ?_
  simp only [Act.put, List.setIfInBounds_toArray, List.set_cons_zero, List.set_cons_succ]
  refine wpAnyH_take (i := 8) (v := .bool x.del) rfl (by kernel_rfl) (by kernel_rfl) (by kernel_rfl) (fun _ _ _ h => h) (Or.inl ⟨by rfl, fun W hW => by have hd := StK.del HX.out hW; go_simp⟩) K0.out ?_
  simp only [Act.put, List.setIfInBounds_toArray, List.set_cons_zero, List.set_cons_succ]
  refine wpAnyH_ready (rs := [3]) (by kernel_rfl) (by simp) ?_
  refine AllReadyH.cons rfl (fun K hK => ?_) AllReadyH.nil
  refine step_append_app rfl (.tmp 5) (.tmp 7) 23 rfl B 5 i5 (.int .u8 0) 1 Yba.underlying23 hi5 h5a h5b h5c rfl v (xs ++ []) rfl H0.out.own ⟨w.heap.size, 0, none⟩ 20 20 x.id rfl hil.symm (K0.out.id HX.out) HX.out.id.one (by rw [hil]; unfold maxLen; omega) (by rw [hil]; omega) (by simp; omega) ?_
  intro v1 w1 hA1
  have H1 : Hid _ := App.next HO.out H0.out hA1
  have K1 : Hid (StK w.heap.size x w1) := App.other H0.out.own hA1 K0.out (by decide)
  have hz1 := H1.out.grown.size
  refine hK.out _ _ K1.out (fun _ => ?_)
  simp only [Act.put, List.setIfInBounds_toArray, List.set_cons_zero, List.set_cons_succ]
  clear hA1 hK K
  refine wpAnyH_ready (rs := [6]) (by kernel_rfl) (by simp) ?_
  refine AllReadyH.cons rfl (fun K hK => ?_) AllReadyH.nil
  rw [if_pos (by rfl)]
  go_simp
  refine (version36 B v1 _ x.t x.node HX.out.node HX.out.t0 HX.out.t1 w1 H1.out.own (by simp [hil]; omega) (by omega)).mono ?_
  rintro e w2 ⟨v2, rfl, hA2⟩
  have H2 : Hid _ := App.next HO.out H1.out hA2
  have K2 : Hid (StK w.heap.size x w2) := App.other H1.out.own hA2 K1.out (by decide)
  have hz2 := H2.out.grown.size
  refine hK.out _ _ K2.out (fun _ => ?_)
  clear hA2 hK K K1 H1 hz1
  refine wpAnyH_ready (rs := [9]) (by kernel_rfl) (by simp) ?_
  refine AllReadyH.cons rfl (fun K hK => ?_) AllReadyH.nil
  rw [if_pos (by rfl)]
  go_simp
  refine (flag22 B v2 _ x.del w2 H2.out.own (by simp [hil, hnl]; omega) (by omega)).mono ?_
  rintro e w3 ⟨v3, rfl, hA3⟩
  have H3 : Hid _ := App.next HO.out H2.out hA3
  have K3 : Hid (StK w.heap.size x w3) := App.other H2.out.own hA3 K2.out (by decide)
  have hz3 := H3.out.grown.size
  refine hK.out _ _ K3.out (fun _ => ?_)
  clear hA3 hK K K2 H2 hz2 K0 H0
  refine wpAnyH_take (i := 10) (v := v3) rfl (by kernel_rfl) (by kernel_rfl) (by kernel_rfl) (fun _ _ _ h => h) (Or.inl ⟨by rfl, fun W hW => by go_simp⟩) K3.out ?_
  simp only [Act.put, List.setIfInBounds_toArray, List.set_cons_zero, List.set_cons_succ]
  refine wpAnyH_done (by kernel_rfl) ?_ _
  clear hl32
  have hsz := K3.out.size HX.out
  go_wp2_with fail
  refine (u32_21 B v3 _ (IntKind.u32.wrap x.size) w3 H3.out.own (by simp [hil, hnl]; omega) (by omega) (wrap32 _).1 (wrap32 _).2).mono ?_
  rintro e w4 ⟨v4, rfl, hA4⟩
  have H4 : Hid _ := App.next HO.out H3.out hA4
  clear hA4
  go_wp2_with fail
  go_ret
  refine ⟨v4, rfl, ?_⟩
  have := H4.out
  rw [be4_wrap] at this
  simpa [Sm.enc] using this
end Go.Proofs.Ybulkdfdc
