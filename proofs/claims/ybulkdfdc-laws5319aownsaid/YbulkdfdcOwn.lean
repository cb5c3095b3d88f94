import Derived.Test.YbulkdfdcOwnB
namespace Go.Proofs.Ybulkdfdc
open Go.ChangeShapes Go.WideShapes Go.ChangeAt Go.RowKit
set_option linter.unusedVariables false
set_option linter.unusedSimpArgs false

set_option maxHeartbeats 8000000 in
set_option maxRecDepth 40000 in
theorem main_own (a0 : Option Addr) (n0 cap0 : Nat) (zs : List Nat) (hzb : ∀ z ∈ zs, z ≤ 255) (hz0 : zs.length = n0) (hn0 : n0 ≤ 1024) (a1 : Option Addr) (n1 cap1 : Nat) (hs : List Hd) (hn1 : hs.length = n1) (hn1' : n1 ≤ 1024) (W : World)
    (hI : ∀ i z, zs[i]? = some z → ∃ b o, a0 = some ⟨b, o, none⟩ ∧ b < W.heap.size ∧ W.cell? ⟨b, o + i, none⟩ = some (.int .u8 (z : Nat)))
    (hH : ∀ i h, hs[i]? = some h → h.Ok W ∧ ∃ b o, a1 = some ⟨b, o, none⟩ ∧ b < W.heap.size ∧ W.rangeAt b (o + i * 4) h.cells) :
    Calls Yba.prog 4 #[.slice a0 n0 cap0, .slice a1 n1 cap1] W fun e w' => e = .returned (.bool true) ∧ Below W.heap.size W w' := by
  have HI : Hid _ := hI
  have HH : Hid _ := hH
  have HZB : Hid _ := hzb
  have HZ0 : Hid _ := hz0
  have HN1 : Hid _ := hn1
  have HB0 : Hid _ := bld_made W
  clear hI hH hzb hz0 hn1
  have d0 : ¬ (1024 : Int) < (n0 : Int) := by omega
  have d1 : ¬ (1024 : Int) < (n1 : Int) := by omega
  have hmm : ∀ (w : World), (Instr.makeMap 47 none).run Yba.prog w = .ok (.map (some w.heap.size)) (w.alloc (.map #[] 0)) := fun w => rfl
  go_enter Yba.func4, Yba.ntmps4
  go_wp2_with fail
  go_loopw [40] (fun i wr => ∃ (k : Nat) (V : Nat → Value) (I : Nat → List It), k ≤ n1 ∧ i = .int .i64 k ∧ Bld W W.heap.size k wr V I) (fun i _ => n1 - (intOf i).toNat)
  case atStart => exact ⟨0, _, _, by omega, rfl, HB0.out⟩
  case round =>
    obtain ⟨k, V, I, hk, rfl, hbld⟩ := hrel
    have HBL : Hid _ := hbld
    clear hbld
    by_cases hlt : k < n1
    · have hlt' : (k : Int) < (n1 : Int) := by omega
      obtain ⟨hd, hhd⟩ : ∃ hd, hs[k]? = some hd := ⟨hs[k]'(by have := HN1.out; omega), List.getElem?_eq_getElem _⟩
      obtain ⟨hdo, b, o, rfl, hb, hrd⟩ := HH.out k hd hhd
      have hsel := hdo.sel
      have hc8 : hd.sel % 8 < 8 := by omega
      have HRd : Hid (wr.rangeAt b (o + k * 4) hd.cells) := rangeAt_block (HBL.out.bel.block b hb) hrd
      have HN96 : Hid ((wr.alloc (.cells hd.cells.toArray 96)).heap[wr.heap.size]? = some (.cells hd.cells.toArray 96 (0, 0))) := heap_alloc_new _ _
      obtain ⟨i34, hi34, h34a, h34b, h34c⟩ := info_parts inf34
      have hbl2 : Bld W W.heap.size k ((wr.alloc (.cells hd.cells.toArray 96)).alloc (.cells (idCells (hd.sel % 8)).toArray 26)) V I := (HBL.out.below ((Below.refl _ _).alloc (Nat.le_refl _) _)).below ((Below.refl _ _).alloc (Nat.le_refl _) _)
      obtain ⟨st, w1, hme, ho1, ho2, hW1, hst⟩ := hbl2.step (by omega) hd.it hdo.it hc8
      have HME : Hid _ := hme
      have HO1 : Hid (w1.ownsRow W.heap.size 34 24 (V (hd.sel % 8)) (I (hd.sel % 8)).length (itsV (I (hd.sel % 8)))) := ho1
      have HO2 : Hid (w1.ownsRow ((wr.alloc (.cells hd.cells.toArray 96)).alloc (.cells (idCells (hd.sel % 8)).toArray 26)).heap.size 34 24 (.slice (some ⟨((wr.alloc (.cells hd.cells.toArray 96)).alloc (.cells (idCells (hd.sel % 8)).toArray 26)).heap.size, 0, none⟩) 1 1) [hd.it].length (itsV [hd.it])) := ho2
      have HST : Hid _ := hst
      have HLL : Hid ((I (hd.sel % 8)).length + [hd.it].length ≤ 3000000) := by have := HBL.out.len _ hc8; show _ ≤ _; simp; omega
      have hkc := hdo.kc
      have hvc := hdo.vc
      have HIT : Hid (Yba.prog.built 34 [(0, .slice hd.it.ka hd.it.kn hd.it.kc), (1, .slice hd.it.va hd.it.vn hd.it.vc), (3, .bool hd.it.del)] = some hd.it.cells.toArray) := built34 hd.it
      have HKA : Hid (0 < hd.kn → ∃ bk ok, hd.ka = some ⟨bk, ok, none⟩) := by
        obtain ⟨zk, e1, e2⟩ := hdo.k
        intro h0; obtain ⟨b, o, e, _⟩ := e2 (by omega); exact ⟨b, o, e⟩
      have HVA : Hid (0 < hd.vn → ∃ bk ok, hd.va = some ⟨bk, ok, none⟩) := by
        obtain ⟨zk, e1, e2⟩ := hdo.v
        intro h0; obtain ⟨b, o, e, _⟩ := e2 (by omega); exact ⟨b, o, e⟩
      clear hhd hdo hb hrd hbl2 hme ho1 ho2 hst
      by_cases hk32 : 32 < hd.kn
      · by_cases hv32 : 32 < hd.vn
        · obtain ⟨bk, ok, hka⟩ := HKA.out (by omega)
          have kc1 : (32 : Int) ≤ (hd.kc : Int) := by omega
          obtain ⟨bv, ov, hva⟩ := HVA.out (by omega)
          have vc1 : (32 : Int) ≤ (hd.vc : Int) := by omega
          have HBT : Hid (Yba.prog.built 34 [(0, .slice (some ⟨bk, ok, none⟩) 32 hd.kc), (1, .slice (some ⟨bv, ov, none⟩) 32 hd.vc), (3, .bool hd.del)] = some hd.it.cells.toArray) := by
            have h0 := HIT.out
            have e1 : hd.it.kn = 32 := by show min _ _ = _; omega
            have e2 : hd.it.vn = 32 := by show min _ _ = _; omega
            have e3 : hd.it.ka = (some ⟨bk, ok, none⟩) := hka
            have e4 : hd.it.va = (some ⟨bv, ov, none⟩) := hva
            rw [e1, e2, e3, e4] at h0
            exact h0
          have c1 : (wr.alloc (.cells hd.cells.toArray 96)).cell? ⟨wr.heap.size, 1, none⟩ = some (.slice (some ⟨bk, ok, none⟩) hd.kn hd.kc) := cell_of_block HN96.out (by simp [Hd.cells, hka])
          have c2 : (wr.alloc (.cells hd.cells.toArray 96)).cell? ⟨wr.heap.size, 2, none⟩ = some (.slice (some ⟨bv, ov, none⟩) hd.vn hd.vc) := cell_of_block HN96.out (by simp [Hd.cells, hva])
          have c0 : (wr.alloc (.cells hd.cells.toArray 96)).cell? ⟨wr.heap.size, 0, none⟩ = some (.int .u8 (hd.sel : Nat)) := cell_of_block HN96.out (by simp [Hd.cells])
          have c3 : ((wr.alloc (.cells hd.cells.toArray 96)).alloc (.cells (idCells (hd.sel % 8)).toArray 26)).cell? ⟨wr.heap.size, 3, none⟩ = some (.bool hd.del) := by rw [World.cell?_alloc_past _ _ _ (by simp)]; exact cell_of_block HN96.out (by simp [Hd.cells])
          have k1 : (32 : Int) < (hd.kn : Int) := by omega
          have v1 : (32 : Int) < (hd.vn : Int) := by omega
          clear hka
          clear hva
          go_wp2_with (first
            | (refine gate (some 43) rfl ?_; refine wpList_load_mid rfl 96 (.tmp 42) rfl b (o + k * 4) rfl hd.cells _ HRd.out Yba.underlying96 rfl (by rw [sz96]; rfl) ?_; simp only [Act.put, List.setIfInBounds_toArray, List.set_cons_zero, List.set_cons_succ])
            | (refine gate (some 7) rfl ?_; refine wpList_alloc_store rfl rfl 96 7 (.tmp 43) rfl rfl rfl rfl hdZero 4 info96 rfl hd.cells.toArray rfl (all_oneCell_toArray hd.one) rfl rfl ?_; simp only [Act.put, List.setIfInBounds_toArray, List.set_cons_zero, List.set_cons_succ])
            | (refine gate (some 61) rfl ?_; refine wpList_build_to rfl 26 #[(0, .tmp 60)] rfl [(0, .int .u8 ((hd.sel : Int) % 8))] (by simp only [List.map_toArray, List.map_cons, List.map_nil]; rfl) (idCells (hd.sel % 8)).toArray (built26 hd.sel) ?_; simp only [Act.put, List.setIfInBounds_toArray, List.set_cons_zero, List.set_cons_succ])
            | (refine gate (some 10) rfl ?_; refine wpList_alloc_store rfl rfl 26 10 (.tmp 61) rfl rfl rfl rfl idZero 20 info26 rfl (idCells (hd.sel % 8)).toArray (by simp [len_id]) (all_oneCell_toArray (one_id _)) rfl rfl ?_; simp only [Act.put, List.setIfInBounds_toArray, List.set_cons_zero, List.set_cons_succ])
            | (refine gate (some 63) rfl ?_; refine wpList_load_mid rfl 26 (.tmp 10) rfl (wr.alloc (.cells hd.cells.toArray 96)).heap.size 0 rfl (idCells (hd.sel % 8)) _ (range_new _ _) Yba.underlying26 rfl (by rw [sz26, len_id]) ?_; simp only [Act.put, List.setIfInBounds_toArray, List.set_cons_zero, List.set_cons_succ])
            | (refine gate (some 69) rfl ?_; refine wpList_build_to rfl 34 #[(0, .tmp 65), (1, .tmp 66), (3, .tmp 68)] rfl [(0, .slice (some ⟨bk, ok, none⟩) 32 hd.kc), (1, .slice (some ⟨bv, ov, none⟩) 32 hd.vc), (3, .bool hd.del)] (by simp only [List.map_toArray, List.map_cons, List.map_nil]; rfl) hd.it.cells.toArray HBT.out ?_; simp only [Act.put, List.setIfInBounds_toArray, List.set_cons_zero, List.set_cons_succ])
            | (refine gate (some 70) rfl ?_; refine wpList_buildSlice_one rfl 35 34 (.tmp 69) rfl i34 itZero 24 Yba.underlying35 hi34 h34a h34b (by decide) (by decide) hd.it.cells rfl rfl ?_; simp only [Act.put, List.setIfInBounds_toArray, List.set_cons_zero, List.set_cons_succ])
            | (refine gate (some 71) rfl ?_; refine wpList_mapEntry rfl (.tmp 62) (.tmp 63) rfl W.heap.size (hd.sel % 8) (.tuple #[V (hd.sel % 8), goInt st]) rfl rfl HME.out ?_; simp only [Act.put, List.setIfInBounds_toArray, List.set_cons_zero, List.set_cons_succ])
            | (refine gate (some 72) rfl ?_; refine wpList_append_rows w1 rfl (.tmp 64) (.tmp 70) rfl W.heap.size ((wr.alloc (.cells hd.cells.toArray 96)).alloc (.cells (idCells (hd.sel % 8)).toArray 26)).heap.size (V (hd.sel % 8)) (.slice (some ⟨((wr.alloc (.cells hd.cells.toArray 96)).alloc (.cells (idCells (hd.sel % 8)).toArray 26)).heap.size, 0, none⟩) 1 1) (I (hd.sel % 8)) [hd.it] rfl (by first | rfl | (simp [Act.eval])) HO1.out HO2.out HLL.out hW1 ?_; intro v5 w5 hO5 hG5 hL5; obtain ⟨w3, hr3, hb3⟩ := HST.out v5 w5 hO5 hG5 hL5; have HR3 : Hid _ := hr3; have HB3 : Hid (Bld W W.heap.size (k + 1) w3 (updV V (hd.sel % 8) v5) (updI I (hd.sel % 8) (I (hd.sel % 8) ++ [hd.it]))) := hb3; clear hO5 hG5 hL5 hr3 hb3; simp only [Act.put, List.setIfInBounds_toArray, List.set_cons_zero, List.set_cons_succ])
            | (refine gate none rfl ?_; refine wpList_entryStore rfl (.tmp 62) (.tmp 73) (.tmp 72) rfl rfl W.heap.size (goInt st) v5 rfl rfl rfl HR3.out ?_))
          go_roundw
          case rel => exact ⟨k + 1, _, _, by omega, by simp, HB3.out⟩
          case measure => simp [intOf]; omega
        · obtain ⟨bk, ok, hka⟩ := HKA.out (by omega)
          have kc1 : (32 : Int) ≤ (hd.kc : Int) := by omega
          have HBT : Hid (Yba.prog.built 34 [(0, .slice (some ⟨bk, ok, none⟩) 32 hd.kc), (1, .slice hd.va hd.vn hd.vc), (3, .bool hd.del)] = some hd.it.cells.toArray) := by
            have h0 := HIT.out
            have e1 : hd.it.kn = 32 := by show min _ _ = _; omega
            have e2 : hd.it.vn = hd.vn := by show min _ _ = _; omega
            have e3 : hd.it.ka = (some ⟨bk, ok, none⟩) := hka
            have e4 : hd.it.va = hd.va := rfl
            rw [e1, e2, e3, e4] at h0
            exact h0
          have c1 : (wr.alloc (.cells hd.cells.toArray 96)).cell? ⟨wr.heap.size, 1, none⟩ = some (.slice (some ⟨bk, ok, none⟩) hd.kn hd.kc) := cell_of_block HN96.out (by simp [Hd.cells, hka])
          have c2 : (wr.alloc (.cells hd.cells.toArray 96)).cell? ⟨wr.heap.size, 2, none⟩ = some (.slice hd.va hd.vn hd.vc) := cell_of_block HN96.out (by simp [Hd.cells])
          have c0 : (wr.alloc (.cells hd.cells.toArray 96)).cell? ⟨wr.heap.size, 0, none⟩ = some (.int .u8 (hd.sel : Nat)) := cell_of_block HN96.out (by simp [Hd.cells])
          have c3 : ((wr.alloc (.cells hd.cells.toArray 96)).alloc (.cells (idCells (hd.sel % 8)).toArray 26)).cell? ⟨wr.heap.size, 3, none⟩ = some (.bool hd.del) := by rw [World.cell?_alloc_past _ _ _ (by simp)]; exact cell_of_block HN96.out (by simp [Hd.cells])
          have k1 : (32 : Int) < (hd.kn : Int) := by omega
          have v1 : ¬ (32 : Int) < (hd.vn : Int) := by omega
          clear hka
          skip
          go_wp2_with (first
            | (refine gate (some 43) rfl ?_; refine wpList_load_mid rfl 96 (.tmp 42) rfl b (o + k * 4) rfl hd.cells _ HRd.out Yba.underlying96 rfl (by rw [sz96]; rfl) ?_; simp only [Act.put, List.setIfInBounds_toArray, List.set_cons_zero, List.set_cons_succ])
            | (refine gate (some 7) rfl ?_; refine wpList_alloc_store rfl rfl 96 7 (.tmp 43) rfl rfl rfl rfl hdZero 4 info96 rfl hd.cells.toArray rfl (all_oneCell_toArray hd.one) rfl rfl ?_; simp only [Act.put, List.setIfInBounds_toArray, List.set_cons_zero, List.set_cons_succ])
            | (refine gate (some 61) rfl ?_; refine wpList_build_to rfl 26 #[(0, .tmp 60)] rfl [(0, .int .u8 ((hd.sel : Int) % 8))] (by simp only [List.map_toArray, List.map_cons, List.map_nil]; rfl) (idCells (hd.sel % 8)).toArray (built26 hd.sel) ?_; simp only [Act.put, List.setIfInBounds_toArray, List.set_cons_zero, List.set_cons_succ])
            | (refine gate (some 10) rfl ?_; refine wpList_alloc_store rfl rfl 26 10 (.tmp 61) rfl rfl rfl rfl idZero 20 info26 rfl (idCells (hd.sel % 8)).toArray (by simp [len_id]) (all_oneCell_toArray (one_id _)) rfl rfl ?_; simp only [Act.put, List.setIfInBounds_toArray, List.set_cons_zero, List.set_cons_succ])
            | (refine gate (some 63) rfl ?_; refine wpList_load_mid rfl 26 (.tmp 10) rfl (wr.alloc (.cells hd.cells.toArray 96)).heap.size 0 rfl (idCells (hd.sel % 8)) _ (range_new _ _) Yba.underlying26 rfl (by rw [sz26, len_id]) ?_; simp only [Act.put, List.setIfInBounds_toArray, List.set_cons_zero, List.set_cons_succ])
            | (refine gate (some 69) rfl ?_; refine wpList_build_to rfl 34 #[(0, .tmp 65), (1, .tmp 66), (3, .tmp 68)] rfl [(0, .slice (some ⟨bk, ok, none⟩) 32 hd.kc), (1, .slice hd.va hd.vn hd.vc), (3, .bool hd.del)] (by simp only [List.map_toArray, List.map_cons, List.map_nil]; rfl) hd.it.cells.toArray HBT.out ?_; simp only [Act.put, List.setIfInBounds_toArray, List.set_cons_zero, List.set_cons_succ])
            | (refine gate (some 70) rfl ?_; refine wpList_buildSlice_one rfl 35 34 (.tmp 69) rfl i34 itZero 24 Yba.underlying35 hi34 h34a h34b (by decide) (by decide) hd.it.cells rfl rfl ?_; simp only [Act.put, List.setIfInBounds_toArray, List.set_cons_zero, List.set_cons_succ])
            | (refine gate (some 71) rfl ?_; refine wpList_mapEntry rfl (.tmp 62) (.tmp 63) rfl W.heap.size (hd.sel % 8) (.tuple #[V (hd.sel % 8), goInt st]) rfl rfl HME.out ?_; simp only [Act.put, List.setIfInBounds_toArray, List.set_cons_zero, List.set_cons_succ])
            | (refine gate (some 72) rfl ?_; refine wpList_append_rows w1 rfl (.tmp 64) (.tmp 70) rfl W.heap.size ((wr.alloc (.cells hd.cells.toArray 96)).alloc (.cells (idCells (hd.sel % 8)).toArray 26)).heap.size (V (hd.sel % 8)) (.slice (some ⟨((wr.alloc (.cells hd.cells.toArray 96)).alloc (.cells (idCells (hd.sel % 8)).toArray 26)).heap.size, 0, none⟩) 1 1) (I (hd.sel % 8)) [hd.it] rfl (by first | rfl | (simp [Act.eval])) HO1.out HO2.out HLL.out hW1 ?_; intro v5 w5 hO5 hG5 hL5; obtain ⟨w3, hr3, hb3⟩ := HST.out v5 w5 hO5 hG5 hL5; have HR3 : Hid _ := hr3; have HB3 : Hid (Bld W W.heap.size (k + 1) w3 (updV V (hd.sel % 8) v5) (updI I (hd.sel % 8) (I (hd.sel % 8) ++ [hd.it]))) := hb3; clear hO5 hG5 hL5 hr3 hb3; simp only [Act.put, List.setIfInBounds_toArray, List.set_cons_zero, List.set_cons_succ])
            | (refine gate none rfl ?_; refine wpList_entryStore rfl (.tmp 62) (.tmp 73) (.tmp 72) rfl rfl W.heap.size (goInt st) v5 rfl rfl rfl HR3.out ?_))
          go_roundw
          case rel => exact ⟨k + 1, _, _, by omega, by simp, HB3.out⟩
          case measure => simp [intOf]; omega
      · by_cases hv32 : 32 < hd.vn
        · obtain ⟨bv, ov, hva⟩ := HVA.out (by omega)
          have vc1 : (32 : Int) ≤ (hd.vc : Int) := by omega
          have HBT : Hid (Yba.prog.built 34 [(0, .slice hd.ka hd.kn hd.kc), (1, .slice (some ⟨bv, ov, none⟩) 32 hd.vc), (3, .bool hd.del)] = some hd.it.cells.toArray) := by
            have h0 := HIT.out
            have e1 : hd.it.kn = hd.kn := by show min _ _ = _; omega
            have e2 : hd.it.vn = 32 := by show min _ _ = _; omega
            have e3 : hd.it.ka = hd.ka := rfl
            have e4 : hd.it.va = (some ⟨bv, ov, none⟩) := hva
            rw [e1, e2, e3, e4] at h0
            exact h0
          have c1 : (wr.alloc (.cells hd.cells.toArray 96)).cell? ⟨wr.heap.size, 1, none⟩ = some (.slice hd.ka hd.kn hd.kc) := cell_of_block HN96.out (by simp [Hd.cells])
          have c2 : (wr.alloc (.cells hd.cells.toArray 96)).cell? ⟨wr.heap.size, 2, none⟩ = some (.slice (some ⟨bv, ov, none⟩) hd.vn hd.vc) := cell_of_block HN96.out (by simp [Hd.cells, hva])
          have c0 : (wr.alloc (.cells hd.cells.toArray 96)).cell? ⟨wr.heap.size, 0, none⟩ = some (.int .u8 (hd.sel : Nat)) := cell_of_block HN96.out (by simp [Hd.cells])
          have c3 : ((wr.alloc (.cells hd.cells.toArray 96)).alloc (.cells (idCells (hd.sel % 8)).toArray 26)).cell? ⟨wr.heap.size, 3, none⟩ = some (.bool hd.del) := by rw [World.cell?_alloc_past _ _ _ (by simp)]; exact cell_of_block HN96.out (by simp [Hd.cells])
          have k1 : ¬ (32 : Int) < (hd.kn : Int) := by omega
          have v1 : (32 : Int) < (hd.vn : Int) := by omega
          skip
          clear hva
          go_wp2_with (first
            | (refine gate (some 43) rfl ?_; refine wpList_load_mid rfl 96 (.tmp 42) rfl b (o + k * 4) rfl hd.cells _ HRd.out Yba.underlying96 rfl (by rw [sz96]; rfl) ?_; simp only [Act.put, List.setIfInBounds_toArray, List.set_cons_zero, List.set_cons_succ])
            | (refine gate (some 7) rfl ?_; refine wpList_alloc_store rfl rfl 96 7 (.tmp 43) rfl rfl rfl rfl hdZero 4 info96 rfl hd.cells.toArray rfl (all_oneCell_toArray hd.one) rfl rfl ?_; simp only [Act.put, List.setIfInBounds_toArray, List.set_cons_zero, List.set_cons_succ])
            | (refine gate (some 61) rfl ?_; refine wpList_build_to rfl 26 #[(0, .tmp 60)] rfl [(0, .int .u8 ((hd.sel : Int) % 8))] (by simp only [List.map_toArray, List.map_cons, List.map_nil]; rfl) (idCells (hd.sel % 8)).toArray (built26 hd.sel) ?_; simp only [Act.put, List.setIfInBounds_toArray, List.set_cons_zero, List.set_cons_succ])
            | (refine gate (some 10) rfl ?_; refine wpList_alloc_store rfl rfl 26 10 (.tmp 61) rfl rfl rfl rfl idZero 20 info26 rfl (idCells (hd.sel % 8)).toArray (by simp [len_id]) (all_oneCell_toArray (one_id _)) rfl rfl ?_; simp only [Act.put, List.setIfInBounds_toArray, List.set_cons_zero, List.set_cons_succ])
            | (refine gate (some 63) rfl ?_; refine wpList_load_mid rfl 26 (.tmp 10) rfl (wr.alloc (.cells hd.cells.toArray 96)).heap.size 0 rfl (idCells (hd.sel % 8)) _ (range_new _ _) Yba.underlying26 rfl (by rw [sz26, len_id]) ?_; simp only [Act.put, List.setIfInBounds_toArray, List.set_cons_zero, List.set_cons_succ])
            | (refine gate (some 69) rfl ?_; refine wpList_build_to rfl 34 #[(0, .tmp 65), (1, .tmp 66), (3, .tmp 68)] rfl [(0, .slice hd.ka hd.kn hd.kc), (1, .slice (some ⟨bv, ov, none⟩) 32 hd.vc), (3, .bool hd.del)] (by simp only [List.map_toArray, List.map_cons, List.map_nil]; rfl) hd.it.cells.toArray HBT.out ?_; simp only [Act.put, List.setIfInBounds_toArray, List.set_cons_zero, List.set_cons_succ])
            | (refine gate (some 70) rfl ?_; refine wpList_buildSlice_one rfl 35 34 (.tmp 69) rfl i34 itZero 24 Yba.underlying35 hi34 h34a h34b (by decide) (by decide) hd.it.cells rfl rfl ?_; simp only [Act.put, List.setIfInBounds_toArray, List.set_cons_zero, List.set_cons_succ])
            | (refine gate (some 71) rfl ?_; refine wpList_mapEntry rfl (.tmp 62) (.tmp 63) rfl W.heap.size (hd.sel % 8) (.tuple #[V (hd.sel % 8), goInt st]) rfl rfl HME.out ?_; simp only [Act.put, List.setIfInBounds_toArray, List.set_cons_zero, List.set_cons_succ])
            | (refine gate (some 72) rfl ?_; refine wpList_append_rows w1 rfl (.tmp 64) (.tmp 70) rfl W.heap.size ((wr.alloc (.cells hd.cells.toArray 96)).alloc (.cells (idCells (hd.sel % 8)).toArray 26)).heap.size (V (hd.sel % 8)) (.slice (some ⟨((wr.alloc (.cells hd.cells.toArray 96)).alloc (.cells (idCells (hd.sel % 8)).toArray 26)).heap.size, 0, none⟩) 1 1) (I (hd.sel % 8)) [hd.it] rfl (by first | rfl | (simp [Act.eval])) HO1.out HO2.out HLL.out hW1 ?_; intro v5 w5 hO5 hG5 hL5; obtain ⟨w3, hr3, hb3⟩ := HST.out v5 w5 hO5 hG5 hL5; have HR3 : Hid _ := hr3; have HB3 : Hid (Bld W W.heap.size (k + 1) w3 (updV V (hd.sel % 8) v5) (updI I (hd.sel % 8) (I (hd.sel % 8) ++ [hd.it]))) := hb3; clear hO5 hG5 hL5 hr3 hb3; simp only [Act.put, List.setIfInBounds_toArray, List.set_cons_zero, List.set_cons_succ])
            | (refine gate none rfl ?_; refine wpList_entryStore rfl (.tmp 62) (.tmp 73) (.tmp 72) rfl rfl W.heap.size (goInt st) v5 rfl rfl rfl HR3.out ?_))
          go_roundw
          case rel => exact ⟨k + 1, _, _, by omega, by simp, HB3.out⟩
          case measure => simp [intOf]; omega
        · have HBT : Hid (Yba.prog.built 34 [(0, .slice hd.ka hd.kn hd.kc), (1, .slice hd.va hd.vn hd.vc), (3, .bool hd.del)] = some hd.it.cells.toArray) := by
            have h0 := HIT.out
            have e1 : hd.it.kn = hd.kn := by show min _ _ = _; omega
            have e2 : hd.it.vn = hd.vn := by show min _ _ = _; omega
            have e3 : hd.it.ka = hd.ka := rfl
            have e4 : hd.it.va = hd.va := rfl
            rw [e1, e2, e3, e4] at h0
            exact h0
          have c1 : (wr.alloc (.cells hd.cells.toArray 96)).cell? ⟨wr.heap.size, 1, none⟩ = some (.slice hd.ka hd.kn hd.kc) := cell_of_block HN96.out (by simp [Hd.cells])
          have c2 : (wr.alloc (.cells hd.cells.toArray 96)).cell? ⟨wr.heap.size, 2, none⟩ = some (.slice hd.va hd.vn hd.vc) := cell_of_block HN96.out (by simp [Hd.cells])
          have c0 : (wr.alloc (.cells hd.cells.toArray 96)).cell? ⟨wr.heap.size, 0, none⟩ = some (.int .u8 (hd.sel : Nat)) := cell_of_block HN96.out (by simp [Hd.cells])
          have c3 : ((wr.alloc (.cells hd.cells.toArray 96)).alloc (.cells (idCells (hd.sel % 8)).toArray 26)).cell? ⟨wr.heap.size, 3, none⟩ = some (.bool hd.del) := by rw [World.cell?_alloc_past _ _ _ (by simp)]; exact cell_of_block HN96.out (by simp [Hd.cells])
          have k1 : ¬ (32 : Int) < (hd.kn : Int) := by omega
          have v1 : ¬ (32 : Int) < (hd.vn : Int) := by omega
          skip
          skip
          go_wp2_with (first
            | (refine gate (some 43) rfl ?_; refine wpList_load_mid rfl 96 (.tmp 42) rfl b (o + k * 4) rfl hd.cells _ HRd.out Yba.underlying96 rfl (by rw [sz96]; rfl) ?_; simp only [Act.put, List.setIfInBounds_toArray, List.set_cons_zero, List.set_cons_succ])
            | (refine gate (some 7) rfl ?_; refine wpList_alloc_store rfl rfl 96 7 (.tmp 43) rfl rfl rfl rfl hdZero 4 info96 rfl hd.cells.toArray rfl (all_oneCell_toArray hd.one) rfl rfl ?_; simp only [Act.put, List.setIfInBounds_toArray, List.set_cons_zero, List.set_cons_succ])
            | (refine gate (some 61) rfl ?_; refine wpList_build_to rfl 26 #[(0, .tmp 60)] rfl [(0, .int .u8 ((hd.sel : Int) % 8))] (by simp only [List.map_toArray, List.map_cons, List.map_nil]; rfl) (idCells (hd.sel % 8)).toArray (built26 hd.sel) ?_; simp only [Act.put, List.setIfInBounds_toArray, List.set_cons_zero, List.set_cons_succ])
            | (refine gate (some 10) rfl ?_; refine wpList_alloc_store rfl rfl 26 10 (.tmp 61) rfl rfl rfl rfl idZero 20 info26 rfl (idCells (hd.sel % 8)).toArray (by simp [len_id]) (all_oneCell_toArray (one_id _)) rfl rfl ?_; simp only [Act.put, List.setIfInBounds_toArray, List.set_cons_zero, List.set_cons_succ])
            | (refine gate (some 63) rfl ?_; refine wpList_load_mid rfl 26 (.tmp 10) rfl (wr.alloc (.cells hd.cells.toArray 96)).heap.size 0 rfl (idCells (hd.sel % 8)) _ (range_new _ _) Yba.underlying26 rfl (by rw [sz26, len_id]) ?_; simp only [Act.put, List.setIfInBounds_toArray, List.set_cons_zero, List.set_cons_succ])
            | (refine gate (some 69) rfl ?_; refine wpList_build_to rfl 34 #[(0, .tmp 65), (1, .tmp 66), (3, .tmp 68)] rfl [(0, .slice hd.ka hd.kn hd.kc), (1, .slice hd.va hd.vn hd.vc), (3, .bool hd.del)] (by simp only [List.map_toArray, List.map_cons, List.map_nil]; rfl) hd.it.cells.toArray HBT.out ?_; simp only [Act.put, List.setIfInBounds_toArray, List.set_cons_zero, List.set_cons_succ])
            | (refine gate (some 70) rfl ?_; refine wpList_buildSlice_one rfl 35 34 (.tmp 69) rfl i34 itZero 24 Yba.underlying35 hi34 h34a h34b (by decide) (by decide) hd.it.cells rfl rfl ?_; simp only [Act.put, List.setIfInBounds_toArray, List.set_cons_zero, List.set_cons_succ])
            | (refine gate (some 71) rfl ?_; refine wpList_mapEntry rfl (.tmp 62) (.tmp 63) rfl W.heap.size (hd.sel % 8) (.tuple #[V (hd.sel % 8), goInt st]) rfl rfl HME.out ?_; simp only [Act.put, List.setIfInBounds_toArray, List.set_cons_zero, List.set_cons_succ])
            | (refine gate (some 72) rfl ?_; refine wpList_append_rows w1 rfl (.tmp 64) (.tmp 70) rfl W.heap.size ((wr.alloc (.cells hd.cells.toArray 96)).alloc (.cells (idCells (hd.sel % 8)).toArray 26)).heap.size (V (hd.sel % 8)) (.slice (some ⟨((wr.alloc (.cells hd.cells.toArray 96)).alloc (.cells (idCells (hd.sel % 8)).toArray 26)).heap.size, 0, none⟩) 1 1) (I (hd.sel % 8)) [hd.it] rfl (by first | rfl | (simp [Act.eval])) HO1.out HO2.out HLL.out hW1 ?_; intro v5 w5 hO5 hG5 hL5; obtain ⟨w3, hr3, hb3⟩ := HST.out v5 w5 hO5 hG5 hL5; have HR3 : Hid _ := hr3; have HB3 : Hid (Bld W W.heap.size (k + 1) w3 (updV V (hd.sel % 8) v5) (updI I (hd.sel % 8) (I (hd.sel % 8) ++ [hd.it]))) := hb3; clear hO5 hG5 hL5 hr3 hb3; simp only [Act.put, List.setIfInBounds_toArray, List.set_cons_zero, List.set_cons_succ])
            | (refine gate none rfl ?_; refine wpList_entryStore rfl (.tmp 62) (.tmp 73) (.tmp 72) rfl rfl W.heap.size (goInt st) v5 rfl rfl rfl HR3.out ?_))
          go_roundw
          case rel => exact ⟨k + 1, _, _, by omega, by simp, HB3.out⟩
          case measure => simp [intOf]; omega
    · obtain rfl : k = n1 := by omega
      rename World => W1
      obtain ⟨ks, hks⟩ : ∃ ks, ks = zs.map (· % 8) := ⟨_, rfl⟩
      have HKS : Hid _ := hks
      have HKL : Hid (ks.length = n0) := by rw [hks, List.length_map]; exact HZ0.out
      have HK8 : Hid (∀ c ∈ ks, c < 8) := by rw [hks]; intro c hc; obtain ⟨z, _, rfl⟩ := List.mem_map.1 hc; omega
      have HKA : Hid (∀ (i z : Nat), zs[i]? = some z → ks[i]? = some (z % 8)) := by rw [hks]; intro i z hz; rw [List.getElem?_map, hz]; rfl
      clear hks
      obtain ⟨i26, hi26, h26a, h26b, h26c⟩ := info_parts inf26
      obtain ⟨w2, hmk, hOL, hGL⟩ := run_makeSlice_owned (P := Yba.prog) W1 W1.heap.size 24 26 i26 idZero 20 Yba.underlying24 hi26 h26a h26b .i64 .i64 n0 (by omega) (by rw [h26c]; omega) (by unfold maxLen; omega) (Nat.le_refl _)
      have HOL : Hid (w2.ownsRow W1.heap.size 26 20 (.slice (some ⟨W1.heap.size, 0, none⟩) 0 n0) 0 []) := hOL
      have HB2 : Hid (Below W1.heap.size W1 w2) := grown_below hGL
      clear hOL hGL
      go_wp2_with fail
      clear hmk
      go_loopw [11, 80] (fun l j wq => ∃ (i : Nat), i ≤ n0 ∧ j = .int .i64 i ∧ wq.ownsRow W1.heap.size 26 20 l (ks.take i).length (idsV (ks.take i)) ∧ Below W1.heap.size W1 wq) (fun _ j _ => n0 - (intOf j).toNat)
      case atStart => exact ⟨0, by omega, rfl, HOL.out, HB2.out⟩
      case round =>
        obtain ⟨i, hi, rfl, hown, hbq⟩ := hrel
        have HOQ : Hid (wr.ownsRow W1.heap.size 26 20 u11 (ks.take i).length (idsV (ks.take i))) := hown
        have HBQ : Hid (Below W1.heap.size W1 wr) := hbq
        have hzq := hbq.size
        clear hown hbq
        by_cases hil : i < n0
        · have hil' : (i : Int) < (n0 : Int) := by omega
          obtain ⟨z, hz⟩ : ∃ z, zs[i]? = some z := ⟨zs[i]'(by have := HZ0.out; omega), List.getElem?_eq_getElem _⟩
          obtain ⟨b, o, rfl, hb, hcell⟩ := HI.out i z hz
          have hz255 := HZB.out z (List.mem_of_getElem? hz)
          have hkc : ks[i]? = some (z % 8) := HKA.out i z hz
          have HKC : Hid _ := hkc
          have c0 : wr.cell? ⟨b, o + i, none⟩ = some (.int .u8 (z : Nat)) := by
            rw [HBQ.out.cell (by have := HBL.out.bel.size; show b < _; omega), HBL.out.bel.cell (by show b < _; omega)]; exact hcell
          clear hkc hcell
          go_wp2_with (first
            | (refine gate (some 87) rfl ?_; refine wpList_build_to rfl 26 #[(0, .tmp 86)] rfl [(0, .int .u8 ((z : Int) % 8))] (by simp only [List.map_toArray, List.map_cons, List.map_nil]; rfl) (idCells (z % 8)).toArray (built26 z) ?_; simp only [Act.put, List.setIfInBounds_toArray, List.set_cons_zero, List.set_cons_succ])
            | (refine gate (some 88) rfl ?_; refine wpList_buildSlice_one rfl 24 26 (.tmp 87) rfl i26 idZero 20 Yba.underlying24 hi26 h26a h26b (by decide) (by decide) (idCells (z % 8)) (len_id _) rfl ?_; simp only [Act.put, List.setIfInBounds_toArray, List.set_cons_zero, List.set_cons_succ])
            | (refine gate (some 89) rfl ?_; refine wpList_append_id _ rfl (.tmp 84) (.tmp 88) rfl W1.heap.size u11 (ks.take i) (z % 8) wr.heap.size rfl rfl (World.ownsRow.alloc HOQ.out _) (range_new _ _) (by rw [List.length_take]; omega) (by simp; omega) ?_; intro v5 w5 hO5 hG5; have HO5 : Hid _ := hO5; have HB5 : Hid (Below W1.heap.size W1 w5) := (HBQ.out.alloc hzq _).grown hG5 (by simp; omega) (fun q hq => (own_lt HOQ.out hq).1); clear hO5 hG5; simp only [Act.put, List.setIfInBounds_toArray, List.set_cons_zero, List.set_cons_succ]))
          go_roundw
          case rel => exact ⟨i + 1, by omega, by simp, by rw [List.take_add_one, HKC.out]; exact HO5.out, HB5.out⟩
          case measure => simp [intOf]; omega
        · obtain rfl : i = n0 := by omega
          rename World => W2
          have HTK : Hid (ks.take i = ks) := by have := HKL.out; exact List.take_of_length_le (by omega)
          obtain ⟨al, capl, hul⟩ : ∃ al capl, u11 = .slice al i capl := by
            have h0 := HOQ.out
            rw [HTK.out, HKL.out] at h0
            rcases h0.2 with ⟨h1, h2⟩ | ⟨g, cap, cur, h1, _⟩
            · exact ⟨none, 0, by rw [h1, h2]⟩
            · exact ⟨_, cap, h1⟩
          subst hul
          have HIR : Hid (IdRow W2 al ks) := by
            have h0 := HOQ.out
            rw [HTK.out] at h0
            have e : i = ks.length := HKL.out.symm
            rw [e] at h0
            exact idRow_own h0
          obtain ⟨nc, hnc, hnc26, hnc9⟩ := built86' { data := #[122, 122, 115, 101, 108, 102] } 30 (.pointer (some ⟨W2.heap.size, 0, none⟩)) (W2.heap.size + 2)
          have HNC : Hid _ := hnc
          obtain ⟨w4, hw4⟩ : ∃ w4, w4 = (((W2.alloc (.cells #[Value.int .i64 0, Value.int .i64 0, Value.nilIface, Value.string { data := #[] }, Value.int .u64 0, Value.slice none 0 0, Value.slice none 0 0, Value.int .i64 0, Value.nilIface] 42)).alloc (.cells (peerCells (.string { data := #[122, 122, 115, 101, 108, 102] })).toArray 44)).alloc (.cells (stCells W.heap.size).toArray 64)).alloc (.cells nc 86) := ⟨_, rfl⟩
          obtain ⟨hz4, hb4, b0, b1, b2, b3⟩ := four _ _ _ _ _ w4 hw4
          have HB4 : Hid (Below W2.heap.size W2 w4) := hb4
          have HBD : Hid (Bld W W.heap.size k w4 V I) := HBL.out.below (HBQ.out.trans (hb4.mono HBQ.out.size))
          have HSit : Hid (Sit W.heap.size w4 (W2.heap.size + 3) (W2.heap.size + 2) W.heap.size k V I) := ⟨⟨nc, b3, hnc26, hnc9⟩, ⟨_, b2, rfl, rfl⟩, HBD.out.map, HBD.out.own, fun c hc => by have := HBD.out.len c hc; omega, fun c hc x hx => ⟨(HBD.out.ok c hc x hx).kn, (HBD.out.ok c hc x hx).vn⟩⟩
          have HN0 : Hid _ := b0
          clear hb4 b0 b1 b2 b3 hnc hnc26 hnc9
          go_wp2_with (first
            | (refine wpList_build_to rfl 26 #[(0, .const (.int .u8 9))] rfl [(0, .int .u8 9)] (by simp only [List.map_toArray, List.map_cons, List.map_nil]; rfl) (idCells 9).toArray built9 ?_; simp only [Act.put, List.setIfInBounds_toArray, List.set_cons_zero, List.set_cons_succ])
            | (refine gate (some 94) rfl ?_; refine wpList_build_to rfl 44 #[(0, .tmp 93), (1, .const (.string { data := #[122, 122, 115, 101, 108, 102] }))] rfl [(0, .agg (idCells 9).toArray), (1, .string { data := #[122, 122, 115, 101, 108, 102] })] (by simp only [List.map_toArray, List.map_cons, List.map_nil]; rfl) (peerCells (.string { data := #[122, 122, 115, 101, 108, 102] })).toArray (built44 _) ?_; simp only [Act.put, List.setIfInBounds_toArray, List.set_cons_zero, List.set_cons_succ])
            | (refine gate (some 15) rfl ?_; refine wpList_alloc_store rfl rfl 44 15 (.tmp 94) rfl rfl rfl rfl peerZero 21 info44 rfl (peerCells (.string { data := #[122, 122, 115, 101, 108, 102] })).toArray (by simp [len_peer]) (all_oneCell_toArray (one_peer _)) rfl rfl ?_; simp only [Act.put, List.setIfInBounds_toArray, List.set_cons_zero, List.set_cons_succ])
            | (refine gate (some 95) rfl ?_; refine wpList_load_mid rfl 44 (.tmp 15) rfl (W2.alloc (.cells #[Value.int .i64 0, Value.int .i64 0, Value.nilIface, Value.string { data := #[] }, Value.int .u64 0, Value.slice none 0 0, Value.slice none 0 0, Value.int .i64 0, Value.nilIface] 42)).heap.size 0 rfl (peerCells (.string { data := #[122, 122, 115, 101, 108, 102] })) _ (range_new _ _) Yba.underlying44 rfl (by rw [sz44, len_peer]) ?_; simp only [Act.put, List.setIfInBounds_toArray, List.set_cons_zero, List.set_cons_succ])
            | (refine gate (some 99) rfl ?_; refine wpList_build_to rfl 64 #[(2, .tmp 98)] rfl [(2, .map (some W.heap.size))] (by simp only [List.map_toArray, List.map_cons, List.map_nil]; rfl) (stCells W.heap.size).toArray (built64 _) ?_; simp only [Act.put, List.setIfInBounds_toArray, List.set_cons_zero, List.set_cons_succ])
            | (refine gate (some 101) rfl ?_; refine wpList_build_to rfl 86 #[(0, .tmp 95), (2, .tmp 97), (11, .const (.int .u64 7)), (6, .tmp 100)] rfl [(0, .agg (peerCells (.string { data := #[122, 122, 115, 101, 108, 102] })).toArray), (2, .iface 30 (.pointer (some ⟨W2.heap.size, 0, none⟩))), (11, .int .u64 7), (6, .pointer (some ⟨W2.heap.size + 2, 0, none⟩))] (by simp only [List.map_toArray, List.map_cons, List.map_nil]; rfl) nc HNC.out ?_; simp only [Act.put, List.setIfInBounds_toArray, List.set_cons_zero, List.set_cons_succ]))
          rw [← hw4]
          clear hw4 HNC
          refine (bg8 w4).mono ?_
          rintro e w4 ⟨ctx, rfl, rfl⟩
          go_wp2_with (first
            | (refine wpList_build_to rfl 26 #[(0, .const (.int .u8 9))] rfl [(0, .int .u8 9)] (by simp only [List.map_toArray, List.map_cons, List.map_nil]; rfl) (idCells 9).toArray built9 ?_; simp only [Act.put, List.setIfInBounds_toArray, List.set_cons_zero, List.set_cons_succ])
            | (refine gate (some 107) rfl ?_; refine wpList_build_to rfl 44 #[(0, .tmp 106), (1, .const (.string { data := #[101, 108, 115, 101, 119, 104, 101, 114, 101] }))] rfl [(0, .agg (idCells 9).toArray), (1, .string { data := #[101, 108, 115, 101, 119, 104, 101, 114, 101] })] (by simp only [List.map_toArray, List.map_cons, List.map_nil]; rfl) (peerCells (.string { data := #[101, 108, 115, 101, 119, 104, 101, 114, 101] })).toArray (built44 _) ?_; simp only [Act.put, List.setIfInBounds_toArray, List.set_cons_zero, List.set_cons_succ]))
          have hFA := fetchAt9 W.heap.size (W2.heap.size + 3) (W2.heap.size + 2) W.heap.size k V I w4 w4 HSit.out (Below.refl _ _) al capl ks HK8.out (by have := HKL.out; omega) (HIR.out.below HB4.out) ctx (.string { data := #[101, 108, 115, 101, 119, 104, 101, 114, 101] })
          rw [HKL.out] at hFA
          refine hFA.mono ?_
          clear hFA
          rintro e w6 ⟨v6, h, L, rfl, hI6, hP6, hB6⟩
          obtain ⟨a6, cap6, hv6⟩ : ∃ a6 cap6, v6 = .slice a6 L.length cap6 := by obtain ⟨a6, cap6, h0, _⟩ := hI6; exact ⟨a6, cap6, h0⟩
          subst hv6
          have hB67 : Below w6.heap.size w6 (w6.alloc (.cells #[.slice a6 L.length cap6, .int .i64 (h : Nat)] 37)) := (Below.refl _ _).alloc (Nat.le_refl _) _
          have hB7 : Below w4.heap.size w4 (w6.alloc (.cells #[.slice a6 L.length cap6, .int .i64 (h : Nat)] 37)) := hB6.trans (hB67.mono hB6.size)
          have hgt : W2.heap.size < w4.heap.size := (Array.getElem?_eq_some_iff.1 HN0.out).1
          have b7 : (w6.alloc (.cells #[.slice a6 L.length cap6, .int .i64 (h : Nat)] 37)).heap[W2.heap.size]? = _ := (hB7.block _ hgt).trans HN0.out
          have ct0 : (w6.alloc (.cells #[.slice a6 L.length cap6, .int .i64 (h : Nat)] 37)).cell? ⟨W2.heap.size, 0, none⟩ = some (.int .i64 0) := by simp [World.cell?, b7]
          have ct1 : (w6.alloc (.cells #[.slice a6 L.length cap6, .int .i64 (h : Nat)] 37)).cell? ⟨W2.heap.size, 1, none⟩ = some (.int .i64 0) := by simp [World.cell?, b7]
          have b8 : (w6.alloc (.cells #[.slice a6 L.length cap6, .int .i64 (h : Nat)] 37)).heap[w6.heap.size]? = some (.cells #[.slice a6 L.length cap6, .int .i64 (h : Nat)] 37 (0, 0)) := heap_alloc_new _ _
          have HI7 : Hid (ItRow (w6.alloc (.cells #[.slice a6 L.length cap6, .int .i64 (h : Nat)] 37)) (.slice a6 L.length cap6) L) := hI6.below hB67
          have HP6 : Hid (PageOk I ks h L) := hP6
          have HB7 : Hid (Below w4.heap.size w4 (w6.alloc (.cells #[.slice a6 L.length cap6, .int .i64 (h : Nat)] 37))) := hB7
          have HB8 : Hid _ := b8
          have hh : h ≤ i := by have := hP6.1; have := HKL.out; omega
          have HWB : Hid (Below W.heap.size W w4) := HBD.out.bel
          clear hI6 hP6 hB6 hB67 hB7 b7 b8 hgt
          by_cases hi0 : i = 0
          · subst hi0
            obtain rfl : h = 0 := by omega
            have hL0 : L.length = 0 := by rw [HP6.out.2.2.1]; simp [fl]
            have HBX : Hid (Below W.heap.size W (w6.alloc (.cells #[.slice a6 L.length cap6, .int .i64 (0 : Nat)] 37))) := HWB.out.trans (HB7.out.mono HWB.out.size)
            rw [hL0] at ct0 ct1 HBX ⊢
            simp only [Int.ofNat_zero, Int.natCast_zero] at ct0 ct1 HBX ⊢
            go_wp2_with fail
            go_ret
            exact ⟨by simp, HBX.out⟩
          · have hh1 : 1 ≤ h := by
              have := HP6.out.2.2.2
              have := HKL.out
              omega
            have e0 : ¬ ((i : Int) = 0) := by omega
            have e1 : ¬ ((h : Int) < 1) := by omega
            have e2 : ¬ ((i : Int) < (h : Int)) := by omega
            have hdA : decide ((h : Int) < 1) = false := by simp; omega
            have hdB : decide (i < h) = false := by simp; omega
            have hdC : ((i : Int) == 0) = false := by simp; omega
            go_wp2_with fail
            try simp only [hdC]
            clear ct0 ct1 hdA hdB hdC
            obtain ⟨w7, hw7⟩ : ∃ w7, w7 = w6.alloc (.cells #[.slice a6 L.length cap6, .int .i64 (h : Nat)] 37) := ⟨_, rfl⟩
            rw [← hw7] at HI7 HB7 HB8 ⊢
            have HBE : Hid (Bld W W.heap.size k w7 V I) := HBD.out.below HB7.out
            have HIE : Hid (IdRow w7 al ks) := (HIR.out.below HB4.out).below HB7.out
            have HNI : Hid (w7.ownsRow w7.heap.size 34 24 (.slice none 0 0) (fl I (ks.take 0)).length (itsV (fl I (ks.take 0)))) := World.ownsRow_nil _ _ _ _
            have HGA : Hid (w6.heap.size < w7.heap.size) := by rw [hw7]; show _ < _; simp
            obtain ⟨i34, hi34, h34a, h34b, h34c⟩ := info_parts inf34
            clear hw7 HSit HN0 HBD HIR HB4 HB7 HOQ HBQ HBL
            go_loopw [19, 20, 21] (fun v19 v20 v21 wq => ∃ (j : Nat), j ≤ h ∧ v21 = .int .i64 j ∧ v20 = .int .i64 (szs (fl I (ks.take j)) : Nat) ∧ wq.ownsRow w7.heap.size 34 24 v19 (fl I (ks.take j)).length (itsV (fl I (ks.take j))) ∧ Below w7.heap.size w7 wq) (fun _ _ v21 _ => h - (intOf v21).toNat)
            case atStart => exact ⟨0, by omega, rfl, by simp [fl, szs], HNI.out, Below.refl _ _⟩
            case round =>
              obtain ⟨j, hj, rfl, rfl, hown, hbq⟩ := hrel
              have HOQ : Hid (wr.ownsRow w7.heap.size 34 24 u19 (fl I (ks.take j)).length (itsV (fl I (ks.take j)))) := hown
              have HBQ : Hid (Below w7.heap.size w7 wr) := hbq
              have hzq := hbq.size
              have ca1 : wr.cell? ⟨w6.heap.size, 1, none⟩ = some (.int .i64 (h : Nat)) := by rw [hbq.cell HGA.out]; simp [World.cell?, HB8.out]
              clear hown hbq
              by_cases hjl : j < h
              · have hjl' : (j : Int) < (h : Int) := by omega
                obtain ⟨c, hc⟩ : ∃ c, ks[j]? = some c := ⟨ks[j]'(by have := HKL.out; omega), List.getElem?_eq_getElem _⟩
                have hc8 : c < 8 := HK8.out c (List.mem_of_getElem? hc)
                obtain ⟨gl, rfl, hgl, hrd⟩ := (HIE.out.below HBQ.out) j c hc
                have HC : Hid _ := hc
                have HRd : Hid _ := hrd
                have HME : Hid (MapS wr W.heap.size k V) := (HBE.out.below HBQ.out).map
                obtain ⟨av, capv, hV⟩ := HBE.out.form hc8
                obtain ⟨m, hm⟩ : ∃ m, (I c).length = m := ⟨_, rfl⟩
                rw [hm] at hV
                have HV : Hid _ := hV
                have HM : Hid _ := hm
                have hm24 : m ≤ 1024 := by have := HBE.out.len c hc8; omega
                clear hc hrd hgl hV hm
                go_wp2_with (first
                  | (refine gate (some 160) rfl ?_; refine wpList_load_mid rfl 26 (.tmp 159) rfl gl (j * 20) rfl (idCells c) _ HRd.out Yba.underlying26 rfl (by rw [sz26, len_id]) ?_; simp only [Act.put, List.setIfInBounds_toArray, List.set_cons_zero, List.set_cons_succ])
                  | (refine gate (some 161) rfl ?_; refine wpList_lookV rfl (.tmp 156) (.tmp 160) rfl W.heap.size k c V HME.out hc8 (.slice av m capv) HV.out rfl rfl ?_; simp only [Act.put, List.setIfInBounds_toArray, List.set_cons_zero, List.set_cons_succ]))
                clear ca1
                rename World => W3
                obtain ⟨F, hF⟩ : ∃ F, F = fl I (ks.take j) := ⟨_, rfl⟩
                have HF : Hid _ := hF
                rw [← hF] at HOQ ⊢
                clear hF
                have hFl : F.length ≤ 1024 * 1024 := by
                  rw [HF.out]
                  exact Nat.le_trans (len_fl (fun c hc => by have := HBE.out.len c hc; omega) (ks.take j) (fun x hx => HK8.out x (List.mem_of_mem_take hx))) (by rw [List.length_take]; have := HKL.out; omega)
                have hFs : szs F ≤ 1049635 + 99 * 1024 * 1024 := by
                  have := szs_le (L := F) (by
                    rw [HF.out]; intro x hx
                    obtain ⟨q, hq1, hq2⟩ := List.mem_flatMap.1 hx
                    have := HBE.out.ok q (HK8.out q (List.mem_of_mem_take hq1)) x hq2
                    exact ⟨this.kn, this.vn⟩)
                  omega
                go_loopw [19, 20, 163] (fun v19 v20 v163 wq => ∃ (q : Nat), q ≤ m ∧ v163 = .int .i64 q ∧ v20 = .int .i64 (szs F + szs ((I c).take q) : Nat) ∧ wq.ownsRow w7.heap.size 34 24 v19 (F ++ (I c).take q).length (itsV (F ++ (I c).take q)) ∧ Below w7.heap.size w7 wq) (fun _ _ v163 _ => m - (intOf v163).toNat)
                case atStart => exact ⟨0, by omega, rfl, by simp [szs], by simpa using HOQ.out, HBQ.out⟩
                case round =>
                  obtain ⟨q, hq, rfl, rfl, hown, hbq⟩ := hrel
                  have HO4 : Hid (wr.ownsRow w7.heap.size 34 24 u19 (F ++ (I c).take q).length (itsV (F ++ (I c).take q))) := hown
                  have HB4 : Hid (Below w7.heap.size w7 wr) := hbq
                  have hz4 := hbq.size
                  clear hown hbq
                  by_cases hql : q < m
                  · have hql' : (q : Int) < (m : Int) := by omega
                    obtain ⟨x, hx⟩ : ∃ x, (I c)[q]? = some x := ⟨(I c)[q]'(by have := HM.out; omega), List.getElem?_eq_getElem _⟩
                    have hxo := HBE.out.ok c hc8 x (List.mem_of_getElem? hx)
                    have hxk := hxo.kn
                    have hxv := hxo.vn
                    obtain ⟨ax, capx, hax, hrx⟩ := (itRow_own (HBE.out.own c hc8)).below HB4.out
                    rw [HV.out, HM.out] at hax
                    simp only [Value.slice.injEq] at hax
                    obtain ⟨rfl, -, rfl⟩ := hax
                    obtain ⟨g2, rfl, hg2, hrx⟩ := hrx q x hx
                    have HRX : Hid _ := hrx
                    have HX : Hid _ := hx
                    have hsx : szs ((I c).take (q + 1)) = szs ((I c).take q) + x.sz := szs_take_succ hx
                    have hsb : szs ((I c).take (q + 1)) ≤ 99 * 1024 := by
                      refine Nat.le_trans (szs_le (fun y hy => ?_)) (by rw [List.length_take]; omega)
                      have := HBE.out.ok c hc8 y (List.mem_of_mem_take hy)
                      exact ⟨this.kn, this.vn⟩
                    have HLQ : Hid ((F ++ (I c).take q).length + [x].length ≤ 3000000) := by show _ ≤ _; rw [List.length_append, List.length_take]; simp; omega
                    have hOB := own_built (wr.alloc (.cells x.cells.toArray 34)) x
                    have HOB : Hid _ := hOB
                    have hOU := World.ownsRow.alloc (World.ownsRow.alloc HO4.out (.cells x.cells.toArray 34)) (.cells x.cells.toArray 34)
                    have HOU : Hid (((wr.alloc (.cells x.cells.toArray 34)).alloc (.cells x.cells.toArray 34)).ownsRow w7.heap.size 34 24 u19 (F ++ (I c).take q).length (itsV (F ++ (I c).take q))) := hOU
                    clear hrx hx hg2 hxo hOB hOU
                    go_wp2_with (first
                      | (refine gate (some 166) rfl ?_; refine wpList_load_mid rfl 34 (.tmp 165) rfl g2 (q * 24) rfl x.cells _ HRX.out Yba.underlying34 rfl (by rw [sz34]; rfl) ?_; simp only [Act.put, List.setIfInBounds_toArray, List.set_cons_zero, List.set_cons_succ])
                      | (refine gate (some 23) rfl ?_; refine wpList_alloc_store rfl rfl 34 23 (.tmp 166) rfl rfl rfl rfl itZero 24 info34 rfl x.cells.toArray rfl (all_oneCell_toArray x.one) rfl rfl ?_; simp only [Act.put, List.setIfInBounds_toArray, List.set_cons_zero, List.set_cons_succ])
                      | (refine gate (some 168) rfl ?_; refine wpList_load_mid rfl 34 (.tmp 23) rfl wr.heap.size 0 rfl x.cells _ (range_new x.cells 34) Yba.underlying34 rfl (by rw [sz34]; rfl) ?_; simp only [Act.put, List.setIfInBounds_toArray, List.set_cons_zero, List.set_cons_succ])
                      | (refine gate (some 169) rfl ?_; refine wpList_buildSlice_one rfl 35 34 (.tmp 168) rfl i34 itZero 24 Yba.underlying35 hi34 h34a h34b (by decide) (by decide) x.cells rfl rfl ?_; simp only [Act.put, List.setIfInBounds_toArray, List.set_cons_zero, List.set_cons_succ])
                      | (refine gate (some 170) rfl ?_; refine wpList_append_rows _ rfl (.tmp 167) (.tmp 169) rfl w7.heap.size (wr.alloc (.cells x.cells.toArray 34)).heap.size u19 (.slice (some ⟨(wr.alloc (.cells x.cells.toArray 34)).heap.size, 0, none⟩) 1 1) (F ++ (I c).take q) [x] rfl rfl HOU.out HOB.out HLQ.out (by simp; omega) ?_; intro v5 w5 hO5 hG5 hL5; have HO5 : Hid _ := hO5; have HB5 : Hid (Below w7.heap.size w7 w5) := ((HB4.out.alloc hz4 _).alloc (by simp; omega) _).grown hG5 (by simp; omega) (fun p hp => (own_lt HO4.out hp).1); have HR5 : Hid (w5.rangeAt wr.heap.size 0 x.cells) := rangeAt_block (hG5.block wr.heap.size (by simp; omega) (fun e => by have := (own_lt HO4.out e.symm).2.1; omega)) (rangeAt_block (Below.heap_alloc _ _ _ (by simp)) (range_new x.cells 34)); clear hO5 hG5 hL5; simp only [Act.put, List.setIfInBounds_toArray, List.set_cons_zero, List.set_cons_succ])
                      | (refine gate (some 172) rfl ?_; refine wpList_load_mid rfl 34 (.tmp 23) rfl wr.heap.size 0 rfl x.cells _ HR5.out Yba.underlying34 rfl (by rw [sz34]; rfl) ?_; simp only [Act.put, List.setIfInBounds_toArray, List.set_cons_zero, List.set_cons_succ]))
                    refine (itemLen11 x hxk hxv _).mono ?_
                    rintro e w8 ⟨rfl, rfl⟩
                    have hz5 := HB5.out.size
                    have HB6 : Hid (Below w7.heap.size w7 (w5.alloc (.cells x.cells.toArray 34))) := HB5.out.alloc hz5 _
                    have HO6 : Hid ((w5.alloc (.cells x.cells.toArray 34)).ownsRow w7.heap.size 34 24 v5 (F ++ (I c).take (q + 1)).length (itsV (F ++ (I c).take (q + 1)))) := by
                      rw [List.take_add_one, HX.out, Option.toList_some, ← List.append_assoc]; exact World.ownsRow.alloc HO5.out _
                    go_wp2_with fail
                    go_roundw
                    case rel => exact ⟨q + 1, by omega, by simp, by rw [hsx]; simp; omega, HO6.out, HB6.out⟩
                    case measure => simp [intOf]; omega
                  · obtain rfl : q = m := by omega
                    have hti : (I c).take q = I c := List.take_of_length_le (by have := HM.out; omega)
                    have HFF : Hid (F ++ I c = fl I (ks.take (j + 1))) := by rw [HF.out]; exact (fl_take_succ HC.out).symm
                    rw [hti] at HO4 ⊢
                    rw [← szs_append] at *
                    rw [HFF.out] at HO4 ⊢
                    go_wp2_with fail
                    go_roundw
                    case rel => exact ⟨j + 1, by omega, by simp, rfl, HO4.out, HB4.out⟩
                    case measure => simp [intOf]; omega
              · obtain rfl : j = h := by omega
                rename World => W8
                have hP := HP6.out
                have hL : L = fl I (ks.take j) := hP.2.2.1
                have HO8 : Hid (W8.ownsRow w7.heap.size 34 24 u19 L.length (itsV L)) := by rw [hL]; exact HOQ.out
                obtain ⟨a9, cap9, h9⟩ := own_form HO8.out
                subst h9
                obtain ⟨tot, htot⟩ : ∃ tot, szs (fl I (ks.take j)) = tot := ⟨_, rfl⟩
                have ht : tot ≤ 1049635 := by rw [← htot]; exact hP.2.1
                have HT : Hid _ := htot
                rw [htot]
                have HI8 : Hid (ItRow W8 (.slice a6 L.length cap6) L) := HI7.out.below HBQ.out
                have HI9 : Hid (ItRow W8 (.slice a9 L.length cap9) L) := itRow_own HO8.out
                have ca0 : W8.cell? ⟨w6.heap.size, 0, none⟩ = some (.slice a6 L.length cap6) := by rw [HBQ.out.cell HGA.out]; simp [World.cell?, HB8.out]
                have HG8 : Hid (w6.heap.size < W8.heap.size) := Nat.lt_of_lt_of_le HGA.out hzq
                have HC0 : Hid _ := ca0
                have HC1 : Hid _ := ca1
                have HBW : Hid (Below W.heap.size W W8) := HBE.out.bel.trans (HBQ.out.mono HBE.out.bel.size)
                have HB1 : Hid (Bld W W.heap.size k W8 V I) := HBE.out.below HBQ.out
                have HIX : Hid (IdRow W8 al ks) := HIE.out.below HBQ.out
                have hOKL : ∀ x ∈ L, x.Ok W := by
                  rw [hL]; intro x hx
                  obtain ⟨q, hq1, hq2⟩ := List.mem_flatMap.1 hx
                  exact HBE.out.ok q (HK8.out q (List.mem_of_mem_take hq1)) x hq2
                have HOKL : Hid _ := hOKL
                have hmL0 : L.length ≤ 1024 * 1024 := by
                  rw [hL]
                  exact Nat.le_trans (len_fl (fun c hc => by have := HBE.out.len c hc; omega) (ks.take j) (fun x hx => HK8.out x (List.mem_of_mem_take hx))) (by rw [List.length_take]; have := HKL.out; omega)
                obtain ⟨nL, hnL⟩ : ∃ nL, L.length = nL := ⟨_, rfl⟩
                have HNL : Hid _ := hnL
                rw [hnL] at ca0 HI8 HI9 HC0 hmL0 ⊢
                have et : ¬ (1049635 : Int) < (tot : Int) := by omega
                clear hP hL htot HOQ HBQ HO8 hOKL hnL HI7 HB8 HNI HIE HBE HGA hzq
                go_wp2_with fail
                clear ca0 ca1
                go_loopw [215] (fun v215 wq => ∃ (q : Nat), q ≤ nL ∧ v215 = .int .i64 q ∧ Below W8.heap.size W8 wq) (fun v215 _ => nL - (intOf v215).toNat)
                case atStart => exact ⟨0, by omega, rfl, Below.refl _ _⟩
                case round =>
                  obtain ⟨q, hq, rfl, hbq⟩ := hrel
                  have HBQ : Hid (Below W8.heap.size W8 wr) := hbq
                  have hzq := hbq.size
                  clear hbq
                  by_cases hql : q < nL
                  · have hql' : (q : Int) < (nL : Int) := by omega
                    obtain ⟨x, hx⟩ : ∃ x, L[q]? = some x := ⟨L[q]'(by have := HNL.out; omega), List.getElem?_eq_getElem _⟩
                    have HXO : Hid (x.Ok W) := HOKL.out x (List.mem_of_getElem? hx)
                    obtain ⟨ax, capx, hax, hrx⟩ := (HI8.out : ItRow _ _ _).below HBQ.out
                    rw [HNL.out] at hax
                    simp only [Value.slice.injEq] at hax
                    obtain ⟨rfl, -, rfl⟩ := hax
                    obtain ⟨g6, rfl, hg6, hr6⟩ := hrx q x hx
                    obtain ⟨ay, capy, hay, hry⟩ := (HI9.out : ItRow _ _ _).below HBQ.out
                    rw [HNL.out] at hay
                    simp only [Value.slice.injEq] at hay
                    obtain ⟨rfl, -, rfl⟩ := hay
                    obtain ⟨g9, rfl, hg9, hr9⟩ := hry q x hx
                    have HBX : Hid (Below W.heap.size W wr) := HBW.out.trans (HBQ.out.mono HBW.out.size)
                    have SA : Hid (S51 W w6.heap.size g6 g9 q nL cap6 x wr.drew) := ⟨by
                      have h0 : wr.cell? ⟨w6.heap.size, 0, none⟩ = _ := HBQ.out.cell HG8.out
                      exact h0.trans HC0.out, hr6, hr9, HBX.out.drew⟩
                    have HG6 : Hid _ := hg6
                    have HG9 : Hid _ := hg9
                    clear hx hrx hry hr6 hr9 hg6 hg9
                    go_wp2_with fail
                    refine wp_region_noPanic ?_
                    refine wp_region_held_drew (S := S51 W w6.heap.size g6 g9 q nL cap6 x) (by kernel_rfl) SA.out (fun _ => ?_)
                    refine wpAnyH_take (i := 0) (oi := { dst := some 218, op := _, type := _, pos := _, after := _, guard := _ }) (v := .pointer (some ⟨w6.heap.size, 0, none⟩)) rfl (by kernel_rfl) (by kernel_rfl) (by kernel_rfl) (fun _ _ _ h => h) (Or.inl ⟨by rfl, fun W hW => by clear hW; go_simp⟩) SA.out ?_
                    simp only [Act.put, List.setIfInBounds_toArray, List.set_cons_zero, List.set_cons_succ]
                    refine wpAnyH_take (i := 1) (oi := { dst := some 219, op := _, type := _, pos := _, after := _, guard := _ }) (v := .slice (some ⟨g6, 0, none⟩) nL cap6) rfl (by kernel_rfl) (by kernel_rfl) (by kernel_rfl) (fun _ _ _ h => h) (Or.inl ⟨by rfl, fun W hW => by have hd := hW.1; clear hW; go_simp⟩) SA.out ?_
                    simp only [Act.put, List.setIfInBounds_toArray, List.set_cons_zero, List.set_cons_succ]
                    refine wpAnyH_take (i := 2) (oi := { dst := some 220, op := _, type := _, pos := _, after := _, guard := _ }) (v := .int .i64 (q : Nat)) rfl (by kernel_rfl) (by kernel_rfl) (by kernel_rfl) (fun _ _ _ h => h) (Or.inl ⟨by rfl, fun W hW => by clear hW; go_simp⟩) SA.out ?_
                    simp only [Act.put, List.setIfInBounds_toArray, List.set_cons_zero, List.set_cons_succ]
                    refine wpAnyH_take (i := 3) (oi := { dst := some 221, op := _, type := _, pos := _, after := _, guard := _ }) (v := .pointer (some ⟨g6, q * 24, none⟩)) rfl (by kernel_rfl) (by kernel_rfl) (by kernel_rfl) (fun _ _ _ h => h) (Or.inl ⟨by rfl, fun W hW => by clear hW; go_simp⟩) SA.out ?_
                    simp only [Act.put, List.setIfInBounds_toArray, List.set_cons_zero, List.set_cons_succ]
                    refine wpAnyH_take (i := 4) (oi := { dst := some 222, op := _, type := _, pos := _, after := _, guard := _ }) (v := .agg x.cells.toArray) rfl (by kernel_rfl) (by kernel_rfl) (by kernel_rfl) (fun _ _ _ h => h) (yieldsIf_load_mid (by rfl) 34 (.tmp 221) rfl g6 (q * 24) rfl _ _ (fun W hW => hW.2.1) Yba.underlying34 rfl (by rw [sz34]; rfl)) SA.out ?_
                    simp only [Act.put, List.setIfInBounds_toArray, List.set_cons_zero, List.set_cons_succ]
                    refine wpAnyH_take (i := 5) (oi := { dst := some 223, op := _, type := _, pos := _, after := _, guard := _ }) (v := .slice (some ⟨g9, 0, none⟩) nL cap9) rfl (by kernel_rfl) (by kernel_rfl) (by kernel_rfl) (fun _ _ _ h => h) (Or.inl ⟨by rfl, fun W hW => by clear hW; go_simp⟩) SA.out ?_
                    simp only [Act.put, List.setIfInBounds_toArray, List.set_cons_zero, List.set_cons_succ]
                    refine wpAnyH_take (i := 6) (oi := { dst := some 224, op := _, type := _, pos := _, after := _, guard := _ }) (v := .int .i64 (q : Nat)) rfl (by kernel_rfl) (by kernel_rfl) (by kernel_rfl) (fun _ _ _ h => h) (Or.inl ⟨by rfl, fun W hW => by clear hW; go_simp⟩) SA.out ?_
                    simp only [Act.put, List.setIfInBounds_toArray, List.set_cons_zero, List.set_cons_succ]
                    refine wpAnyH_take (i := 7) (oi := { dst := some 225, op := _, type := _, pos := _, after := _, guard := _ }) (v := .pointer (some ⟨g9, q * 24, none⟩)) rfl (by kernel_rfl) (by kernel_rfl) (by kernel_rfl) (fun _ _ _ h => h) (Or.inl ⟨by rfl, fun W hW => by clear hW; go_simp⟩) SA.out ?_
                    simp only [Act.put, List.setIfInBounds_toArray, List.set_cons_zero, List.set_cons_succ]
                    refine wpAnyH_take (i := 8) (oi := { dst := some 226, op := _, type := _, pos := _, after := _, guard := _ }) (v := .agg x.cells.toArray) rfl (by kernel_rfl) (by kernel_rfl) (by kernel_rfl) (fun _ _ _ h => h) (yieldsIf_load_mid (by rfl) 34 (.tmp 225) rfl g9 (q * 24) rfl _ _ (fun W hW => hW.2.2.1) Yba.underlying34 rfl (by rw [sz34]; rfl)) SA.out ?_
                    simp only [Act.put, List.setIfInBounds_toArray, List.set_cons_zero, List.set_cons_succ]
                    refine wpAnyH_ready (rs := [9]) (by kernel_rfl) (by simp) ?_
                    refine AllReadyH.cons rfl (fun K hK => ?_) AllReadyH.nil
                    rw [if_pos (by rfl)]
                    go_simp
                    refine (eq12 x W HXO.out wr.drew HBX.out.drew).mono ?_
                    rintro e w3 ⟨rfl, rfl⟩
                    have hB3 : Below wr.heap.size wr ((wr.drew.alloc (.cells x.cells.toArray 34)).alloc (.cells x.cells.toArray 34)) := (((Below.refl _ wr).drew).alloc (Nat.le_refl _) _).alloc (by simp) _
                    have SB : Hid (S51 W w6.heap.size g6 g9 q nL cap6 x ((wr.drew.alloc (.cells x.cells.toArray 34)).alloc (.cells x.cells.toArray 34))) := by
                      have hB4 : Below wr.drew.heap.size wr.drew ((wr.drew.alloc (.cells x.cells.toArray 34)).alloc (.cells x.cells.toArray 34)) := ((Below.refl _ _).alloc (Nat.le_refl _) _).alloc (by simp) _
                      have SA := SA.out
                      exact ⟨(hB4.cell (Nat.lt_of_lt_of_le HG8.out hzq)).trans SA.1, rangeAt_block (hB4.block _ HG6.out) SA.2.1, rangeAt_block (hB4.block _ HG9.out) SA.2.2.1, HBX.out.trans (hB3.mono HBX.out.size)⟩
                    refine hK.out _ _ SB.out (fun _ => ?_)
                    clear hK K
                    have HBN : Hid (Below W8.heap.size W8 ((wr.drew.alloc (.cells x.cells.toArray 34)).alloc (.cells x.cells.toArray 34))) := HBQ.out.trans (hB3.mono hzq)
                    clear hB3
                    refine wpAnyH_take (i := 10) (oi := { dst := some 228, op := _, type := _, pos := _, after := _, guard := _ }) (v := .bool false) rfl (by kernel_rfl) (by kernel_rfl) (by kernel_rfl) (fun _ _ _ h => h) (Or.inl ⟨by rfl, fun W hW => by clear hW; go_simp⟩) SB.out ?_
                    simp only [Act.put, List.setIfInBounds_toArray, List.set_cons_zero, List.set_cons_succ]
                    refine wpAnyH_done (by kernel_rfl) ?_ _
                    refine NoPanic.normal ?_
                    go_wp2_with fail
                    go_roundw
                    case rel => exact ⟨q + 1, by omega, by simp, HBN.out⟩
                    case measure => simp [intOf]; omega
                  · obtain rfl : q = nL := by omega
                    have ca1 : wr.cell? ⟨w6.heap.size, 1, none⟩ = some (.int .i64 (j : Nat)) := by rw [HBQ.out.cell HG8.out]; exact HC1.out
                    have HBX : Hid (Below W.heap.size W wr) := HBW.out.trans (HBQ.out.mono HBW.out.size)
                    by_cases hji : j < i
                    · have hji' : (j : Int) < (i : Int) := by omega
                      obtain ⟨c, hc, hbig⟩ : ∃ c, ks[j]? = some c ∧ 1049635 < tot + szs (I c) := by
                        have h0 := HP6.out.2.2.2
                        rw [HT.out] at h0
                        rcases h0 with h0 | ⟨_, h0⟩
                        · have := HKL.out; omega
                        · exact h0
                      have hc8 : c < 8 := HK8.out c (List.mem_of_getElem? hc)
                      obtain ⟨gl, rfl, hgl, hrd⟩ := (HIX.out.below HBQ.out) j c hc
                      have HRd : Hid _ := hrd
                      have HME : Hid (MapS wr W.heap.size k V) := (HB1.out.below HBQ.out).map
                      obtain ⟨av, capv, hV⟩ := HB1.out.form hc8
                      obtain ⟨m, hm⟩ : ∃ m, (I c).length = m := ⟨_, rfl⟩
                      rw [hm] at hV
                      have HV : Hid _ := hV
                      have HM : Hid _ := hm
                      have hm24 : m ≤ 1024 := by have := HB1.out.len c hc8; omega
                      have HBG : Hid _ := hbig
                      clear hc hrd hgl hV hm hbig
                      go_wp2_with (first
                        | (refine gate (some 241) rfl ?_; refine wpList_load_mid rfl 26 (.tmp 240) rfl gl (j * 20) rfl (idCells c) _ HRd.out Yba.underlying26 rfl (by rw [sz26, len_id]) ?_; simp only [Act.put, List.setIfInBounds_toArray, List.set_cons_zero, List.set_cons_succ])
                        | (refine gate (some 242) rfl ?_; refine wpList_lookV rfl (.tmp 236) (.tmp 241) rfl W.heap.size k c V HME.out hc8 (.slice av m capv) HV.out rfl rfl ?_; simp only [Act.put, List.setIfInBounds_toArray, List.set_cons_zero, List.set_cons_succ]))
                      clear ca1
                      rename World => W9
                      go_loopw [26, 244] (fun v26 v244 wq => ∃ (p : Nat), p ≤ m ∧ v244 = .int .i64 p ∧ v26 = .int .i64 (tot + szs ((I c).take p) : Nat) ∧ Below W9.heap.size W9 wq) (fun _ v244 _ => m - (intOf v244).toNat)
                      case atStart => exact ⟨0, by omega, rfl, by simp [szs], Below.refl _ _⟩
                      case round =>
                        obtain ⟨p, hp, rfl, rfl, hbp⟩ := hrel
                        have HBP : Hid (Below W9.heap.size W9 wr) := hbp
                        have hzp := hbp.size
                        clear hbp
                        have hsb : ∀ p, szs ((I c).take p) ≤ 99 * 1024 := fun p => by
                          refine Nat.le_trans (szs_le (fun y hy => ?_)) (Nat.le_trans (Nat.mul_le_mul_left _ (List.length_take_le' _ _)) (by have := HM.out; omega))
                          have := HB1.out.ok c hc8 y (List.mem_of_mem_take hy)
                          exact ⟨this.kn, this.vn⟩
                        have hsb0 := hsb p
                        have hsb1 := hsb (p + 1)
                        clear hsb
                        by_cases hpl : p < m
                        · have hpl' : (p : Int) < (m : Int) := by omega
                          obtain ⟨x, hx⟩ : ∃ x, (I c)[p]? = some x := ⟨(I c)[p]'(by have := HM.out; omega), List.getElem?_eq_getElem _⟩
                          have hxo := HB1.out.ok c hc8 x (List.mem_of_getElem? hx)
                          have hxk := hxo.kn
                          have hxv := hxo.vn
                          obtain ⟨ax, capx, hax, hrx⟩ := ((itRow_own (HB1.out.own c hc8)).below HBQ.out).below HBP.out
                          rw [HV.out, HM.out] at hax
                          simp only [Value.slice.injEq] at hax
                          obtain ⟨rfl, -, rfl⟩ := hax
                          obtain ⟨g2, rfl, hg2, hrx⟩ := hrx p x hx
                          have HRX : Hid _ := hrx
                          have hsx : szs ((I c).take (p + 1)) = szs ((I c).take p) + x.sz := szs_take_succ hx
                          clear hrx hx hg2 hxo
                          go_wp2_with (first
                            | (refine gate (some 247) rfl ?_; refine wpList_load_mid rfl 34 (.tmp 246) rfl g2 (p * 24) rfl x.cells _ HRX.out Yba.underlying34 rfl (by rw [sz34]; rfl) ?_; simp only [Act.put, List.setIfInBounds_toArray, List.set_cons_zero, List.set_cons_succ])
                            | (refine gate (some 28) rfl ?_; refine wpList_alloc_store rfl rfl 34 28 (.tmp 247) rfl rfl rfl rfl itZero 24 info34 rfl x.cells.toArray rfl (all_oneCell_toArray x.one) rfl rfl ?_; simp only [Act.put, List.setIfInBounds_toArray, List.set_cons_zero, List.set_cons_succ])
                            | (refine gate (some 249) rfl ?_; refine wpList_load_mid rfl 34 (.tmp 28) rfl wr.heap.size 0 rfl x.cells _ (range_new x.cells 34) Yba.underlying34 rfl (by rw [sz34]; rfl) ?_; simp only [Act.put, List.setIfInBounds_toArray, List.set_cons_zero, List.set_cons_succ]))
                          refine (itemLen11 x hxk hxv _).mono ?_
                          rintro e w8 ⟨rfl, rfl⟩
                          have HB6 : Hid (Below W9.heap.size W9 ((wr.alloc (.cells x.cells.toArray 34)).alloc (.cells x.cells.toArray 34))) := (HBP.out.alloc hzp _).alloc (by simp; omega) _
                          go_wp2_with fail
                          go_roundw
                          case rel => exact ⟨p + 1, by omega, by simp, by rw [hsx]; simp; omega, HB6.out⟩
                          case measure => simp [intOf]; omega
                        · obtain rfl : p = m := by omega
                          have hti : (I c).take p = I c := List.take_of_length_le (by have := HM.out; omega)
                          rw [hti] at hsb0 ⊢
                          have hfin : (1049635 : Int) < (tot : Int) + (szs (I c) : Int) := by have := HBG.out; omega
                          have HBY : Hid (Below W.heap.size W wr) := HBX.out.trans (HBP.out.mono HBX.out.size)
                          go_wp2_with fail
                          go_ret
                          exact ⟨by simp, HBY.out⟩
                    · have hji' : ¬ (j : Int) < (i : Int) := by omega
                      go_wp2_with fail
                      go_ret
                      exact ⟨by simp, HBX.out⟩
end Go.Proofs.Ybulkdfdc
