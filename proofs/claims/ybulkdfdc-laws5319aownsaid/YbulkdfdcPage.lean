import Derived.Test.YbulkdfdcItemsB
import Derived.Test.YbulkdfdcAppR
namespace Go.Proofs.Ybulkdfdc
open Go.ChangeShapes Go.WideShapes Go.ChangeAt Go.RowKit
set_option linter.unusedVariables false
set_option linter.unusedSimpArgs false

def S5 (gn gs ib c : Nat) (W : World) : Prop := W.cell? ⟨gn, 26, none⟩ = some (.pointer (some ⟨gs, 0, none⟩)) ∧ W.rangeAt ib 0 (idCells c)

set_option maxHeartbeats 4000000 in
set_option maxRecDepth 20000 in
theorem page29 (B gn gs gm N : Nat) (V : Nat → Value) (I : Nat → List It) (W w : World) (hS : Sit B W gn gs gm N V I) (hB : Below W.heap.size W w) (a : Option Addr) (cap : Nat) (ks : List Nat) (hks : ∀ k ∈ ks, k < 8) (hn : ks.length ≤ 1024) (hid : IdRow w a ks) :
    Calls Yba.prog 29 #[.pointer (some ⟨gn, 0, none⟩), .slice a ks.length cap, .int .i64 1049635, .func (.func 11) #[] #[]] w fun e w' => ∃ v' h L, e = .returned (.tuple #[v', .int .i64 (h : Nat)]) ∧ ItRow w' v' L ∧ PageOk I ks h L ∧ Below w.heap.size w w' := by
  obtain ⟨n, hne⟩ : ∃ n, ks.length = n := ⟨_, rfl⟩
  rw [hne] at hn ⊢
  have HS : Hid _ := hS.kept hB
  have HK : Hid _ := hks
  have HID : Hid (IdRow w a ks) := hid
  have HNE : Hid _ := hne
  have HNIL : Hid (w.ownsRow w.heap.size 34 24 (.slice none 0 0) (fl I (ks.take 0)).length (itsV (fl I (ks.take 0)))) := World.ownsRow_nil w w.heap.size 34 24
  clear hS hB hks hid hne
  obtain ⟨i26, hi26, h26a, h26b, _⟩ := info_parts inf26
  go_enter Yba.func29, Yba.ntmps29
  go_wp2_with fail
  go_loopw [8, 9, 10, 19] (fun v8 h t i wr => ∃ (k : Nat), k ≤ n ∧ i = .int .i64 k ∧ h = .int .i64 k ∧ t = .int .i64 (szs (fl I (ks.take k)) : Nat) ∧ szs (fl I (ks.take k)) ≤ 1049635 ∧ wr.ownsRow w.heap.size 34 24 v8 (fl I (ks.take k)).length (itsV (fl I (ks.take k))) ∧ Below w.heap.size w wr) (fun _ _ _ i _ => n - (intOf i).toNat)
  case atStart => exact ⟨0, by omega, rfl, rfl, by simp [fl, szs], by simp [fl, szs], HNIL.out, Below.refl _ _⟩
  case round =>
    obtain ⟨k, hk, rfl, rfl, rfl, hle, hown, hbel⟩ := hrel
    have HBL : Hid _ := hbel
    have HOW : Hid _ := hown
    have hsz := hbel.size
    clear hbel hown
    by_cases hlt : k < n
    · have hlt' : (k : Int) < (n : Int) := by omega
      obtain ⟨c, hc⟩ : ∃ c, ks[k]? = some c := ⟨ks[k]'(by have := HNE.out; omega), List.getElem?_eq_getElem _⟩
      have hc8 : c < 8 := HK.out c (List.mem_of_getElem? hc)
      obtain ⟨g, rfl, hg, hrd⟩ := (HID.out.below HBL.out) k c hc
      have HC : Hid _ := hc
      have HRd : Hid _ := hrd
      have HSW : Hid _ := HS.out.kept HBL.out
      have HGL : Hid _ := hg
      clear hc hrd hg
      have SA : Hid (S5 gn gs wr.heap.size c (wr.alloc (.cells (idCells c).toArray 26)).drew) := by
        obtain ⟨nc, n1, n2, _⟩ := HSW.out.node
        refine ⟨?_, range_new _ _⟩
        have : (wr.alloc (.cells (idCells c).toArray 26)).cell? ⟨gn, 26, none⟩ = some (.pointer (some ⟨gs, 0, none⟩)) := by rw [World.cell?_alloc_past _ _ _ (Array.getElem?_eq_some_iff.1 n1).1]; simp [World.cell?, n1, n2]
        exact this
      go_wp2_with (first
        | (refine wpList_load_mid rfl 26 (.tmp 21) rfl g (k * 20) rfl (idCells c) _ HRd.out Yba.underlying26 rfl (by rw [sz26, len_id]) ?_)
        | (refine wpList_alloc_store rfl rfl 26 12 (.tmp 22) rfl rfl rfl rfl idZero 20 info26 rfl (idCells c).toArray (by simp [len_id]) (all_oneCell_toArray (one_id c)) rfl rfl ?_; simp only [Act.put, List.setIfInBounds_toArray, List.set_cons_zero, List.set_cons_succ]))
      refine wp_region_noPanic ?_
      refine wp_region_held_drew (S := S5 gn gs wr.heap.size c) (by kernel_rfl) SA.out (fun _ => ?_)
      refine wpAnyH_take (i := 0) (oi := { dst := some 23, op := _, type := _, pos := _, after := _, guard := _ }) (v := .pointer (some ⟨gn, 0, none⟩)) rfl (by kernel_rfl) (by kernel_rfl) (by kernel_rfl) (fun _ _ _ h => h) (Or.inl ⟨by rfl, fun W hW => by clear hW; go_simp⟩) SA.out ?_
      simp only [Act.put, List.setIfInBounds_toArray, List.set_cons_zero, List.set_cons_succ]
      refine wpAnyH_take (i := 1) (oi := { dst := some 24, op := _, type := _, pos := _, after := _, guard := _ }) (v := .pointer (some ⟨gn, 0, none⟩)) rfl (by kernel_rfl) (by kernel_rfl) (by kernel_rfl) (fun _ _ _ h => h) (Or.inl ⟨by rfl, fun W hW => by clear hW; go_simp⟩) SA.out ?_
      simp only [Act.put, List.setIfInBounds_toArray, List.set_cons_zero, List.set_cons_succ]
      refine wpAnyH_take (i := 2) (oi := { dst := some 25, op := _, type := _, pos := _, after := _, guard := _ }) (v := .pointer (some ⟨gn, 26, none⟩)) rfl (by kernel_rfl) (by kernel_rfl) (by kernel_rfl) (fun _ _ _ h => h) (Or.inl ⟨by rfl, fun W hW => by clear hW; go_simp⟩) SA.out ?_
      simp only [Act.put, List.setIfInBounds_toArray, List.set_cons_zero, List.set_cons_succ]
      refine wpAnyH_take (i := 3) (oi := { dst := some 26, op := _, type := _, pos := _, after := _, guard := _ }) (v := .pointer (some ⟨gs, 0, none⟩)) rfl (by kernel_rfl) (by kernel_rfl) (by kernel_rfl) (fun _ _ _ h => h) (Or.inl ⟨by rfl, fun W hW => by have hd := hW.1; clear hW; go_simp⟩) SA.out ?_
      simp only [Act.put, List.setIfInBounds_toArray, List.set_cons_zero, List.set_cons_succ]
      refine wpAnyH_take (i := 4) (oi := { dst := some 27, op := _, type := _, pos := _, after := _, guard := _ }) (v := .agg (idCells c).toArray) rfl (by kernel_rfl) (by kernel_rfl) (by kernel_rfl) (fun _ _ _ h => h) (yieldsIf_load_mid (by rfl) 26 (.tmp 12) rfl wr.heap.size 0 rfl _ _ (fun W hW => hW.2) Yba.underlying26 rfl (by rw [sz26, len_id])) SA.out ?_
      simp only [Act.put, List.setIfInBounds_toArray, List.set_cons_zero, List.set_cons_succ]
      refine wpAnyH_ready (rs := [5]) (by kernel_rfl) (by simp) ?_
      refine AllReadyH.cons rfl (fun K hK => ?_) AllReadyH.nil
      refine step_buildSlice_one rfl 24 26 (.tmp 27) rfl i26 idZero 20 Yba.underlying24 hi26 h26a h26b (by decide) (by decide) (idCells c) (len_id c) rfl ?_
      have hbB : Below wr.heap.size wr (((wr.alloc (.cells (idCells c).toArray 26)).drew).alloc (.cells (idCells c).toArray 26)) := ((Below.refl _ wr).alloc (Nat.le_refl _) _).drew.alloc (by simp) _
      have SB : Hid (S5 gn gs wr.heap.size c (((wr.alloc (.cells (idCells c).toArray 26)).drew).alloc (.cells (idCells c).toArray 26))) := by
        have hb : Below (wr.alloc (.cells (idCells c).toArray 26)).drew.heap.size (wr.alloc (.cells (idCells c).toArray 26)).drew (((wr.alloc (.cells (idCells c).toArray 26)).drew).alloc (.cells (idCells c).toArray 26)) := (Below.refl _ _).alloc (Nat.le_refl _) _
        obtain ⟨nc, n1, n2, _⟩ := HSW.out.node
        have := (Array.getElem?_eq_some_iff.1 n1).1
        refine ⟨?_, rangeAt_block (hb.block _ (by simp)) SA.out.2⟩
        rw [hb.cell (by simp; omega)]; exact SA.out.1
      have HBB : Hid (Below wr.heap.size wr ((wr.alloc (.cells (idCells c).toArray 26)).alloc (.cells (idCells c).toArray 26)).drew) := (((Below.refl _ wr).alloc (Nat.le_refl _) _).alloc (by simp) _).drew
      have HR2 : Hid (((wr.alloc (.cells (idCells c).toArray 26)).alloc (.cells (idCells c).toArray 26)).drew.rangeAt (wr.heap.size + 1) 0 (idCells c)) := by
        have h0 := range_new (w := wr.alloc (.cells (idCells c).toArray 26)) (idCells c) 26
        have e : (wr.alloc (.cells (idCells c).toArray 26)).heap.size = wr.heap.size + 1 := by simp
        rw [e] at h0
        exact h0
      have hgs : gs < wr.heap.size := by obtain ⟨sc, s1, _⟩ := HSW.out.st; exact (Array.getElem?_eq_some_iff.1 s1).1
      have HGS : Hid _ := hgs
      clear hbB hgs
      refine hK.out _ _ SB.out (fun _ => ?_)
      simp only [Act.put, List.setIfInBounds_toArray, List.set_cons_zero, List.set_cons_succ]
      clear hK K
      refine wpAnyH_ready (rs := [6]) (by kernel_rfl) (by simp) ?_
      refine AllReadyH.cons rfl (fun K hK => ?_) AllReadyH.nil
      rw [if_pos (by rfl)]
      go_simp
      refine (itemsOf33 B gn gs gm N c (wr.heap.size + 1) 0 V I wr _ HSW.out HBB.out hc8 HR2.out (by have := HGS.out; omega) (by simp)).mono ?_
      rintro e w2 ⟨v2, rfl, hO2, hB2⟩
      have hB3 : Below wr.heap.size wr w2 := HBB.out.trans (hB2.mono (by simp; omega))
      have SC : Hid (S5 gn gs wr.heap.size c w2) := by
        obtain ⟨nc, n1, n2, _⟩ := HSW.out.node
        have := (Array.getElem?_eq_some_iff.1 n1).1
        refine ⟨?_, rangeAt_block (hB2.block _ (by simp; omega)) SB.out.2⟩
        rw [hB2.cell (by simp; omega)]; exact SB.out.1
      have HO2 : Hid (w2.ownsRow wr.heap.size 34 24 v2 (I c).length (itsV (I c))) := own_mono hO2 (by simp; omega)
      have HB3 : Hid _ := hB3
      have HOW2 : Hid (w2.ownsRow w.heap.size 34 24 u8 (fl I (ks.take k)).length (itsV (fl I (ks.take k)))) := World.ownsRow.kept HOW.out (below_grown hB3) (by cases u8.ownBlock <;> simp)
      obtain ⟨a2, cap2, rfl, hr2⟩ := itRow_own hO2
      have HR3 : Hid (ItRow w2 (.slice a2 (I c).length cap2) (I c)) := ⟨a2, cap2, rfl, hr2⟩
      have hIL := HS.out.len c hc8
      have hsz3 := hB3.size
      obtain ⟨m, hm⟩ : ∃ m, (I c).length = m := ⟨_, rfl⟩
      have HM : Hid _ := hm
      rw [hm] at hIL HR3 HO2 ⊢
      clear hB3 hO2 hB2 hr2 hm
      refine hK.out _ _ SC.out (fun _ => ?_)
      clear hK K
      refine wpAnyH_take (i := 7) (oi := { dst := some 13, op := _, type := _, pos := _, after := _, guard := _ }) (v := .slice a2 m cap2) rfl (by kernel_rfl) (by kernel_rfl) (by kernel_rfl) (fun _ _ _ h => h) (Or.inl ⟨by rfl, fun W hW => by clear hW; go_simp⟩) SC.out ?_
      simp only [Act.put, List.setIfInBounds_toArray, List.set_cons_zero, List.set_cons_succ]
      refine wpAnyH_done (by kernel_rfl) ?_ _
      refine NoPanic.normal ?_
      go_wp2_with fail
      obtain ⟨tot, htot⟩ : ∃ tot, szs (fl I (ks.take k)) = tot := ⟨_, rfl⟩
      have HT : Hid _ := htot
      rw [htot] at hle ⊢
      clear htot
      have HBW : Hid (Below w.heap.size w w2) := HBL.out.trans (HB3.out.mono hsz)
      have HO3 : Hid (w2.ownsRow w.heap.size 34 24 (.slice a2 m cap2) (I c).length (itsV (I c))) := by rw [HM.out]; exact own_mono HO2.out hsz
      have hsm := HS.out.small c hc8
      have HSM : Hid _ := hsm
      have hszs : szs (I c) ≤ 99 * m := by rw [← HM.out]; exact szs_le hsm
      have hszt : ∀ i, szs ((I c).take i) ≤ 99 * m := fun i => Nat.le_trans (szs_le (fun x hx => hsm x (List.mem_of_mem_take hx))) (by rw [List.length_take, HM.out]; omega)
      clear HB3 HO2 hsm SA SB SC HBB HR2 HRd
      rename World => W2
      go_loopw [14, 33] (fun gr j wq => ∃ (i : Nat), i ≤ m ∧ j = .int .i64 i ∧ gr = .int .i64 (tot + szs ((I c).take i) : Nat) ∧ Below W2.heap.size W2 wq) (fun _ j _ => m - (intOf j).toNat)
      case atStart => exact ⟨0, by omega, rfl, by simp [szs], Below.refl _ _⟩
      case round =>
        obtain ⟨i, hi, rfl, rfl, hbq⟩ := hrel
        have HBQ : Hid (Below W2.heap.size W2 wr) := hbq
        have hszq := hbq.size
        have hst := hszt i
        clear hbq
        by_cases hil : i < m
        · have hil' : (i : Int) < (m : Int) := by omega
          obtain ⟨x, hx⟩ : ∃ x, (I c)[i]? = some x := ⟨(I c)[i]'(by have := HM.out; omega), List.getElem?_eq_getElem _⟩
          obtain ⟨ax, capx, hax, hrx⟩ := (HR3.out : ItRow _ _ _).below HBQ.out
          simp only [Value.slice.injEq] at hax
          obtain ⟨rfl, -, rfl⟩ := hax
          obtain ⟨g2, rfl, hg2, hrx⟩ := hrx i x hx
          have HRX : Hid _ := hrx
          have HX : Hid _ := hx
          have hxs := HSM.out x (List.mem_of_getElem? hx)
          have hnx := hszt (i + 1)
          have hsx : szs ((I c).take (i + 1)) = szs ((I c).take i) + x.sz := szs_take_succ hx
          clear hrx hx hg2
          go_wp2_with (first
            | (refine wpList_load_mid rfl 34 (.tmp 35) rfl g2 (i * 24) rfl x.cells _ HRX.out Yba.underlying34 rfl (by rw [sz34]; rfl) ?_)
            | (refine wpList_alloc_store rfl rfl 34 16 (.tmp 36) rfl rfl rfl rfl itZero 24 info34 rfl x.cells.toArray rfl (all_oneCell_toArray x.one) rfl rfl ?_; simp only [Act.put, List.setIfInBounds_toArray, List.set_cons_zero, List.set_cons_succ])
            | (refine wpList_load_mid rfl 34 (.tmp 16) rfl wr.heap.size 0 rfl x.cells _ (range_new x.cells 34) Yba.underlying34 rfl (by rw [sz34]; rfl) ?_))
          refine (itemLen11 x hxs.1 hxs.2 _).mono ?_
          rintro e w4 ⟨rfl, rfl⟩
          have HB4 : Hid (Below W2.heap.size W2 ((wr.alloc (.cells x.cells.toArray 34)).alloc (.cells x.cells.toArray 34))) := (HBQ.out.alloc hszq _).alloc (by simp; omega) _
          go_wp2_with fail
          go_roundw
          case rel => exact ⟨i + 1, by omega, by simp, by rw [hsx]; simp; omega, HB4.out⟩
          case measure => simp [intOf]; omega
        · obtain rfl : i = m := by omega
          have hti : (I c).take i = I c := List.take_of_length_le (by have := HM.out; omega)
          rw [hti] at hst ⊢
          obtain ⟨z, hz⟩ : ∃ z, szs (I c) = z := ⟨_, rfl⟩
          have HZ : Hid _ := hz
          rw [hz] at hst ⊢
          have hLF := len_fl HS.out.len (ks.take k) (fun x hx => HK.out x (List.mem_of_mem_take hx))
          have hLT : (ks.take k).length ≤ 1024 := by rw [List.length_take]; omega
          have HBF : Hid (Below w.heap.size w wr) := HBW.out.trans (HBQ.out.mono HBW.out.size)
          have HOF : Hid (wr.ownsRow w.heap.size 34 24 u8 (fl I (ks.take k)).length (itsV (fl I (ks.take k)))) := World.ownsRow.kept HOW2.out (below_grown HBQ.out) (by cases u8.ownBlock <;> simp)
          have HOV : Hid (wr.ownsRow w.heap.size 34 24 (.slice a2 i cap2) (I c).length (itsV (I c))) := World.ownsRow.kept HO3.out (below_grown HBQ.out) (by cases (Value.slice a2 i cap2).ownBlock <;> simp)
          have hwr := HBF.out.size
          have HLL : Hid ((fl I (ks.take k)).length + (I c).length ≤ 3000000) := by have := HM.out; show _ ≤ _; omega
          clear hz hti hLF hLT hszs hszt
          by_cases hbig : 1049635 < tot + z
          · have hb1 : (1049635 : Int) < (tot : Int) + (z : Int) := by omega
            by_cases hk0 : k = 0
            · exfalso
              have ht0 := HT.out
              rw [hk0] at ht0
              simp [fl, szs] at ht0
              omega
            · have hk1 : ¬ ((k : Int) = 0) := by omega
              go_wp2_with fail
              go_ret2
              exact ⟨u8, k, _, rfl, itRow_own HOF.out, ⟨by have := HNE.out; omega, by rw [HT.out]; omega, rfl, Or.inr ⟨by omega, c, HC.out, by rw [HT.out, HZ.out]; omega⟩⟩, HBF.out⟩
          · have hb1 : ¬ (1049635 : Int) < (tot : Int) + (z : Int) := by omega
            go_wp2_with (refine wpList_append_rows wr rfl (.tmp 50) (.tmp 51) rfl w.heap.size w.heap.size u8 (.slice a2 i cap2) (fl I (ks.take k)) (I c) rfl rfl HOF.out HOV.out HLL.out hwr ?_; intro v5 w5 hO5 hG5 hL5; have HO5 : Hid _ := hO5; have HB5 : Hid (Below w.heap.size w w5) := HBF.out.grown hG5 hwr (fun q hq => (HOF.out.lt q hq).1); clear hO5 hG5 hL5; simp only [Act.put, List.setIfInBounds_toArray, List.set_cons_zero, List.set_cons_succ])
            go_roundw
            case rel => exact ⟨k + 1, by omega, by simp, by simp, by rw [fl_take_succ HC.out, szs_append, HT.out, HZ.out], by rw [fl_take_succ HC.out, szs_append, HT.out, HZ.out]; omega, by rw [fl_take_succ HC.out]; exact HO5.out, HB5.out⟩
            case measure => simp [intOf]; omega
    · obtain rfl : k = n := by omega
      go_wp2_with fail
      go_ret2
      refine ⟨u8, k, _, rfl, itRow_own HOW.out, ⟨by have := HNE.out; omega, hle, rfl, Or.inl (by have := HNE.out; omega)⟩, HBL.out⟩
end Go.Proofs.Ybulkdfdc
