import Derived.Test.YbulkdfdcFin
namespace Go.Proofs.Ybulkdfdc
open Go.ChangeShapes Go.WideShapes Go.ChangeAt Go.RowKit
set_option linter.unusedVariables false
set_option linter.unusedSimpArgs false

theorem inf116 : (Yba.prog.info? 116).map (fun i => (i.zero, i.size, i.bytes)) = some (some anZero, 28, 120) := by kernel_rfl
theorem inf111 : (Yba.prog.info? 111).map (fun i => (i.zero, i.size, i.bytes)) = some (some dgZero, 5, 40) := by kernel_rfl
theorem inf120 : (Yba.prog.info? 120).map (fun i => (i.zero, i.size, i.bytes)) = some (some smZero, 43, 72) := by kernel_rfl

theorem cell_add {w : World} {b o k : Nat} {cs : List Value} (h : w.rangeAt b o cs) {u : Value} (hu : cs[k]? = some u) : w.cell? ⟨b, o + k, none⟩ = some u := h k u hu

/-- LOOP 2: the answers so far. -/
def RelB (w : World) (room : Int) (n : Nat) (ps : List Pt) (i : Value) (wr : World) : Prop :=
  ∃ (k : Nat) (rows : List (List Value)), k ≤ n ∧ i = .int .i64 k ∧ rows.length = k ∧ (∀ cs ∈ rows, cs.length = 28) ∧ (∀ (i : Nat) (cs : List Value) (p : Pt), rows[i]? = some cs → ps[i]? = some p → AnRowN wr p cs) ∧
    wr.ownsRow w.heap.size 116 28 (.slice (some ⟨w.heap.size + 1, 0, none⟩) k n) k (rows.flatMap id) ∧
    wr.heap[w.heap.size]? = some (.cells #[.int .i64 room, .slice (some ⟨w.heap.size + 1, 0, none⟩) k n] 110 (0, 0)) ∧ Below w.heap.size w wr

set_option maxRecDepth 20000 in
set_option maxHeartbeats 8000000 in
theorem main_walk (a0 : Option Addr) (n0 cap0 : Nat) (zs : List Int) (room : Int) (ad : Addr) (cap2 : Nat) (ps : List Pt) (w : World) (hn0 : n0 ≤ 1024) (hzl : zs.length = n0)
    (hz : PreAt w.heap.size w a0 zs)
    (hn : ps.length ≤ 1024) (hps : ∀ p ∈ ps, p.Ok) (hR : RowsAt (PtRow w.heap.size) w.heap.size w (some ad) 29 ps) :
    Calls Yba.prog 5 #[.slice a0 n0 cap0, .int .i64 room, .slice (some ad) ps.length cap2] w fun e w' => e = .returned (.bool true) ∧ Below w.heap.size w w' := by
  obtain ⟨i116, hi116, h116a, h116b, h116c⟩ := info_parts inf116
  obtain ⟨i111, hi111, h111a, h111b, h111c⟩ := info_parts inf111
  obtain ⟨i120, hi120, h120a, h120b, h120c⟩ := info_parts inf120
  have HZ : Hid (PreAt w.heap.size w a0 zs) := hz
  have HP : Hid _ := hps
  have HR : Hid (RowsAt (PtRow w.heap.size) w.heap.size w (some ad) 29 ps) := hR
  clear hz hps hR
  obtain ⟨n, hne⟩ : ∃ n, ps.length = n := ⟨_, rfl⟩
  rw [hne] at hn ⊢
  have hd0 : decide ((1024 : Int) < (n0 : Int)) = false := decide_eq_false (by omega)
  have hd2 : decide ((1024 : Int) < (n : Int)) = false := decide_eq_false (by omega)
  go_enter Yba.func5, Yba.ntmps5
  go_wp2_with fail
  go_loopw [7] (fun i wr => ∃ (k : Nat), k ≤ n ∧ i = .int .i64 k ∧ w = wr) (fun i _ => n - (intOf i).toNat)
  case atStart => exact ⟨0, by omega, rfl, rfl⟩
  case round =>
    obtain ⟨k, hk, rfl, rfl⟩ := hrel
    by_cases hlt : k < n
    · have hlt' : (k : Int) < (n : Int) := by omega
      obtain ⟨p, hp⟩ : ∃ p, ps[k]? = some p := ⟨ps[k], List.getElem?_eq_getElem (by omega)⟩
      have hpo : p.Ok := HP.out p (List.mem_of_getElem? hp)
      obtain ⟨b, o, hbo, hfx, hrd⟩ := HR.out (by intro h0; rw [h0] at hne; simp at hne; omega)
      obtain rfl := Option.some.inj hbo
      obtain ⟨cs, ⟨spA, spC, stA, stC, rfl, hsp, hst⟩, hcs⟩ := hrd k p hp
      have c7 := cell_add hcs (pt_7 _ _ _)
      have c28 := cell_add hcs (pt_28 hpo _ _)
      have hs1 : decide ((1024 : Int) < (p.sp.length : Int)) = false := decide_eq_false (by have := hpo.spn; omega)
      have hs2 : decide ((1024 : Int) < (p.st.length : Int)) = false := decide_eq_false (by have := hpo.stn; omega)
      clear hp hpo hfx hrd hcs hsp hst
      go_wp2_with fail
      go_roundw
      case rel => exact ⟨k + 1, by omega, by simp, trivial⟩
      case measure => simp [intOf]; omega
    · obtain rfl : n = k := by omega
      obtain ⟨wm, hmk, hown0, hgm0⟩ := run_make_own (P := Yba.prog) (w.alloc (.cells #[.int .i64 room, .slice none 0 0] 110)) w.heap.size 108 116 i116 anZero 28 Yba.underlying108 hi116 h116a h116b .i64 .i64 n (by rw [h116c]; omega) (by unfold maxLen; omega) (by simp)
      have esz : (w.alloc (.cells #[.int .i64 room, .slice none 0 0] 110)).heap.size = w.heap.size + 1 := by simp
      rw [esz] at hmk hown0
      have hb8 : wm.heap[w.heap.size]? = some (.cells #[.int .i64 room, .slice none 0 0] 110 (0, 0)) := by
        rw [hgm0.block _ (by simp) (by simp)]; exact heap_alloc_new _ _
      have cm8 : wm.cell? ⟨w.heap.size, 1, none⟩ = some (.slice none 0 0) := by simp [World.cell?, hb8]
      have fm8 : wm.frozen? ⟨w.heap.size, 1, none⟩ = false := frozen_block hb8
      have HB0 : Hid (RelB w room n ps (.int .i64 0) (wm.setCell ⟨w.heap.size, 1, none⟩ (.slice (some ⟨w.heap.size + 1, 0, none⟩) 0 n))) := by
        obtain ⟨hB1, cur1, hc1⟩ := own_at hown0
        refine ⟨0, [], by omega, rfl, rfl, by simp, by simp, own_block hown0 (Below.heap_setCell _ _ _ _ (by simp)), ?_, ?_⟩
        · exact setCell_same (cs := [.int .i64 room, .slice none 0 0]) _ hb8
        · exact (((Below.refl _ _).alloc (Nat.le_refl _) _).grown hgm0 (by simp) (fun k h => by cases h)).setCell (Nat.le_refl _) _
      clear hown0 hgm0 esz hb8
      go_wp2_with fail
      clear hmk cm8 fm8
      go_loopw [9] (fun i wr => RelB w room n ps i wr) (fun i _ => n - (intOf i).toNat)
      case atStart => exact HB0.out
      case round =>
        rename World => W0
        obtain ⟨k, rows, hk, rfl, hrl, hr28, hrow, hown, hg8, hbel⟩ := hrel
        have HRW : Hid _ := hrow
        have HOW : Hid (W0.ownsRow w.heap.size 116 28 (.slice (some ⟨w.heap.size + 1, 0, none⟩) k n) k (rows.flatMap id)) := hown
        have HG8 : Hid (W0.heap[w.heap.size]? = some (.cells #[.int .i64 room, .slice (some ⟨w.heap.size + 1, 0, none⟩) k n] 110 (0, 0))) := hg8
        have HBL : Hid (Below w.heap.size w W0) := hbel
        have HR28 : Hid _ := hr28
        have hz8 := bk_lt hg8
        clear hrow hown hg8 hbel HB0 hr28
        by_cases hlt : k < n
        · have hlt' : (k : Int) < (n : Int) := by omega
          obtain ⟨p, hp⟩ : ∃ p, ps[k]? = some p := ⟨ps[k], List.getElem?_eq_getElem (by omega)⟩
          have hpo : p.Ok := HP.out p (List.mem_of_getElem? hp)
          obtain ⟨b, o, hbo, hfx, hrd⟩ := HR.out (by intro h0; rw [h0] at hne; simp at hne; omega)
          obtain rfl := Option.some.inj hbo
          obtain ⟨cs, ⟨spA, spC, stA, stC, hcse, hsp, hst⟩, hcs⟩ := hrd k p hp
          obtain ⟨ms, hms⟩ : ∃ ms, p.sp.length = ms := ⟨_, rfl⟩
          obtain ⟨mt, hmt⟩ : ∃ mt, p.st.length = mt := ⟨_, rfl⟩
          rw [hms, hmt] at hcse
          have hmsn : ms ≤ 1024 := by have := hpo.spn; omega
          have hmtn : mt ≤ 1024 := by have := hpo.stn; omega
          have HXO : Hid p.Ok := hpo
          have HPK : Hid _ := hp
          have HRd : Hid (W0.rangeAt b (o + k * 29) cs) := rangeAt_block (HBL.out.block b hfx.1) hcs
          have HCL : Hid (cs.length = 29) := by rw [hcse]; exact len_ptCells hpo _ _
          have HC1 : Hid (∀ u ∈ cs, u.oneCell' = true) := by rw [hcse]; exact one_ptCells hpo rfl rfl
          have HSP : Hid (Reads w.heap.size w spA 5 (p.sp.map Dg.cells)) := hsp
          have HST : Hid (Reads w.heap.size w stA 43 (p.st.map Sm.cells)) := hst
          have C0 : Hid (cs[0]? = some (.bool p.ins)) := by rw [hcse]; exact pt_0 _ _ _
          have C1 : Hid (cs[1]? = some (.bool p.has)) := by rw [hcse]; exact pt_1 _ _ _
          have C2 : Hid (∀ j u, p.dg.cells[j]? = some u → cs[2 + j]? = some u) := by rw [hcse]; exact pt_dg _ _ _
          have C7 : Hid (cs[7]? = some (.slice spA ms spC)) := by rw [hcse]; exact pt_7 _ _ _
          have C8 : Hid (∀ j u, p.th[j]? = some u → cs[8 + j]? = some u) := by rw [hcse]; exact pt_th _ _ _
          have C28 : Hid (cs[28]? = some (.slice stA mt stC)) := by rw [hcse]; exact pt_28 hpo _ _
          clear hp hpo hfx hrd hcs hsp hst hcse
          go_wp2_with (first
            | (refine wpList_load_mid rfl 107 (.tmp 64) rfl b (o + k * 29) rfl cs _ HRd.out Yba.underlying107 rfl (by rw [sz107, HCL.out]) ?_)
            | (refine wpList_alloc_store rfl rfl 107 10 (.tmp 65) rfl rfl rfl rfl ptZero 29 info107 rfl cs.toArray (by simpa using HCL.out) (all_oneCell_toArray HC1.out) rfl rfl ?_))
          go_cut [11] from 56 to 142 (fun s11 wx => ∃ h, s11 = .pointer (some ⟨h, 0, none⟩) ∧ PaAt W0 W0.heap.size cs p h (.slice none 0 0) (.slice none 0 0) wx)
          case first =>
            have S0 : Hid (P15 W0 cs (W0.alloc (.cells cs.toArray 107)).drew) := ⟨heap_alloc_new _ _, ((Below.refl _ _).alloc (Nat.le_refl _) _).drew⟩
            refine wp_region_held_drew (S := P15 W0 cs) (by kernel_rfl) S0.out (fun _ => ?_)
            refine wpAnyH_take (i := 0) (v := .pointer (some ⟨W0.heap.size, 0, none⟩)) rfl (by kernel_rfl) (by kernel_rfl) (by kernel_rfl) (fun _ _ _ h => h) (Or.inl ⟨by rfl, fun W hW => by go_simp⟩) S0.out ?_
            simp only [Act.put, List.setIfInBounds_toArray, List.set_cons_zero, List.set_cons_succ]
            refine wpAnyH_take (i := 1) (v := .bool p.ins) rfl (by kernel_rfl) (by kernel_rfl) (by kernel_rfl) (fun _ _ _ h => h) (Or.inl ⟨by rfl, fun W hW => by have hd := cell_of_block hW.1 C0.out; clear hW; go_simp⟩) S0.out ?_
            simp only [Act.put, List.setIfInBounds_toArray, List.set_cons_zero, List.set_cons_succ]
            refine wpAnyH_take (i := 2) (v := .pointer (some ⟨W0.heap.size, 2, none⟩)) rfl (by kernel_rfl) (by kernel_rfl) (by kernel_rfl) (fun _ _ _ h => h) (Or.inl ⟨by rfl, fun W hW => by go_simp⟩) S0.out ?_
            simp only [Act.put, List.setIfInBounds_toArray, List.set_cons_zero, List.set_cons_succ]
            refine wpAnyH_take (i := 3) (v := .agg p.dg.cells.toArray) rfl (by kernel_rfl) (by kernel_rfl) (by kernel_rfl) (fun _ _ _ h => h) (yieldsIf_load_mid (by rfl) 103 (.tmp 68) rfl W0.heap.size 2 rfl _ _ (fun W hW => range_of_block hW.1 C2.out) Yba.underlying103 rfl (by rw [sz103]; rfl)) S0.out ?_
            simp only [Act.put, List.setIfInBounds_toArray, List.set_cons_zero, List.set_cons_succ]
            refine wpAnyH_take (i := 5) (v := .pointer (some ⟨W0.heap.size, 8, none⟩)) rfl (by kernel_rfl) (by kernel_rfl) (by kernel_rfl) (fun _ _ _ h => h) (Or.inl ⟨by rfl, fun W hW => by go_simp⟩) S0.out ?_
            simp only [Act.put, List.setIfInBounds_toArray, List.set_cons_zero, List.set_cons_succ]
            refine wpAnyH_take (i := 6) (v := .agg p.th.toArray) rfl (by kernel_rfl) (by kernel_rfl) (by kernel_rfl) (fun _ _ _ h => h) (yieldsIf_load_mid (by rfl) 25 (.tmp 71) rfl W0.heap.size 8 rfl _ _ (fun W hW => range_of_block hW.1 C8.out) Yba.underlying25 rfl (by rw [sz25, HXO.out.th.len])) S0.out ?_
            simp only [Act.put, List.setIfInBounds_toArray, List.set_cons_zero, List.set_cons_succ]
            refine wpAnyH_ready (rs := [4, 8]) (by kernel_rfl) (by simp) ?_
            refine AllReadyH.cons rfl (fun K hK => ?_) (AllReadyH.cons rfl (fun K hK => ?_) AllReadyH.nil)
            · rw [if_pos (by rfl)]
              go_simp
              refine (copy13 p.dg _).mono ?_
              rintro e w2 ⟨rfl, hw2⟩
              have S1 : Hid (P15 W0 cs w2) := by rw [hw2]; exact (S0.out.alloc _).alloc _
              have hz2 := S1.out.2.size
              clear hw2
              refine hK.out _ _ S1.out (fun _ => ?_)
              clear hK K
              refine wpAnyH_take (i := 7) (oi := { dst := some 73, op := _, type := _, pos := _, after := _, guard := _ }) (v := .agg (anCells p (.slice none 0 0) (.slice none 0 0)).toArray) rfl (by kernel_rfl) (by kernel_rfl) (by kernel_rfl) (fun _ _ _ h => h) (yieldsIf_build rfl 116 #[(0, .tmp 67), (1, .tmp 70), (3, .tmp 72)] rfl [(0, .bool p.ins), (1, .agg p.dg.cells.toArray), (3, .agg p.th.toArray)] (by simp only [List.map_toArray, List.map_cons, List.map_nil]; rfl) _ (built116 p HXO.out)) S1.out ?_
              simp only [Act.put, List.setIfInBounds_toArray, List.set_cons_zero, List.set_cons_succ]
              refine wpAnyH_ready (rs := [8]) (by kernel_rfl) (by simp) ?_
              refine AllReadyH.cons rfl (fun K hK => ?_) AllReadyH.nil
              rw [if_pos (by rfl)]
              go_simp
              have S2 : Hid (P15 W0 cs (w2.alloc (.cells anZero.cells 116))) := S1.out.alloc _
              have HH : Hid ((w2.alloc (.cells anZero.cells 116)).heap[w2.heap.size]? = some (.cells anZero.cells 116 (0, 0))) := heap_alloc_new _ _
              refine hK.out _ _ S2.out (fun _ => ?_)
              clear hK K
              refine wpAnyH_ready (rs := [9]) (by kernel_rfl) (by simp) ?_
              refine AllReadyH.cons rfl (fun K hK => ?_) AllReadyH.nil
              refine step_store_row rfl 116 (.tmp 11) (.tmp 73) rfl w2.heap.size (anCells p (.slice none 0 0) (.slice none 0 0)).toArray rfl rfl 116 anZero.cells HH.out (by rw [sz116]; simp [len_anCells HXO.out]) (by simp [len_anCells HXO.out]; rfl) (all_oneCell_toArray (one_anCells HXO.out rfl rfl)) ?_
              have PA : Hid _ := pa_stored (p := p) S2.out.2 (Nat.le_refl _) S2.out.1 (by first | omega | (simp; omega)) HH.out (.slice none 0 0) (.slice none 0 0)
              refine hK.out _ _ ⟨PA.out.pt, PA.out.bel⟩ (fun _ => ?_)
              simp only [Act.put, List.setIfInBounds_toArray, List.set_cons_zero, List.set_cons_succ]
              clear hK K
              refine wpAnyH_done (by kernel_rfl) ?_ _
              clear S0 HRd
              go_wp2_with fail
              go_meet
              case rel => exact ⟨_, rfl, PA.out⟩
            · rw [if_pos (by rfl)]
              go_simp
              have S1 : Hid (P15 W0 cs ((W0.alloc (.cells cs.toArray 107)).drew.alloc (.cells anZero.cells 116))) := S0.out.alloc _
              have HH1 : Hid (((W0.alloc (.cells cs.toArray 107)).drew.alloc (.cells anZero.cells 116)).heap[W0.heap.size + 1]? = some (.cells anZero.cells 116 (0, 0))) := by
                have := heap_alloc_new (W0.alloc (.cells cs.toArray 107)).drew (.cells anZero.cells 116)
                rw [show (W0.alloc (.cells cs.toArray 107)).drew.heap.size = W0.heap.size + 1 from by simp] at this
                exact this
              refine hK.out _ _ S1.out (fun _ => ?_)
              clear hK K
              refine wpAnyH_ready (rs := [4]) (by kernel_rfl) (by simp) ?_
              refine AllReadyH.cons rfl (fun K hK => ?_) AllReadyH.nil
              rw [if_pos (by rfl)]
              go_simp
              refine (copy13 p.dg _).mono ?_
              rintro e w2 ⟨rfl, hw2⟩
              have S2 : Hid (P15 W0 cs w2) := by rw [hw2]; exact (S1.out.alloc _).alloc _
              have HH : Hid (w2.heap[W0.heap.size + 1]? = some (.cells anZero.cells 116 (0, 0))) := by rw [hw2]; exact kept_alloc (kept_alloc HH1.out)
              clear hw2 HH1
              refine hK.out _ _ S2.out (fun _ => ?_)
              clear hK K
              refine wpAnyH_take (i := 7) (oi := { dst := some 73, op := _, type := _, pos := _, after := _, guard := _ }) (v := .agg (anCells p (.slice none 0 0) (.slice none 0 0)).toArray) rfl (by kernel_rfl) (by kernel_rfl) (by kernel_rfl) (fun _ _ _ h => h) (yieldsIf_build rfl 116 #[(0, .tmp 67), (1, .tmp 70), (3, .tmp 72)] rfl [(0, .bool p.ins), (1, .agg p.dg.cells.toArray), (3, .agg p.th.toArray)] (by simp only [List.map_toArray, List.map_cons, List.map_nil]; rfl) _ (built116 p HXO.out)) S2.out ?_
              simp only [Act.put, List.setIfInBounds_toArray, List.set_cons_zero, List.set_cons_succ]
              refine wpAnyH_ready (rs := [9]) (by kernel_rfl) (by simp) ?_
              refine AllReadyH.cons rfl (fun K hK => ?_) AllReadyH.nil
              refine step_store_row rfl 116 (.tmp 11) (.tmp 73) rfl (W0.heap.size + 1) (anCells p (.slice none 0 0) (.slice none 0 0)).toArray rfl rfl 116 anZero.cells HH.out (by rw [sz116]; simp [len_anCells HXO.out]) (by simp [len_anCells HXO.out]; rfl) (all_oneCell_toArray (one_anCells HXO.out rfl rfl)) ?_
              have PA : Hid _ := pa_stored (p := p) S2.out.2 (Nat.le_refl _) S2.out.1 (by first | omega | (simp; omega)) HH.out (.slice none 0 0) (.slice none 0 0)
              refine hK.out _ _ ⟨PA.out.pt, PA.out.bel⟩ (fun _ => ?_)
              simp only [Act.put, List.setIfInBounds_toArray, List.set_cons_zero, List.set_cons_succ]
              clear hK K
              refine wpAnyH_done (by kernel_rfl) ?_ _
              clear S0 HRd
              go_wp2_with fail
              go_meet
              case rel => exact ⟨_, rfl, PA.out⟩
          case rest =>
            obtain ⟨h, rfl, hPA⟩ := hcut
            have PA : Hid (PaAt W0 W0.heap.size cs p h (.slice none 0 0) (.slice none 0 0) wc) := hPA
            have c1 : wc.cell? ⟨W0.heap.size, 1, none⟩ = some (.bool p.has) := cell_of_block hPA.pt C1.out
            have hzc := hPA.bel.size
            clear hPA
            go_upto_if 75 with fail
            clear c1
            go_cut [12] from 56 to 142 (fun s12 wx => ∃ spV, PaAt W0 W0.heap.size cs p h spV (.slice none 0 0) wx ∧ SpOk wx p spV ∧ spV.oneCell' = true)
            case first =>
              rcases hhas : p.has with _ | _
              · go_wp2_with fail
                go_meet
                case rel => exact ⟨_, PA.out, ⟨fun hh => (by rw [hhas] at hh; cases hh), fun _ => rfl⟩, rfl⟩
              · obtain ⟨w3, hmk, hownS, hgS⟩ := run_make_own (P := Yba.prog) wc W0.heap.size 113 111 i111 dgZero 5 Yba.underlying113 hi111 h111a h111b .i64 .i64 ms (by rw [h111c]; omega) (by unfold maxLen; omega) hzc
                have c7 : wc.cell? ⟨W0.heap.size, 7, none⟩ = some (.slice spA ms spC) := cell_of_block PA.out.pt C7.out
                have PA3 : Hid (PaAt W0 W0.heap.size cs p h (.slice none 0 0) (.slice none 0 0) w3) := PA.out.grown hgS (fun k hk => by cases hk)
                have c6 : w3.cell? ⟨h, 6, none⟩ = some (.slice none 0 0) := cell_of_block PA3.out.pa (an_6 _ _ _)
                have f6 : w3.frozen? ⟨h, 6, none⟩ = false := frozen_block PA3.out.pa
                have hhl : h < wc.heap.size := bk_lt PA.out.pa
                have R0 : Hid (PaAt W0 W0.heap.size cs p h (.slice (some ⟨wc.heap.size, 0, none⟩) 0 ms) (.slice none 0 0) (w3.setCell ⟨h, 6, none⟩ (.slice (some ⟨wc.heap.size, 0, none⟩) 0 ms)) ∧ (w3.setCell ⟨h, 6, none⟩ (.slice (some ⟨wc.heap.size, 0, none⟩) 0 ms)).ownsRow W0.heap.size 111 5 (.slice (some ⟨wc.heap.size, 0, none⟩) 0 ms) 0 ((p.sp.take 0).flatMap Dg.cells)) := ⟨PA3.out.set6 _, own_block hownS (Below.heap_setCell _ _ _ _ (by show wc.heap.size ≠ h; omega))⟩
                clear hownS hgS PA3
                go_wp2_with fail
                clear hmk c7 c6 f6
                go_loopw [12] (fun i wx => ∃ (j : Nat), j ≤ ms ∧ i = .int .i64 j ∧ PaAt W0 W0.heap.size cs p h (.slice (some ⟨wc.heap.size, 0, none⟩) j ms) (.slice none 0 0) wx ∧ wx.ownsRow W0.heap.size 111 5 (.slice (some ⟨wc.heap.size, 0, none⟩) j ms) j ((p.sp.take j).flatMap Dg.cells)) (fun i _ => ms - (intOf i).toNat)
                case atStart => exact ⟨0, by omega, rfl, R0.out.1, R0.out.2⟩
                case round =>
                  obtain ⟨j, hj, rfl, hPAj, hOWj⟩ := hrel
                  have PAJ : Hid (PaAt W0 W0.heap.size cs p h (.slice (some ⟨wc.heap.size, 0, none⟩) j ms) (.slice none 0 0) wr) := hPAj
                  have OWJ : Hid (wr.ownsRow W0.heap.size 111 5 (.slice (some ⟨wc.heap.size, 0, none⟩) j ms) j ((p.sp.take j).flatMap Dg.cells)) := hOWj
                  have c7 : wr.cell? ⟨W0.heap.size, 7, none⟩ = some (.slice spA ms spC) := cell_of_block hPAj.pt C7.out
                  clear hPAj hOWj R0
                  by_cases hltj : j < ms
                  · have hltj' : (j : Int) < (ms : Int) := by omega
                    obtain ⟨x, hx⟩ : ∃ x, p.sp[j]? = some x := ⟨p.sp[j], List.getElem?_eq_getElem (by omega)⟩
                    have HX2 : Hid _ := hx
                    obtain ⟨b2, o2, rfl, hfx, hrd⟩ := HSP.out (map_ne (by omega))
                    have hb2 : b2 < w.heap.size := hfx.1
                    have hW0 := HBL.out.size
                    have HRd2 : Hid (wr.rangeAt b2 (o2 + j * 5) x.cells) := rangeAt_block (by rw [PAJ.out.bel.block b2 (by omega), HBL.out.block b2 hb2]) (hrd j x.cells (by simp [hx]))
                    clear hx hfx hrd
                    go_wp2_with fail
                    clear c7
                    have PA1 : Hid (PaAt W0 W0.heap.size cs p h (.slice (some ⟨wc.heap.size, 0, none⟩) j ms) (.slice none 0 0) wr.drew) := PAJ.out.drew
                    have OW1 : Hid (wr.drew.ownsRow W0.heap.size 111 5 (.slice (some ⟨wc.heap.size, 0, none⟩) j ms) j ((p.sp.take j).flatMap Dg.cells)) := OWJ.out
                    have S1 : Hid (P21 W0.heap.size cs b2 (o2 + j * 5) x.cells wr.drew) := ⟨PA1.out.pt, HRd2.out⟩
                    refine wp_region_held_drew (S := P21 W0.heap.size cs b2 (o2 + j * 5) x.cells) (by kernel_rfl) S1.out (fun _ => ?_)
                    refine wpAnyH_take (i := 0) (oi := { dst := some 88, op := _, type := _, pos := _, after := _, guard := _ }) (v := .pointer (some ⟨h, 6, none⟩)) rfl (by kernel_rfl) (by kernel_rfl) (by kernel_rfl) (fun _ _ _ h => h) (Or.inl ⟨by rfl, fun W hW => by clear hW; go_simp⟩) S1.out ?_
                    simp only [Act.put, List.setIfInBounds_toArray, List.set_cons_zero, List.set_cons_succ]
                    refine wpAnyH_take (i := 2) (oi := { dst := some 90, op := _, type := _, pos := _, after := _, guard := _ }) (v := .pointer (some ⟨W0.heap.size, 7, none⟩)) rfl (by kernel_rfl) (by kernel_rfl) (by kernel_rfl) (fun _ _ _ h => h) (Or.inl ⟨by rfl, fun W hW => by clear hW; go_simp⟩) S1.out ?_
                    simp only [Act.put, List.setIfInBounds_toArray, List.set_cons_zero, List.set_cons_succ]
                    refine wpAnyH_take (i := 3) (oi := { dst := some 91, op := _, type := _, pos := _, after := _, guard := _ }) (v := .slice (some ⟨b2, o2, none⟩) ms spC) rfl (by kernel_rfl) (by kernel_rfl) (by kernel_rfl) (fun _ _ _ h => h) (Or.inl ⟨by rfl, fun W hW => by have hd := cell_of_block hW.1 C7.out; clear hW; go_simp⟩) S1.out ?_
                    simp only [Act.put, List.setIfInBounds_toArray, List.set_cons_zero, List.set_cons_succ]
                    refine wpAnyH_take (i := 4) (oi := { dst := some 92, op := _, type := _, pos := _, after := _, guard := _ }) (v := .int .i64 (j : Int)) rfl (by kernel_rfl) (by kernel_rfl) (by kernel_rfl) (fun _ _ _ h => h) (Or.inl ⟨by rfl, fun W hW => by clear hW; go_simp⟩) S1.out ?_
                    simp only [Act.put, List.setIfInBounds_toArray, List.set_cons_zero, List.set_cons_succ]
                    refine wpAnyH_take (i := 5) (oi := { dst := some 93, op := _, type := _, pos := _, after := _, guard := _ }) (v := .pointer (some ⟨b2, o2 + j * 5, none⟩)) rfl (by kernel_rfl) (by kernel_rfl) (by kernel_rfl) (fun _ _ _ h => h) (Or.inl ⟨by rfl, fun W hW => by clear hW; go_simp⟩) S1.out ?_
                    simp only [Act.put, List.setIfInBounds_toArray, List.set_cons_zero, List.set_cons_succ]
                    refine wpAnyH_take (i := 6) (oi := { dst := some 94, op := _, type := _, pos := _, after := _, guard := _ }) (v := .agg x.cells.toArray) rfl (by kernel_rfl) (by kernel_rfl) (by kernel_rfl) (fun _ _ _ h => h) (yieldsIf_load_mid (by rfl) 103 (.tmp 93) rfl b2 (o2 + j * 5) rfl _ _ (fun W hW => hW.2) Yba.underlying103 rfl (by rw [sz103]; rfl)) S1.out ?_
                    simp only [Act.put, List.setIfInBounds_toArray, List.set_cons_zero, List.set_cons_succ]
                    refine wpAnyH_ready (rs := [1, 7]) (by kernel_rfl) (by simp) ?_
                    refine AllReadyH.cons rfl (fun K hK => ?_) (AllReadyH.cons rfl (fun K hK => ?_) AllReadyH.nil)
                    · rw [if_pos (by rfl)]
                      have c6 := cell_of_block PA1.out.pa (an_6 _ _ _)
                      go_simp
                      clear c6
                      refine hK.out _ _ S1.out (fun _ => ?_)
                      clear hK K
                      refine wpAnyH_ready (rs := [7]) (by kernel_rfl) (by simp) ?_
                      refine AllReadyH.cons rfl (fun K hK => ?_) AllReadyH.nil
                      rw [if_pos (by rfl)]
                      go_simp
                      refine (copy13 x _).mono ?_
                      rintro e w2 ⟨rfl, hw2⟩
                      have PA2 : Hid (PaAt W0 W0.heap.size cs p h (.slice (some ⟨wc.heap.size, 0, none⟩) j ms) (.slice none 0 0) w2) := by rw [hw2]; exact (PA1.out.alloc _).alloc _
                      have OW2 : Hid (w2.ownsRow W0.heap.size 111 5 (.slice (some ⟨wc.heap.size, 0, none⟩) j ms) j ((p.sp.take j).flatMap Dg.cells)) := by rw [hw2]; exact World.ownsRow.alloc (World.ownsRow.alloc OW1.out _) _
                      have S2 : Hid (P21 W0.heap.size cs b2 (o2 + j * 5) x.cells w2) := by rw [hw2]; exact (S1.out.alloc _).alloc _
                      clear hw2
                      refine hK.out _ _ S2.out (fun _ => ?_)
                      clear hK K
                      refine wpAnyH_ready (rs := [8]) (by kernel_rfl) (by simp) ?_
                      refine AllReadyH.cons rfl (fun K hK => ?_) AllReadyH.nil
                      refine step_buildSlice_one rfl 113 111 (.tmp 95) rfl i111 dgZero 5 Yba.underlying113 hi111 h111a h111b (by decide) (by decide) x.cells rfl rfl ?_
                      have PA3 : Hid (PaAt W0 W0.heap.size cs p h (.slice (some ⟨wc.heap.size, 0, none⟩) j ms) (.slice none 0 0) (w2.alloc (.cells x.cells.toArray 111))) := PA2.out.alloc _
                      have OW3 : Hid ((w2.alloc (.cells x.cells.toArray 111)).ownsRow W0.heap.size 111 5 (.slice (some ⟨wc.heap.size, 0, none⟩) j ms) j ((p.sp.take j).flatMap Dg.cells)) := World.ownsRow.alloc OW2.out _
                      have S3 : Hid (P21 W0.heap.size cs b2 (o2 + j * 5) x.cells (w2.alloc (.cells x.cells.toArray 111))) := S2.out.alloc _
                      refine hK.out _ _ S3.out (fun _ => ?_)
                      simp only [Act.put, List.setIfInBounds_toArray, List.set_cons_zero, List.set_cons_succ]
                      clear hK K
                      refine wpAnyH_ready (rs := [9]) (by kernel_rfl) (by simp) ?_
                      refine AllReadyH.cons rfl (fun K hK => ?_) AllReadyH.nil
                      refine step_append_fits rfl (.tmp 89) (.tmp 96) 113 rfl W0.heap.size 111 i111 5 Yba.underlying113 hi111 h111b wc.heap.size j ms ((p.sp.take j).flatMap Dg.cells) rfl OW3.out ⟨w2.heap.size, 0, none⟩ 1 1 x.cells rfl rfl (news_new w2 x.cells 111) (one_dg x) (by omega) ?_
                      intro w4 ho4 hg4
                      have PA4 : Hid (PaAt W0 W0.heap.size cs p h (.slice (some ⟨wc.heap.size, 0, none⟩) j ms) (.slice none 0 0) w4) := PA3.out.grown hg4 (fun k hk => by cases hk; obtain ⟨q1, cur, q2⟩ := own_at OW3.out; exact ⟨q1, cur, 111, q2, by decide, by decide⟩)
                      have S4 : Hid (P21 W0.heap.size cs b2 (o2 + j * 5) x.cells w4) := ⟨PA4.out.pt, rangeAt_block (hg4.block b2 (by have := PA3.out.bel.size; omega) (by have := (own_at OW3.out).1; simp; omega)) S3.out.2⟩
                      refine hK.out _ _ S4.out (fun _ => ?_)
                      simp only [Act.put, List.setIfInBounds_toArray, List.set_cons_zero, List.set_cons_succ]
                      clear hK K
                      have OW4 : Hid (w4.ownsRow W0.heap.size 111 5 (.slice (some ⟨wc.heap.size, 0, none⟩) (j + 1) ms) (j + 1) ((p.sp.take (j + 1)).flatMap Dg.cells)) := by
                        have e : (p.sp.take (j + 1)).flatMap Dg.cells = (p.sp.take j).flatMap Dg.cells ++ x.cells := flatMap_take_succ HX2.out
                        show World.ownsRow _ _ _ _ _ _ _
                        rw [e]; exact ho4
                      have hne4 : wc.heap.size ≠ h := by
                        intro e0
                        obtain ⟨_, cur, q2⟩ := own_at OW4.out
                        rw [e0, PA4.out.pa] at q2
                        simp only [Option.some.injEq, Obj.cells.injEq] at q2
                        exact absurd q2.2.1 (by decide)
                      have RR : Hid (PaAt W0 W0.heap.size cs p h (.slice (some ⟨wc.heap.size, 0, none⟩) (j + 1) ms) (.slice none 0 0) (w4.setCell ⟨h, 6, none⟩ (.slice (some ⟨wc.heap.size, 0, none⟩) (j + 1) ms)) ∧ (w4.setCell ⟨h, 6, none⟩ (.slice (some ⟨wc.heap.size, 0, none⟩) (j + 1) ms)).ownsRow W0.heap.size 111 5 (.slice (some ⟨wc.heap.size, 0, none⟩) (j + 1) ms) (j + 1) ((p.sp.take (j + 1)).flatMap Dg.cells)) := ⟨PA4.out.set6 _, own_block OW4.out (Below.heap_setCell _ _ _ _ hne4)⟩
                      clear ho4 hg4 PA3 OW3 S3
                      refine wpAnyH_take (i := 10) (oi := { dst := some 98, op := _, type := _, pos := _, after := _, guard := _ }) (v := .pointer (some ⟨h, 6, none⟩)) rfl (by kernel_rfl) (by kernel_rfl) (by kernel_rfl) (fun _ _ _ h => h) (Or.inl ⟨by rfl, fun W hW => by clear hW; go_simp⟩) S4.out ?_
                      simp only [Act.put, List.setIfInBounds_toArray, List.set_cons_zero, List.set_cons_succ]
                      refine wpAnyH_ready (rs := [11]) (by kernel_rfl) (by simp) ?_
                      refine AllReadyH.cons rfl (fun K hK => ?_) AllReadyH.nil
                      have c6 := cell_of_block PA4.out.pa (an_6 _ _ _)
                      have f6 : w4.frozen? ⟨h, 6, none⟩ = false := frozen_block PA4.out.pa
                      rw [if_pos (by rfl)]
                      go_simp
                      refine hK.out _ _ ⟨RR.out.1.pt, rangeAt_block (Below.heap_setCell _ _ _ _ (by have := RR.out.1.hle; show b2 ≠ h; omega)) S4.out.2⟩ (fun _ => ?_)
                      clear hK K c6 f6
                      refine wpAnyH_done (by kernel_rfl) ?_ _
                      go_wp2_with fail
                      go_roundw
                      case rel => exact ⟨j + 1, by omega, by simp, RR.out.1, RR.out.2⟩
                      case measure => simp [intOf]; omega
                    · rw [if_pos (by rfl)]
                      go_simp
                      refine (copy13 x _).mono ?_
                      rintro e w2 ⟨rfl, hw2⟩
                      have PA2 : Hid (PaAt W0 W0.heap.size cs p h (.slice (some ⟨wc.heap.size, 0, none⟩) j ms) (.slice none 0 0) w2) := by rw [hw2]; exact (PA1.out.alloc _).alloc _
                      have OW2 : Hid (w2.ownsRow W0.heap.size 111 5 (.slice (some ⟨wc.heap.size, 0, none⟩) j ms) j ((p.sp.take j).flatMap Dg.cells)) := by rw [hw2]; exact World.ownsRow.alloc (World.ownsRow.alloc OW1.out _) _
                      have S2 : Hid (P21 W0.heap.size cs b2 (o2 + j * 5) x.cells w2) := by rw [hw2]; exact (S1.out.alloc _).alloc _
                      clear hw2
                      refine hK.out _ _ S2.out (fun _ => ?_)
                      clear hK K
                      refine wpAnyH_ready (rs := [1, 8]) (by kernel_rfl) (by simp) ?_
                      refine AllReadyH.cons rfl (fun K hK => ?_) (AllReadyH.cons rfl (fun K hK => ?_) AllReadyH.nil)
                      · rw [if_pos (by rfl)]
                        have c6 := cell_of_block PA2.out.pa (an_6 _ _ _)
                        go_simp
                        clear c6
                        refine hK.out _ _ S2.out (fun _ => ?_)
                        clear hK K
                        refine wpAnyH_ready (rs := [8]) (by kernel_rfl) (by simp) ?_
                        refine AllReadyH.cons rfl (fun K hK => ?_) AllReadyH.nil
                        refine step_buildSlice_one rfl 113 111 (.tmp 95) rfl i111 dgZero 5 Yba.underlying113 hi111 h111a h111b (by decide) (by decide) x.cells rfl rfl ?_
                        have PA3 : Hid (PaAt W0 W0.heap.size cs p h (.slice (some ⟨wc.heap.size, 0, none⟩) j ms) (.slice none 0 0) (w2.alloc (.cells x.cells.toArray 111))) := PA2.out.alloc _
                        have OW3 : Hid ((w2.alloc (.cells x.cells.toArray 111)).ownsRow W0.heap.size 111 5 (.slice (some ⟨wc.heap.size, 0, none⟩) j ms) j ((p.sp.take j).flatMap Dg.cells)) := World.ownsRow.alloc OW2.out _
                        have S3 : Hid (P21 W0.heap.size cs b2 (o2 + j * 5) x.cells (w2.alloc (.cells x.cells.toArray 111))) := S2.out.alloc _
                        refine hK.out _ _ S3.out (fun _ => ?_)
                        simp only [Act.put, List.setIfInBounds_toArray, List.set_cons_zero, List.set_cons_succ]
                        clear hK K
                        refine wpAnyH_ready (rs := [9]) (by kernel_rfl) (by simp) ?_
                        refine AllReadyH.cons rfl (fun K hK => ?_) AllReadyH.nil
                        refine step_append_fits rfl (.tmp 89) (.tmp 96) 113 rfl W0.heap.size 111 i111 5 Yba.underlying113 hi111 h111b wc.heap.size j ms ((p.sp.take j).flatMap Dg.cells) rfl OW3.out ⟨w2.heap.size, 0, none⟩ 1 1 x.cells rfl rfl (news_new w2 x.cells 111) (one_dg x) (by omega) ?_
                        intro w4 ho4 hg4
                        have PA4 : Hid (PaAt W0 W0.heap.size cs p h (.slice (some ⟨wc.heap.size, 0, none⟩) j ms) (.slice none 0 0) w4) := PA3.out.grown hg4 (fun k hk => by cases hk; obtain ⟨q1, cur, q2⟩ := own_at OW3.out; exact ⟨q1, cur, 111, q2, by decide, by decide⟩)
                        have S4 : Hid (P21 W0.heap.size cs b2 (o2 + j * 5) x.cells w4) := ⟨PA4.out.pt, rangeAt_block (hg4.block b2 (by have := PA3.out.bel.size; omega) (by have := (own_at OW3.out).1; simp; omega)) S3.out.2⟩
                        refine hK.out _ _ S4.out (fun _ => ?_)
                        simp only [Act.put, List.setIfInBounds_toArray, List.set_cons_zero, List.set_cons_succ]
                        clear hK K
                        have OW4 : Hid (w4.ownsRow W0.heap.size 111 5 (.slice (some ⟨wc.heap.size, 0, none⟩) (j + 1) ms) (j + 1) ((p.sp.take (j + 1)).flatMap Dg.cells)) := by
                          have e : (p.sp.take (j + 1)).flatMap Dg.cells = (p.sp.take j).flatMap Dg.cells ++ x.cells := flatMap_take_succ HX2.out
                          show World.ownsRow _ _ _ _ _ _ _
                          rw [e]; exact ho4
                        have hne4 : wc.heap.size ≠ h := by
                          intro e0
                          obtain ⟨_, cur, q2⟩ := own_at OW4.out
                          rw [e0, PA4.out.pa] at q2
                          simp only [Option.some.injEq, Obj.cells.injEq] at q2
                          exact absurd q2.2.1 (by decide)
                        have RR : Hid (PaAt W0 W0.heap.size cs p h (.slice (some ⟨wc.heap.size, 0, none⟩) (j + 1) ms) (.slice none 0 0) (w4.setCell ⟨h, 6, none⟩ (.slice (some ⟨wc.heap.size, 0, none⟩) (j + 1) ms)) ∧ (w4.setCell ⟨h, 6, none⟩ (.slice (some ⟨wc.heap.size, 0, none⟩) (j + 1) ms)).ownsRow W0.heap.size 111 5 (.slice (some ⟨wc.heap.size, 0, none⟩) (j + 1) ms) (j + 1) ((p.sp.take (j + 1)).flatMap Dg.cells)) := ⟨PA4.out.set6 _, own_block OW4.out (Below.heap_setCell _ _ _ _ hne4)⟩
                        clear ho4 hg4 PA3 OW3 S3
                        refine wpAnyH_take (i := 10) (oi := { dst := some 98, op := _, type := _, pos := _, after := _, guard := _ }) (v := .pointer (some ⟨h, 6, none⟩)) rfl (by kernel_rfl) (by kernel_rfl) (by kernel_rfl) (fun _ _ _ h => h) (Or.inl ⟨by rfl, fun W hW => by clear hW; go_simp⟩) S4.out ?_
                        simp only [Act.put, List.setIfInBounds_toArray, List.set_cons_zero, List.set_cons_succ]
                        refine wpAnyH_ready (rs := [11]) (by kernel_rfl) (by simp) ?_
                        refine AllReadyH.cons rfl (fun K hK => ?_) AllReadyH.nil
                        have c6 := cell_of_block PA4.out.pa (an_6 _ _ _)
                        have f6 : w4.frozen? ⟨h, 6, none⟩ = false := frozen_block PA4.out.pa
                        rw [if_pos (by rfl)]
                        go_simp
                        refine hK.out _ _ ⟨RR.out.1.pt, rangeAt_block (Below.heap_setCell _ _ _ _ (by have := RR.out.1.hle; show b2 ≠ h; omega)) S4.out.2⟩ (fun _ => ?_)
                        clear hK K c6 f6
                        refine wpAnyH_done (by kernel_rfl) ?_ _
                        go_wp2_with fail
                        go_roundw
                        case rel => exact ⟨j + 1, by omega, by simp, RR.out.1, RR.out.2⟩
                        case measure => simp [intOf]; omega
                      · refine step_buildSlice_one rfl 113 111 (.tmp 95) rfl i111 dgZero 5 Yba.underlying113 hi111 h111a h111b (by decide) (by decide) x.cells rfl rfl ?_
                        have PA3 : Hid (PaAt W0 W0.heap.size cs p h (.slice (some ⟨wc.heap.size, 0, none⟩) j ms) (.slice none 0 0) (w2.alloc (.cells x.cells.toArray 111))) := PA2.out.alloc _
                        have OW3 : Hid ((w2.alloc (.cells x.cells.toArray 111)).ownsRow W0.heap.size 111 5 (.slice (some ⟨wc.heap.size, 0, none⟩) j ms) j ((p.sp.take j).flatMap Dg.cells)) := World.ownsRow.alloc OW2.out _
                        have S3 : Hid (P21 W0.heap.size cs b2 (o2 + j * 5) x.cells (w2.alloc (.cells x.cells.toArray 111))) := S2.out.alloc _
                        refine hK.out _ _ S3.out (fun _ => ?_)
                        simp only [Act.put, List.setIfInBounds_toArray, List.set_cons_zero, List.set_cons_succ]
                        clear hK K
                        refine wpAnyH_ready (rs := [1]) (by kernel_rfl) (by simp) ?_
                        refine AllReadyH.cons rfl (fun K hK => ?_) AllReadyH.nil
                        rw [if_pos (by rfl)]
                        have c6 := cell_of_block PA3.out.pa (an_6 _ _ _)
                        go_simp
                        clear c6
                        refine hK.out _ _ S3.out (fun _ => ?_)
                        clear hK K
                        refine wpAnyH_ready (rs := [9]) (by kernel_rfl) (by simp) ?_
                        refine AllReadyH.cons rfl (fun K hK => ?_) AllReadyH.nil
                        refine step_append_fits rfl (.tmp 89) (.tmp 96) 113 rfl W0.heap.size 111 i111 5 Yba.underlying113 hi111 h111b wc.heap.size j ms ((p.sp.take j).flatMap Dg.cells) rfl OW3.out ⟨w2.heap.size, 0, none⟩ 1 1 x.cells rfl rfl (news_new w2 x.cells 111) (one_dg x) (by omega) ?_
                        intro w4 ho4 hg4
                        have PA4 : Hid (PaAt W0 W0.heap.size cs p h (.slice (some ⟨wc.heap.size, 0, none⟩) j ms) (.slice none 0 0) w4) := PA3.out.grown hg4 (fun k hk => by cases hk; obtain ⟨q1, cur, q2⟩ := own_at OW3.out; exact ⟨q1, cur, 111, q2, by decide, by decide⟩)
                        have S4 : Hid (P21 W0.heap.size cs b2 (o2 + j * 5) x.cells w4) := ⟨PA4.out.pt, rangeAt_block (hg4.block b2 (by have := PA3.out.bel.size; omega) (by have := (own_at OW3.out).1; simp; omega)) S3.out.2⟩
                        refine hK.out _ _ S4.out (fun _ => ?_)
                        simp only [Act.put, List.setIfInBounds_toArray, List.set_cons_zero, List.set_cons_succ]
                        clear hK K
                        have OW4 : Hid (w4.ownsRow W0.heap.size 111 5 (.slice (some ⟨wc.heap.size, 0, none⟩) (j + 1) ms) (j + 1) ((p.sp.take (j + 1)).flatMap Dg.cells)) := by
                          have e : (p.sp.take (j + 1)).flatMap Dg.cells = (p.sp.take j).flatMap Dg.cells ++ x.cells := flatMap_take_succ HX2.out
                          show World.ownsRow _ _ _ _ _ _ _
                          rw [e]; exact ho4
                        have hne4 : wc.heap.size ≠ h := by
                          intro e0
                          obtain ⟨_, cur, q2⟩ := own_at OW4.out
                          rw [e0, PA4.out.pa] at q2
                          simp only [Option.some.injEq, Obj.cells.injEq] at q2
                          exact absurd q2.2.1 (by decide)
                        have RR : Hid (PaAt W0 W0.heap.size cs p h (.slice (some ⟨wc.heap.size, 0, none⟩) (j + 1) ms) (.slice none 0 0) (w4.setCell ⟨h, 6, none⟩ (.slice (some ⟨wc.heap.size, 0, none⟩) (j + 1) ms)) ∧ (w4.setCell ⟨h, 6, none⟩ (.slice (some ⟨wc.heap.size, 0, none⟩) (j + 1) ms)).ownsRow W0.heap.size 111 5 (.slice (some ⟨wc.heap.size, 0, none⟩) (j + 1) ms) (j + 1) ((p.sp.take (j + 1)).flatMap Dg.cells)) := ⟨PA4.out.set6 _, own_block OW4.out (Below.heap_setCell _ _ _ _ hne4)⟩
                        clear ho4 hg4 PA3 OW3 S3
                        refine wpAnyH_take (i := 10) (oi := { dst := some 98, op := _, type := _, pos := _, after := _, guard := _ }) (v := .pointer (some ⟨h, 6, none⟩)) rfl (by kernel_rfl) (by kernel_rfl) (by kernel_rfl) (fun _ _ _ h => h) (Or.inl ⟨by rfl, fun W hW => by clear hW; go_simp⟩) S4.out ?_
                        simp only [Act.put, List.setIfInBounds_toArray, List.set_cons_zero, List.set_cons_succ]
                        refine wpAnyH_ready (rs := [11]) (by kernel_rfl) (by simp) ?_
                        refine AllReadyH.cons rfl (fun K hK => ?_) AllReadyH.nil
                        have c6 := cell_of_block PA4.out.pa (an_6 _ _ _)
                        have f6 : w4.frozen? ⟨h, 6, none⟩ = false := frozen_block PA4.out.pa
                        rw [if_pos (by rfl)]
                        go_simp
                        refine hK.out _ _ ⟨RR.out.1.pt, rangeAt_block (Below.heap_setCell _ _ _ _ (by have := RR.out.1.hle; show b2 ≠ h; omega)) S4.out.2⟩ (fun _ => ?_)
                        clear hK K c6 f6
                        refine wpAnyH_done (by kernel_rfl) ?_ _
                        go_wp2_with fail
                        go_roundw
                        case rel => exact ⟨j + 1, by omega, by simp, RR.out.1, RR.out.2⟩
                        case measure => simp [intOf]; omega
                  · obtain rfl : ms = j := by omega
                    go_wp2_with fail
                    go_meet
                    case rel => exact ⟨_, PAJ.out, ⟨fun _ => ⟨_, _, by rw [hms], readsN_own (by have := OWJ.out; rwa [List.take_of_length_le (by omega)] at this) (fun _ _ => rfl)⟩, fun hh => (by rw [hhas] at hh; cases hh)⟩, rfl⟩
            case rest =>
              obtain ⟨spV, hPA, hSP, hsp1⟩ := hcut
              have PA : Hid (PaAt W0 W0.heap.size cs p h spV (.slice none 0 0) wc) := hPA
              have SPO : Hid (SpOk wc p spV) := hSP
              have c28 : wc.cell? ⟨W0.heap.size, 28, none⟩ = some (.slice stA mt stC) := cell_of_block hPA.pt C28.out
              have hzc := hPA.bel.size
              clear hPA hSP
              go_upto_if 102 with fail
              clear c28
              go_cut [13, 14] from 56 to 142 (fun s13 s14 wx => ∃ stV, PaAt W0 W0.heap.size cs p h spV stV wx ∧ SpOk wx p spV ∧ StOk wx p stV ∧ stV.oneCell' = true)
              case first =>
                by_cases hmt0 : mt = 0
                · have hdm : decide ((0 : Int) < (mt : Int)) = false := decide_eq_false (by omega)
                  go_wp2_with fail
                  go_meet
                  case rel => exact ⟨_, PA.out, SPO.out, ⟨none, 0, by rw [hmt, hmt0], fun hL => absurd (by simp; exact List.eq_nil_of_length_eq_zero (by omega)) hL⟩, rfl⟩
                · have hdm : decide ((0 : Int) < (mt : Int)) = true := decide_eq_true (by omega)
                  have hdmN : decide (0 < mt) = true := decide_eq_true (by omega)
                  try simp only [hdm, hdmN]
                  obtain ⟨w3, hmk, hownS, hgS⟩ := run_make_own (P := Yba.prog) wc W0.heap.size 114 120 i120 smZero 43 Yba.underlying114 hi120 h120a h120b .i64 .i64 mt (by rw [h120c]; omega) (by unfold maxLen; omega) hzc
                  have c28 : wc.cell? ⟨W0.heap.size, 28, none⟩ = some (.slice stA mt stC) := cell_of_block PA.out.pt C28.out
                  have PA3 : Hid (PaAt W0 W0.heap.size cs p h spV (.slice none 0 0) w3) := PA.out.grown hgS (fun k hk => by cases hk)
                  have c27 : w3.cell? ⟨h, 27, none⟩ = some (.slice none 0 0) := cell_of_block PA3.out.pa (an_27 HXO.out _ _)
                  have f27 : w3.frozen? ⟨h, 27, none⟩ = false := frozen_block PA3.out.pa
                  have hhl : h < wc.heap.size := bk_lt PA.out.pa
                  have R0 : Hid (PaAt W0 W0.heap.size cs p h spV (.slice (some ⟨wc.heap.size, 0, none⟩) 0 mt) (w3.setCell ⟨h, 27, none⟩ (.slice (some ⟨wc.heap.size, 0, none⟩) 0 mt)) ∧ (w3.setCell ⟨h, 27, none⟩ (.slice (some ⟨wc.heap.size, 0, none⟩) 0 mt)).ownsRow W0.heap.size 120 43 (.slice (some ⟨wc.heap.size, 0, none⟩) 0 mt) 0 ((p.st.take 0).flatMap Sm.cells) ∧ SpOk (w3.setCell ⟨h, 27, none⟩ (.slice (some ⟨wc.heap.size, 0, none⟩) 0 mt)) p spV) := ⟨PA3.out.set27 HXO.out _, own_block hownS (Below.heap_setCell _ _ _ _ (by show wc.heap.size ≠ h; omega)), (SPO.out.kept (KeepN.grownNone hgS)).kept (KeepN.setCell _ PA3.out.pa (by decide))⟩
                  clear hownS hgS PA3
                  go_wp2_with fail
                  clear hmk c28 c27 f27 hdm hdmN
                  go_loopw [13] (fun i wx => ∃ (j : Nat), j ≤ mt ∧ i = .int .i64 j ∧ PaAt W0 W0.heap.size cs p h spV (.slice (some ⟨wc.heap.size, 0, none⟩) j mt) wx ∧ wx.ownsRow W0.heap.size 120 43 (.slice (some ⟨wc.heap.size, 0, none⟩) j mt) j ((p.st.take j).flatMap Sm.cells) ∧ SpOk wx p spV) (fun i _ => mt - (intOf i).toNat)
                  case atStart => exact ⟨0, by omega, rfl, R0.out.1, R0.out.2.1, R0.out.2.2⟩
                  case round =>
                    obtain ⟨j, hj, rfl, hPAj, hOWj, hSPj⟩ := hrel
                    have PAJ : Hid (PaAt W0 W0.heap.size cs p h spV (.slice (some ⟨wc.heap.size, 0, none⟩) j mt) wr) := hPAj
                    have OWJ : Hid (wr.ownsRow W0.heap.size 120 43 (.slice (some ⟨wc.heap.size, 0, none⟩) j mt) j ((p.st.take j).flatMap Sm.cells)) := hOWj
                    have SPJ : Hid (SpOk wr p spV) := hSPj
                    have c28 : wr.cell? ⟨W0.heap.size, 28, none⟩ = some (.slice stA mt stC) := cell_of_block hPAj.pt C28.out
                    clear hPAj hOWj R0 hSPj
                    by_cases hltj : j < mt
                    · have hltj' : (j : Int) < (mt : Int) := by omega
                      obtain ⟨x, hx⟩ : ∃ x, p.st[j]? = some x := ⟨p.st[j], List.getElem?_eq_getElem (by omega)⟩
                      have HX2 : Hid _ := hx
                      have HXO2 : Hid x.Ok := HXO.out.st x (List.mem_of_getElem? hx)
                      obtain ⟨b2, o2, rfl, hfx, hrd⟩ := HST.out (map_ne (by omega))
                      have hb2 : b2 < w.heap.size := hfx.1
                      have hW0 := HBL.out.size
                      have HRd2 : Hid (wr.rangeAt b2 (o2 + j * 43) x.cells) := rangeAt_block (by rw [PAJ.out.bel.block b2 (by omega), HBL.out.block b2 hb2]) (hrd j x.cells (by simp [hx]))
                      have HXL : Hid (x.cells.length = 43) := HXO2.out.length_cells
                      clear hx hfx hrd
                      have c27 : (wr.alloc (.cells x.cells.toArray 118)).cell? ⟨h, 27, none⟩ = some (.slice (some ⟨wc.heap.size, 0, none⟩) j mt) := cell_of_block (PAJ.out.alloc _).pa (an_27 HXO.out _ _)
                      have s20 := sm_t HXO2.out
                      have s41 := sm_del HXO2.out
                      have s42 := sm_size HXO2.out
                      have d20 : (wr.alloc (.cells x.cells.toArray 118)).cell? ⟨wr.heap.size, 20, none⟩ = some (.int .u64 x.t) := cell_of_block (heap_alloc_new _ _) s20
                      have d41 : (wr.alloc (.cells x.cells.toArray 118)).cell? ⟨wr.heap.size, 41, none⟩ = some (.bool x.del) := cell_of_block (heap_alloc_new _ _) s41
                      have d42 : (wr.alloc (.cells x.cells.toArray 118)).cell? ⟨wr.heap.size, 42, none⟩ = some (.int .i64 x.size) := cell_of_block (heap_alloc_new _ _) s42
                      go_wp2_with (first
                        | (refine wpList_load_mid rfl 118 (.tmp 118) rfl b2 (o2 + j * 43) rfl x.cells _ HRd2.out Yba.underlying118 rfl (by rw [sz118, HXL.out]) ?_; simp only [Act.put, List.setIfInBounds_toArray, List.set_cons_zero, List.set_cons_succ])
                        | (refine wpList_alloc_store rfl rfl 118 14 (.tmp 119) rfl rfl rfl rfl smZero 43 info118 rfl x.cells.toArray (by simpa using HXL.out) (all_oneCell_toArray HXO2.out.one) rfl rfl ?_; simp only [Act.put, List.setIfInBounds_toArray, List.set_cons_zero, List.set_cons_succ])
                        | (refine wpList_load_mid rfl 25 (.tmp 122) rfl wr.heap.size 0 rfl x.id _ (range_of_block (heap_alloc_new _ _) (sm_id x)) Yba.underlying25 rfl (by rw [sz25, HXO2.out.id.len]) ?_; simp only [Act.put, List.setIfInBounds_toArray, List.set_cons_zero, List.set_cons_succ])
                        | (refine wpList_load_mid rfl 25 (.tmp 126) rfl wr.heap.size 21 rfl x.node _ (range_of_block (heap_alloc_new _ _) (sm_node HXO2.out)) Yba.underlying25 rfl (by rw [sz25, HXO2.out.node.len]) ?_; simp only [Act.put, List.setIfInBounds_toArray, List.set_cons_zero, List.set_cons_succ])
                        | (refine wpList_build2 rfl 32 (.tmp 125) (.tmp 127) rfl (.int .u64 x.t) (.agg x.node.toArray) rfl rfl (.int .u64 x.t :: x.node).toArray (by exact built32 x.t x.node HXO2.out.node.len) ?_; simp only [Act.put, List.setIfInBounds_toArray, List.set_cons_zero, List.set_cons_succ])
                        | (refine wpList_build4 rfl 120 (.tmp 123) (.tmp 128) (.tmp 130) (.tmp 132) rfl (.agg x.id.toArray) (.agg (.int .u64 x.t :: x.node).toArray) (.bool x.del) (.int .i64 x.size) rfl rfl rfl rfl x.cells.toArray (by exact built120 x HXO2.out) ?_; simp only [Act.put, List.setIfInBounds_toArray, List.set_cons_zero, List.set_cons_succ])
                        | (refine wpList_buildSlice_one rfl 114 120 (.tmp 133) rfl i120 smZero 43 Yba.underlying114 hi120 h120a h120b (by decide) (by decide) x.cells HXL.out rfl ?_; simp only [Act.put, List.setIfInBounds_toArray, List.set_cons_zero, List.set_cons_succ])
                        | (at_builtin; refine wpList_append_fits _ rfl (.tmp 121) (.tmp 134) 114 rfl W0.heap.size 120 i120 43 Yba.underlying114 hi120 h120b wc.heap.size j mt ((p.st.take j).flatMap Sm.cells) rfl (World.ownsRow.alloc (World.ownsRow.alloc OWJ.out _) _) ⟨_, 0, none⟩ 1 1 x.cells rfl (by rw [HXL.out]) (news_at rfl _ _ rfl 120) HXO2.out.one (by omega) ?_; intro w4 ho4 hg4; have PA4 : Hid (PaAt W0 W0.heap.size cs p h spV (.slice (some ⟨wc.heap.size, 0, none⟩) j mt) w4) := ((PAJ.out.alloc _).alloc _).grown hg4 (fun k hk => by cases hk; obtain ⟨q1, cur, q2⟩ := own_at (World.ownsRow.alloc (World.ownsRow.alloc OWJ.out _) _); exact ⟨q1, cur, 120, q2, by decide, by decide⟩); have SP4 : Hid (SpOk w4 p spV) := ((SPJ.out.kept (KeepN.alloc _ _)).kept (KeepN.alloc _ _)).grown hg4 (own_at (World.ownsRow.alloc (World.ownsRow.alloc OWJ.out _) _)).2.choose_spec (by decide); have c27' : w4.cell? ⟨h, 27, none⟩ = some (.slice (some ⟨wc.heap.size, 0, none⟩) j mt) := cell_of_block PA4.out.pa (an_27 HXO.out _ _); have f27 : w4.frozen? ⟨h, 27, none⟩ = false := frozen_block PA4.out.pa; clear hg4))
                      have OW4 : Hid (w4.ownsRow W0.heap.size 120 43 (.slice (some ⟨wc.heap.size, 0, none⟩) (j + 1) mt) (j + 1) ((p.st.take (j + 1)).flatMap Sm.cells)) := by
                        have e : (p.st.take (j + 1)).flatMap Sm.cells = (p.st.take j).flatMap Sm.cells ++ x.cells := flatMap_take_succ HX2.out
                        show World.ownsRow _ _ _ _ _ _ _
                        rw [e]; exact ho4
                      have hne4 : wc.heap.size ≠ h := by
                        intro e0
                        obtain ⟨_, cur, q2⟩ := own_at OW4.out
                        rw [e0, PA4.out.pa] at q2
                        simp only [Option.some.injEq, Obj.cells.injEq] at q2
                        exact absurd q2.2.1 (by decide)
                      have RR : Hid (PaAt W0 W0.heap.size cs p h spV (.slice (some ⟨wc.heap.size, 0, none⟩) (j + 1) mt) (w4.setCell ⟨h, 27, none⟩ (.slice (some ⟨wc.heap.size, 0, none⟩) (j + 1) mt)) ∧ (w4.setCell ⟨h, 27, none⟩ (.slice (some ⟨wc.heap.size, 0, none⟩) (j + 1) mt)).ownsRow W0.heap.size 120 43 (.slice (some ⟨wc.heap.size, 0, none⟩) (j + 1) mt) (j + 1) ((p.st.take (j + 1)).flatMap Sm.cells) ∧ SpOk (w4.setCell ⟨h, 27, none⟩ (.slice (some ⟨wc.heap.size, 0, none⟩) (j + 1) mt)) p spV) := ⟨PA4.out.set27 HXO.out _, own_block OW4.out (Below.heap_setCell _ _ _ _ hne4), SP4.out.kept (KeepN.setCell _ PA4.out.pa (by decide))⟩
                      clear ho4 c27' f27 c27 d20 d41 d42 s20 s41 s42 c28
                      go_roundw
                      case rel => exact ⟨j + 1, by omega, by simp, RR.out.1, RR.out.2.1, RR.out.2.2⟩
                      case measure => simp [intOf]; omega
                    · obtain rfl : mt = j := by omega
                      go_wp2_with fail
                      go_meet
                      case rel => exact ⟨_, PAJ.out, SPJ.out, ⟨_, _, by rw [hmt], readsN_own (by have := OWJ.out; rwa [List.take_of_length_le (by omega)] at this) (fun y hy => (HXO.out.st y hy).length_cells)⟩, rfl⟩
              case rest =>
                obtain ⟨stV, hPA, hSP, hST2, hst1⟩ := hcut
                have PA : Hid (PaAt W0 W0.heap.size cs p h spV stV wc) := hPA
                have SPO : Hid (SpOk wc p spV) := hSP
                have STO : Hid (StOk wc p stV) := hST2
                have hGP : w.heap.size + 1 < W0.heap.size := by obtain ⟨_, cur, q⟩ := own_at HOW.out; exact bk_lt q
                have hzc := hPA.bel.size
                have c8 : wc.cell? ⟨w.heap.size, 1, none⟩ = some (.slice (some ⟨w.heap.size + 1, 0, none⟩) k n) := by
                  have e : wc.heap[w.heap.size]? = some (.cells [.int .i64 room, .slice (some ⟨w.heap.size + 1, 0, none⟩) k n].toArray 110 (0, 0)) := by rw [hPA.bel.block _ hz8]; exact HG8.out
                  exact cell_of_block e rfl
                have OWc : Hid ((wc.alloc (.cells (anCells p spV stV).toArray 116)).ownsRow w.heap.size 116 28 (.slice (some ⟨w.heap.size + 1, 0, none⟩) k n) k (rows.flatMap id)) := World.ownsRow.alloc (own_block HOW.out (hPA.bel.block _ hGP)) _
                have HAL : Hid ((anCells p spV stV).length = 28) := len_anCells HXO.out _ _
                have HA1 : Hid (∀ u ∈ (anCells p spV stV), u.oneCell' = true) := one_anCells HXO.out hsp1 hst1
                have G8c : Hid ((wc.alloc (.cells (anCells p spV stV).toArray 116)).heap[w.heap.size]? = some (.cells [.int .i64 room, .slice (some ⟨w.heap.size + 1, 0, none⟩) k n].toArray 110 (0, 0))) := kept_alloc (by rw [hPA.bel.block _ hz8]; exact HG8.out)
                clear hPA hSP hST2
                go_wp2_with (first
                  | (refine wpList_load_mid rfl 116 (.tmp 11) rfl h 0 rfl (anCells p spV stV) _ (range_of_block PA.out.pa (fun j u hu => by rw [Nat.zero_add]; exact hu)) Yba.underlying116 rfl (by rw [sz116, HAL.out]) ?_; simp only [Act.put, List.setIfInBounds_toArray, List.set_cons_zero, List.set_cons_succ])
                  | (refine wpList_buildSlice_one rfl 108 116 (.tmp 139) rfl i116 anZero 28 Yba.underlying108 hi116 h116a h116b (by decide) (by decide) (anCells p spV stV) HAL.out rfl ?_; simp only [Act.put, List.setIfInBounds_toArray, List.set_cons_zero, List.set_cons_succ])
                  | (at_builtin; refine wpList_append_fits _ rfl (.tmp 138) (.tmp 140) 108 rfl w.heap.size 116 i116 28 Yba.underlying108 hi116 h116b (w.heap.size + 1) k n (rows.flatMap id) rfl OWc.out ⟨_, 0, none⟩ 1 1 (anCells p spV stV) rfl (by rw [HAL.out]) (news_at rfl _ _ rfl 116) HA1.out (by omega) ?_; intro w4 ho4 hg4; have G84 : Hid (w4.heap[w.heap.size]? = some (.cells [.int .i64 room, .slice (some ⟨w.heap.size + 1, 0, none⟩) k n].toArray 110 (0, 0))) := (by show _ = _; rw [hg4.block _ (bk_lt G8c.out) (by simp)]; exact G8c.out); have c8' : w4.cell? ⟨w.heap.size, 1, none⟩ = some (.slice (some ⟨w.heap.size + 1, 0, none⟩) k n) := cell_of_block G84.out rfl; have f8 : w4.frozen? ⟨w.heap.size, 1, none⟩ = false := frozen_block G84.out; have HG4 : Hid _ := hg4; have HO4 : Hid _ := ho4; clear hg4 ho4))
                have RR : Hid (RelB w room n ps (.int .i64 ((k : Int) + 1)) (w4.setCell ⟨w.heap.size, 1, none⟩ (.slice (some ⟨w.heap.size + 1, 0, none⟩) (k + 1) n))) := by
                  have hgp : wc.heap[w.heap.size + 1]? = W0.heap[w.heap.size + 1]? := PA.out.bel.block _ hGP
                  obtain ⟨_, curP, hcP⟩ := own_at OWc.out
                  have kp4 : KeepN wc (w4.setCell ⟨w.heap.size, 1, none⟩ (.slice (some ⟨w.heap.size + 1, 0, none⟩) (k + 1) n)) := ((KeepN.alloc _ _).trans (KeepN.grown HG4.out hcP (by decide))).trans (KeepN.setCell _ G84.out (by decide))
                  have kp : KeepN W0 (w4.setCell ⟨w.heap.size, 1, none⟩ (.slice (some ⟨w.heap.size + 1, 0, none⟩) (k + 1) n)) := (KeepN.below PA.out.bel).trans kp4
                  refine ⟨k + 1, rows ++ [(anCells p spV stV)], by omega, by simp, by simp [hrl], ?_, ?_, ?_, ?_, ?_⟩
                  · intro c hc
                    rcases List.mem_append.1 hc with hc | hc
                    · exact HR28.out c hc
                    · rw [List.mem_singleton.1 hc]; exact HAL.out
                  · intro i c q hi hq
                    by_cases hik : i < rows.length
                    · rw [List.getElem?_append_left hik] at hi
                      exact (HRW.out i c q hi hq).kept kp
                    · obtain rfl : i = k := by
                        have := (List.getElem?_eq_some_iff.1 hi).1
                        simp at this
                        omega
                      rw [List.getElem?_append_right (by omega), hrl, Nat.sub_self] at hi
                      obtain rfl : (anCells p spV stV) = c := by simpa using hi
                      obtain rfl : p = q := by have := HPK.out; rw [this] at hq; exact Option.some.inj hq
                      exact ⟨spV, stV, rfl, SPO.out.kept kp4, STO.out.kept kp4⟩
                  · have e : (rows ++ [(anCells p spV stV)]).flatMap id = rows.flatMap id ++ (anCells p spV stV) := by simp
                    rw [e]
                    exact own_block HO4.out (Below.heap_setCell _ _ _ _ (by simp))
                  · exact setCell_same (cs := [.int .i64 room, .slice (some ⟨w.heap.size + 1, 0, none⟩) k n]) _ G84.out
                  · have hB1 := HBL.out
                    have hB2 : Below w.heap.size w wc := hB1.trans (PA.out.bel.mono hB1.size)
                    exact ((hB2.alloc hB2.size _).grown HG4.out (by have := hB2.size; simp; omega) (fun j hj => by cases hj; omega)).setCell (Nat.le_refl _) _
                clear c8 c8' f8
                go_roundw
                case rel => exact RR.out
                case measure => simp [intOf]; omega
        · obtain rfl : n = k := by omega
          have BLW : Hid (Below w.heap.size w W0) := HBL.out
          have G8W : Hid (W0.heap[w.heap.size]? = some (.cells [.int .i64 room, .slice (some ⟨w.heap.size + 1, 0, none⟩) n n].toArray 110 (0, 0))) := HG8.out
          have RAW : Hid (RowsAt (AnRow w.heap.size) w.heap.size W0 (some ⟨w.heap.size + 1, 0, none⟩) 28 ps) := by
            intro _
            obtain ⟨hg1, cur, hg2⟩ := own_at HOW.out
            refine ⟨w.heap.size + 1, 0, rfl, ⟨bk_lt hg2, Or.inr ⟨cur, 116, (0, 0), hg2, by decide⟩⟩, fun i p hp => ?_⟩
            have hi : i < rows.length := by have := (List.getElem?_eq_some_iff.1 hp).1; omega
            have hrw : rows[i]? = some rows[i] := List.getElem?_eq_getElem hi
            refine ⟨rows[i], (HRW.out i _ p hrw hp).row, fun j u hu => ?_⟩
            have hc := HOW.out.cells (g := w.heap.size + 1) rfl (i * 28 + j) u (flatMap_get (f := id) rows HR28.out i _ j u hrw hu)
            rw [Addr.add_mid] at hc
            rw [Nat.add_assoc]; exact hc
          have hBz := BLW.out.size
          have NIL5 : Hid (W0.ownsRow w.heap.size 5 1 (.slice none 0 0) ([] : List Value).length []) := World.ownsRow_nil W0 w.heap.size 5 1
          go_wp2_with (at_builtin; refine wpList_append_pre rfl _ (.tmp 143) rfl (HZ.out.below BLW.out) (by omega) hBz cap0 rfl rfl hzl ?_; intro v1 w1 hA1; have A1 : Hid (App w.heap.size 5 W0 (.slice none 0 0) [] w1 v1 (zV zs)) := hA1; have G1 : Hid (w1.heap[w.heap.size]? = some (.cells [.int .i64 room, .slice (some ⟨w.heap.size + 1, 0, none⟩) n n].toArray 110 (0, 0))) := App.other NIL5.out hA1 G8W.out (by decide); have BL1 : Hid (Below w.heap.size w w1) := App.below NIL5.out hA1 BLW.out hBz; have R1 : Hid (RowsAt (AnRow w.heap.size) w.heap.size w1 (some ⟨w.heap.size + 1, 0, none⟩) 28 ps) := RowsAt.app NIL5.out hA1 (fun p cs hh => AnRow.app NIL5.out hA1 hh) RAW.out; have d0 : w1.cell? ⟨w.heap.size, 0, none⟩ = some (.int .i64 room) := cell_of_block G1.out rfl; have d1 : w1.cell? ⟨w.heap.size, 1, none⟩ = some (.slice (some ⟨w.heap.size + 1, 0, none⟩) n n) := cell_of_block G1.out rfl; clear hA1)
          clear d0 d1
          have hB1 := BL1.out.size
          have hps1 : ps.length = n := hne
          have CT14 := answer14 w.heap.size v1 (zV zs) room (some ⟨w.heap.size + 1, 0, none⟩) n ps HP.out (by omega) w1 A1.out.own (by simp; omega) hB1 R1.out
          rw [hps1] at CT14
          refine CT14.mono ?_
          clear CT14
          rintro e w2 ⟨v2, rfl, hA2⟩
          have A2 : Hid (App w.heap.size 5 w1 v1 (zV zs) w2 v2 (zV zs ++ encAns room ps)) := hA2
          have BL2 : Hid (Below w.heap.size w w2) := App.below A1.out.own hA2 BL1.out hB1
          have hB2 := BL2.out.size
          have NIL2 : Hid (w2.ownsRow w.heap.size 5 1 (.slice none 0 0) ([] : List Value).length []) := World.ownsRow_nil w2 w.heap.size 5 1
          clear hA2
          go_wp2_with (at_builtin; refine wpList_append_pre rfl _ (.tmp 148) rfl (HZ.out.below BL2.out) (by omega) hB2 cap0 rfl rfl hzl ?_; intro v3 w3 hA3; have A3 : Hid (App w.heap.size 5 w2 (.slice none 0 0) [] w3 v3 (zV zs)) := hA3; have BL3 : Hid (Below w.heap.size w w3) := App.below NIL2.out hA3 BL2.out hB2; have hB3 := BL3.out.size; clear hA3)
          have CT15 := model15 w.heap.size v3 (zV zs) room _ cap2 ps HP.out (by omega) w3 A3.out.own (by simp; omega) hB3 (rows_below HR.out BL3.out)
          rw [hps1] at CT15
          refine CT15.mono ?_
          clear CT15
          rintro e w4 ⟨v4, rfl, hA4⟩
          have A4 : Hid (App w.heap.size 5 w3 v3 (zV zs) w4 v4 (zV zs ++ encAns room ps)) := hA4
          have BL4 : Hid (Below w.heap.size w w4) := App.below A3.out.own hA4 BL3.out hB3
          clear hA4
          have KEEP : Hid (∀ g, g < w2.heap.size → w4.heap[g]? = w2.heap[g]?) := by
            intro g hg
            have h3 : w3.heap[g]? = w2.heap[g]? := A3.out.grown.block g hg (by simp [Value.ownBlock])
            rw [A4.out.grown.block g (Nat.lt_of_lt_of_le hg A3.out.grown.size) (fun e0 => by
              rcases A3.out.loc with hl | ⟨k', hk', hle⟩
              · rw [hl] at e0; simp [Value.ownBlock] at e0
              · rw [hk'] at e0; have := Option.some.inj e0; omega), h3]
          have OW2 : Hid (w4.ownsRow w.heap.size 5 1 v2 (zV zs ++ encAns room ps).length (zV zs ++ encAns room ps)) := own_keep A2.out.own (fun g hg => KEEP.out g (own_lt A2.out.own hg).2.1)
          have hE : zV zs ++ encAns room ps = zV (zs ++ (encAns room ps).map intOf) := by
            conv => lhs; rw [(allB_ans HP.out : AllB (encAns room ps)).ints]
            simp [zV]
          have cv2 : (convert 23 9 v2).run Yba.prog w4 = .ok (.string (strOfNums (zs ++ (encAns room ps).map intOf))) w4 := conv_own (B := w.heap.size) (by rw [← hE]; exact OW2.out)
          have cv4 : (convert 23 9 v4).run Yba.prog w4 = .ok (.string (strOfNums (zs ++ (encAns room ps).map intOf))) w4 := conv_own (B := w.heap.size) (by rw [← hE]; exact A4.out.own)
          have cv0 : (convert 23 9 (.slice a0 n0 cap0)).run Yba.prog w4 = .ok (.string (strOfNums zs)) w4 := by
            have := (HZ.out.below BL4.out).conv cap0
            rw [hzl] at this; exact this
          have cv1 : (convert 23 9 v1).run Yba.prog w4 = .ok (.string (strOfNums zs)) w4 := by
            rcases A1.out.own.2 with ⟨h0, h1⟩ | ⟨g, cap, cur, h0, hb, hg, hr⟩
            · have : zs = [] := List.eq_nil_of_length_eq_zero (by simpa using h1)
              rw [h0, this]
              exact run_convert_bytes_nil w4 23 5 Yba.underlying23 Yba.underlying5 0 0 9 Yba.underlying9
            · have hgb : v1.ownBlock = some g := by rw [h0]; rfl
              have hc := A1.out.own.cells (g := g) hgb
              have hlt := (own_lt A1.out.own hgb).2.1
              rw [h0]
              refine conv_cells (by simp) (fun j u hu => ?_)
              have hj := (List.getElem?_eq_some_iff.1 hu).1
              have e1 := hc j u hu
              rw [Addr.add_mid, Nat.zero_add] at e1
              rw [Nat.zero_add, World.cell?_of_block (w := w2) (KEEP.out g (Nat.lt_of_lt_of_le hlt A2.out.grown.size)), A2.out.keep g hgb j hj]
              exact e1
          clear hE
          have CV2 : Hid _ := cv2
          have CV4 : Hid _ := cv4
          have CV0 : Hid _ := cv0
          have CV1 : Hid _ := cv1
          clear cv2 cv4 cv0 cv1
          go_wp2_with fail
          refine (equal_same _ _ _ _ CV1.out CV0.out).mono ?_
          rintro e w5 ⟨rfl, rfl⟩
          go_wp2_with fail
          refine (equal_same _ _ _ _ CV2.out CV4.out).mono ?_
          rintro e w5 ⟨rfl, rfl⟩
          go_wp2_with fail
          go_ret
          exact ⟨rfl, BL4.out⟩
end Go.Proofs.Ybulkdfdc
