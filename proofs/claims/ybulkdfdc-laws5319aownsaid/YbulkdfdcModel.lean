import Derived.Test.YbulkdfdcPart
namespace Go.Proofs.Ybulkdfdc
open Go.ChangeShapes Go.WideShapes Go.ChangeAt Go.RowKit
set_option linter.unusedVariables false
set_option linter.unusedSimpArgs false

theorem sm_id (x : Sm) : ∀ j u, x.id[j]? = some u → x.cells[0 + j]? = some u := fun j u hu => by
  rw [Nat.zero_add, Sm.cells, List.getElem?_append_left (List.getElem?_eq_some_iff.1 hu).1]
  exact hu
theorem sm_t {x : Sm} (hx : x.Ok) : x.cells[20]? = some (.int .u64 x.t) := by
  rw [Sm.cells, List.getElem?_append_right (by rw [hx.id.len]; omega), hx.id.len]; rfl
theorem sm_node {x : Sm} (hx : x.Ok) : ∀ j u, x.node[j]? = some u → x.cells[21 + j]? = some u := fun j u hu => by
  rw [Sm.cells, List.getElem?_append_right (by rw [hx.id.len]; omega), hx.id.len]
  have : 21 + j - 20 = j + 1 := by omega
  rw [this, List.getElem?_cons_succ, List.getElem?_append_left (List.getElem?_eq_some_iff.1 hu).1]
  exact hu
theorem sm_del {x : Sm} (hx : x.Ok) : x.cells[41]? = some (.bool x.del) := by
  rw [Sm.cells, List.getElem?_append_right (by rw [hx.id.len]; omega), hx.id.len]
  show (Value.int .u64 x.t :: (x.node ++ [.bool x.del, .int .i64 x.size]))[20 + 1]? = _
  rw [List.getElem?_cons_succ, List.getElem?_append_right (by rw [hx.node.len]; omega), hx.node.len]
  rfl
theorem sm_size {x : Sm} (hx : x.Ok) : x.cells[42]? = some (.int .i64 x.size) := by
  rw [Sm.cells, List.getElem?_append_right (by rw [hx.id.len]; omega), hx.id.len]
  show (Value.int .u64 x.t :: (x.node ++ [.bool x.del, .int .i64 x.size]))[21 + 1]? = _
  rw [List.getElem?_cons_succ, List.getElem?_append_right (by rw [hx.node.len]; omega), hx.node.len]
  rfl

theorem pt_0 (p : Pt) (a b : Value) : (ptCells p a b)[0]? = some (.bool p.ins) := rfl
theorem pt_1 (p : Pt) (a b : Value) : (ptCells p a b)[1]? = some (.bool p.has) := rfl
theorem pt_7 (p : Pt) (a b : Value) : (ptCells p a b)[7]? = some a := rfl
theorem pt_dg (p : Pt) (a b : Value) : ∀ j u, p.dg.cells[j]? = some u → (ptCells p a b)[2 + j]? = some u := fun j u hu => by
  rw [Nat.add_comm, pt_an, Nat.add_comm]; exact an_dg p a b j u hu
theorem pt_th (p : Pt) (a b : Value) : ∀ j u, p.th[j]? = some u → (ptCells p a b)[8 + j]? = some u := fun j u hu => by
  have e : 8 + j = (6 + j) + 2 := by omega
  have e2 : 6 + j + 1 = 7 + j := by omega
  rw [e, pt_an, e2]; exact an_th p a b j u hu
theorem pt_28 {p : Pt} (h : p.Ok) (a b : Value) : (ptCells p a b)[28]? = some b := by
  rw [show 28 = 26 + 2 from rfl, pt_an]; exact an_27 h a b

/-- ONE STAMP of the model. -/
def Sm.enc2 (x : Sm) : List Value := x.id ++ bytesBE 8 x.t ++ x.node ++ [flagV x.del] ++ bytesBE 4 (IntKind.u64.wrap x.size)
theorem Sm.enc2_eq (x : Sm) : x.enc2 = x.enc := by simp [Sm.enc, Sm.enc2]

set_option maxRecDepth 20000 in
set_option maxHeartbeats 4000000 in
theorem model15 (B : Nat) (v : Value) (xs : List Value) (room : Int) (a : Option Addr) (cap : Nat) (ps : List Pt) (hps : ∀ p ∈ ps, p.Ok) (hn : ps.length ≤ 1024) (w : World) (hown : w.ownsRow B 5 1 v xs.length xs) (hlen : xs.length ≤ 1000000) (hB : B ≤ w.heap.size)
    (hR : RowsAt (PtRow B) B w a 29 ps) :
    Calls Yba.prog 15 #[v, .int .i64 room, .slice a ps.length cap] w fun e w' => ∃ v', e = .returned v' ∧ App B 5 w v xs w' v' (xs ++ encAns room ps) := by
  obtain ⟨i5, hi5, h5a, h5b, h5c⟩ := info_parts inf5
  have HO : Hid _ := hown
  have HP : Hid _ := hps
  have HR : Hid (RowsAt (PtRow B) B w a 29 ps) := hR
  clear hown hps hR
  obtain ⟨n, hne⟩ : ∃ n, ps.length = n := ⟨_, rfl⟩
  rw [hne] at hn ⊢
  go_enter Yba.func15, Yba.ntmps15
  go_wp2_with fail
  refine (put25 B v xs _ 8 (Or.inl rfl) _ HO.out (by omega) hB (wrap64 room).1 (wrap64 room).2).mono ?_
  rintro e w1 ⟨v1, rfl, hA⟩
  have H1 : Hid _ := hA
  have hz1 := H1.out.grown.size
  clear hA
  go_wp2_with fail
  refine (put25 B v1 _ (n : Int) 4 (Or.inr rfl) w1 H1.out.own (by simp; omega) (by omega) (by omega) (by omega)).mono ?_
  rintro e w2 ⟨v2, rfl, hA⟩
  have H2 : Hid _ := App.next HO.out H1.out hA
  have hz2 := H2.out.grown.size
  clear hA H1 hz1
  go_wp2_with fail
  obtain ⟨hd, hhd⟩ : ∃ hd, hd = bytesBE 8 (IntKind.u64.wrap room) ++ bytesBE 4 (n : Int) := ⟨_, rfl⟩
  have hdl : hd.length = 12 := by rw [hhd]; simp
  have HHD : Hid _ := hhd
  clear hhd
  go_loopw [0, 7] (fun vv i wr => ∃ (k : Nat), k ≤ n ∧ i = .int .i64 k ∧ App B 5 w v xs wr vv (xs ++ (hd ++ (ps.take k).flatMap Pt.enc))) (fun _ i _ => n - (intOf i).toNat)
  case atStart => exact ⟨0, by omega, rfl, by rw [HHD.out]; simpa using H2.out⟩
  case round =>
    obtain ⟨k, hk, rfl, hA⟩ := hrel
    have HA : Hid (App B 5 w v xs wr u0 (xs ++ (hd ++ (ps.take k).flatMap Pt.enc))) := hA
    have hz := hA.grown.size
    have hlk := len_pts_take HP.out k
    rw [hne] at hlk
    clear hA hz2 H2
    by_cases hlt : k < n
    · have hlt' : (k : Int) < (n : Int) := by omega
      obtain ⟨p, hp⟩ : ∃ p, ps[k]? = some p := ⟨ps[k], List.getElem?_eq_getElem (by omega)⟩
      have HX : Hid _ := hp
      have hpo : p.Ok := HP.out p (List.mem_of_getElem? hp)
      obtain ⟨b, o, rfl, hfx, hrd⟩ := RowsAt.app HO.out HA.out (fun p cs h => PtRow.app HO.out HA.out h) HR.out (by intro h0; rw [h0] at hne; simp at hne; omega)
      obtain ⟨cs, ⟨spA, spC, stA, stC, rfl, hsp, hst⟩, hcs⟩ := hrd k p hp
      obtain ⟨ms, hms⟩ : ∃ ms, p.sp.length = ms := ⟨_, rfl⟩
      obtain ⟨mt, hmt⟩ : ∃ mt, p.st.length = mt := ⟨_, rfl⟩
      rw [hms, hmt] at hcs
      have hmsn : ms ≤ 1024 := by have := hpo.spn; omega
      have hmtn : mt ≤ 1024 := by have := hpo.stn; omega
      obtain ⟨cs, hcse⟩ : ∃ cs, cs = ptCells p (.slice spA ms spC) (.slice stA mt stC) := ⟨_, rfl⟩
      rw [← hcse] at hcs
      have HCS : Hid _ := hcse
      have HRd : Hid (wr.rangeAt b (o + k * 29) cs) := hcs
      have HXO : Hid _ := hpo
      have HCL : Hid (cs.length = 29) := by rw [hcse]; exact len_ptCells hpo _ _
      have HC1 : Hid (∀ u ∈ cs, u.oneCell' = true) := by rw [hcse]; exact one_ptCells hpo rfl rfl
      have HSP : Hid (Reads B wr spA 5 (p.sp.map Dg.cells)) := hsp
      have HST : Hid (Reads B wr stA 43 (p.st.map Sm.cells)) := hst
      obtain ⟨ys, hys⟩ : ∃ ys, ys = xs ++ (hd ++ (ps.take k).flatMap Pt.enc) := ⟨_, rfl⟩
      have hyl : ys.length ≤ 100000000 := by rw [hys]; simp only [List.length_append]; omega
      have HY : Hid (wr.ownsRow B 5 1 u0 ys.length ys) := by rw [hys]; exact HA.out.own
      have FIN : Hid (∀ w' v', App B 5 wr u0 ys w' v' (ys ++ p.enc) → App B 5 w v xs w' v' (xs ++ (hd ++ (ps.take (k + 1)).flatMap Pt.enc))) := by
        intro w' v' h
        rw [hys] at h
        rw [flatMap_take_succ hp]
        have := App.trans HO.out HA.out h
        simpa [List.append_assoc] using this
      have C0 : Hid (cs[0]? = some (.bool p.ins)) := by rw [hcse]; exact pt_0 _ _ _
      have C1 : Hid (cs[1]? = some (.bool p.has)) := by rw [hcse]; exact pt_1 _ _ _
      have C2 : Hid (∀ j u, p.dg.cells[j]? = some u → cs[2 + j]? = some u) := by rw [hcse]; exact pt_dg _ _ _
      have C7 : Hid (cs[7]? = some (.slice spA ms spC)) := by rw [hcse]; exact pt_7 _ _ _
      have C8 : Hid (∀ j u, p.th[j]? = some u → cs[8 + j]? = some u) := by rw [hcse]; exact pt_th _ _ _
      have C28 : Hid (cs[28]? = some (.slice stA mt stC)) := by rw [hcse]; exact pt_28 hpo _ _
      clear hp hpo hfx hrd hcs hsp hst hys HA hcse HCS
      have cc : (wr.alloc (.cells cs.toArray 107)).cell? ⟨wr.heap.size, 0, none⟩ = some (.bool p.ins) := cell_of_block (heap_alloc_new _ _) C0.out
      go_wp2_with (first
        | (refine wpList_load_mid rfl 107 (.tmp 29) rfl b (o + k * 29) rfl cs _ HRd.out Yba.underlying107 rfl (by rw [sz107, HCL.out]) ?_)
        | (refine wpList_alloc_store rfl rfl 107 8 (.tmp 30) rfl rfl rfl rfl ptZero 29 info107 rfl cs.toArray (by simpa using HCL.out) (all_oneCell_toArray HC1.out) rfl rfl ?_))
      clear cc
      refine (flag26 B u0 ys p.ins _ (World.ownsRow.alloc HY.out _) (by omega) (by simp; omega)).mono ?_
      rintro e w3 ⟨v3, rfl, hA⟩
      have H3 : Hid (App B 5 wr u0 ys w3 v3 (ys ++ [flagV p.ins])) := App.behind HY.out hA
      have HG3 : Hid _ := App.other (World.ownsRow.alloc HY.out _) hA (heap_alloc_new _ _) (by decide)
      have hz3 := H3.out.grown.size
      have c0 : w3.cell? ⟨wr.heap.size, 0, none⟩ = some (.bool p.ins) := cell_of_block HG3.out C0.out
      clear hA
      rcases hins : p.ins with _ | _
      · rw [hins] at c0
        go_wp2_with (refine wpList_load_mid rfl 103 (.tmp 38) rfl wr.heap.size 2 rfl p.dg.cells _ (range_of_block HG3.out C2.out) Yba.underlying103 rfl (by rw [sz103]; rfl) ?_)
        clear c0
        refine (dig27 B v3 _ p.dg HXO.out.dg w3 H3.out.own (by simp; omega) (by omega)).mono ?_
        rintro e w4 ⟨v4, rfl, hA⟩
        have H4 : Hid _ := App.next HY.out H3.out hA
        have HG4 : Hid _ := App.other H3.out.own hA HG3.out (by decide)
        have hz4 := H4.out.grown.size
        have c1 : w4.cell? ⟨wr.heap.size, 1, none⟩ = some (.bool p.has) := cell_of_block HG4.out C1.out
        clear hA H3 HG3 hz3
        rcases hhas : p.has with _ | _
        · rw [hhas] at c1
          go_wp2_with (first
            | (at_builtin; refine wpList_append_app _ rfl _ _ 23 rfl B 5 i5 (.int .u8 0) 1 Yba.underlying23 hi5 h5a h5b h5c rfl v4 _ rfl (World.ownsRow.alloc H4.out.own _) ⟨w4.heap.size, 0, none⟩ 1 1 [.int .u8 0] rfl rfl (news_at rfl _ _ rfl 5) (by simp [Value.oneCell']) (by simp; unfold maxLen; omega) (by simp; omega) (by simp; omega) ?_; intro v5 w5 hA; have H5 : Hid _ := App.next HY.out H4.out (App.behind H4.out.own hA); have HG5 : Hid _ := App.other (World.ownsRow.alloc H4.out.own _) hA (kept_alloc HG4.out) (by decide); have hz5 := H5.out.grown.size; clear hA)
            | (refine wpList_load_mid rfl 25 (.tmp 64) rfl wr.heap.size 8 rfl p.th _ (range_of_block HG5.out C8.out) Yba.underlying25 rfl (by rw [sz25, HXO.out.th.len]) ?_))
          clear c1 H4 HG4 hz4
          have hthl := HXO.out.th.len
          refine (bytes28 B v5 _ p.th HXO.out.th w5 H5.out.own (by simp; omega) (by omega)).mono ?_
          rintro e w6 ⟨v6, rfl, hA⟩
          have H6 : Hid _ := App.next HY.out H5.out hA
          have HG6 : Hid _ := App.other H5.out.own hA HG5.out (by decide)
          have hz6 := H6.out.grown.size
          have c28 : w6.cell? ⟨wr.heap.size, 28, none⟩ = some (.slice stA mt stC) := cell_of_block HG6.out C28.out
          clear hA H5 HG5 hz5
          go_wp2_with fail
          refine (put25 B v6 _ (mt : Int) 4 (Or.inr rfl) w6 H6.out.own (by simp [hthl]; omega) (by omega) (by omega) (by omega)).mono ?_
          rintro e w7 ⟨v7, rfl, hA⟩
          have H7 : Hid _ := App.next HY.out H6.out hA
          have HG7 : Hid (w7.heap[wr.heap.size]? = some (.cells cs.toArray 107 (0, 0))) := App.other H6.out.own hA HG6.out (by decide)
          clear hA H6 HG6 hz6 c28
          go_wp2_with fail
          obtain ⟨mid, hmid⟩ : ∃ mid, mid = ((([flagV p.ins] ++ p.dg.enc) ++ [.int .u8 0]) ++ p.th) ++ bytesBE 4 (mt : Int) := ⟨_, rfl⟩
          have hml : mid.length = 66 := by rw [hmid]; simp [hthl]
          rw [← hmid] at H7
          have HM : Hid _ := hmid
          clear hmid
          obtain ⟨g, hg⟩ : ∃ g, g = wr.heap.size := ⟨_, rfl⟩
          rw [← hg] at HG7 ⊢
          have HGE : Hid _ := hg
          clear hg
          go_loopw [0, 10] (fun vv i wx => ∃ (j : Nat), j ≤ mt ∧ i = .int .i64 j ∧ App B 5 wr u0 ys wx vv (ys ++ (mid ++ (p.st.take j).flatMap Sm.enc)) ∧ wx.heap[g]? = some (.cells cs.toArray 107 (0, 0))) (fun _ i _ => mt - (intOf i).toNat)
          case atStart => exact ⟨0, by omega, rfl, by simpa using H7.out, HG7.out⟩
          case round =>
            obtain ⟨j, hj, rfl, hA, hgx⟩ := hrel
            have HA : Hid _ := hA
            have HGX : Hid _ := hgx
            have hzx := hA.grown.size
            have hlj := len_encs_take HXO.out.st j
            rw [hmt] at hlj
            have c28 : wr.cell? ⟨g, 28, none⟩ = some (.slice stA mt stC) := cell_of_block HGX.out C28.out
            clear hA hgx H7
            by_cases hltj : j < mt
            · have hltj' : (j : Int) < (mt : Int) := by omega
              obtain ⟨x, hx⟩ : ∃ x, p.st[j]? = some x := ⟨p.st[j], List.getElem?_eq_getElem (by omega)⟩
              have HX2 : Hid _ := hx
              have HXO2 : Hid _ := HXO.out.st x (List.mem_of_getElem? hx)
              obtain ⟨b2, o2, rfl, hfx, hrd⟩ := Reads.app HY.out HA.out HST.out (map_ne (by omega))
              have HRd2 : Hid _ := hrd j x.cells (by simp [hx])
              clear hx hfx hrd
              obtain ⟨zs, hzs⟩ : ∃ zs, zs = ys ++ (mid ++ (p.st.take j).flatMap Sm.enc) := ⟨_, rfl⟩
              have hzl : zs.length ≤ 200000000 := by rw [hzs]; simp only [List.length_append]; omega
              have HZ : Hid (wr.ownsRow B 5 1 u0 zs.length zs) := by rw [hzs]; exact HA.out.own
              have HXL : Hid (x.cells.length = 43) := HXO2.out.length_cells
              have hidl := HXO2.out.id.len
              have hndl := HXO2.out.node.len
              go_wp2_with (first
                | (refine wpList_load_mid rfl 118 (.tmp 83) rfl b2 (o2 + j * 43) rfl x.cells _ HRd2.out Yba.underlying118 rfl (by rw [sz118, HXL.out]) ?_)
                | (refine wpList_alloc_store rfl rfl 118 11 (.tmp 84) rfl rfl rfl rfl smZero 43 info118 rfl x.cells.toArray (by simpa using HXL.out) (all_oneCell_toArray HXO2.out.one) rfl rfl ?_)
                | (refine wpList_load_mid rfl 25 (.tmp 86) rfl wr.heap.size 0 rfl x.id _ (range_of_block (heap_alloc_new _ _) (sm_id x)) Yba.underlying25 rfl (by rw [sz25, hidl]) ?_))
              refine (bytes28 B u0 zs x.id HXO2.out.id _ (World.ownsRow.alloc HZ.out _) (by omega) (by simp; omega)).mono ?_
              rintro e w8 ⟨v8, rfl, hA⟩
              have S1 : Hid (App B 5 wr u0 zs w8 v8 (zs ++ x.id)) := App.behind HZ.out hA
              have G1 : Hid (w8.heap[wr.heap.size]? = some (.cells x.cells.toArray 118 (0, 0))) := App.other (World.ownsRow.alloc HZ.out _) hA (heap_alloc_new _ _) (by decide)
              have F1 : Hid (w8.heap[g]? = some (.cells cs.toArray 107 (0, 0))) := App.other (World.ownsRow.alloc HZ.out _) hA (kept_alloc HGX.out) (by decide)
              have hs1 := S1.out.grown.size
              have ct : w8.cell? ⟨wr.heap.size, 20, none⟩ = some (.int .u64 x.t) := cell_of_block G1.out (sm_t HXO2.out)
              clear hA c28
              go_wp2_with fail
              refine (put25 B v8 _ x.t 8 (Or.inl rfl) w8 S1.out.own (by simp [hidl]; omega) (by omega) HXO2.out.t0 HXO2.out.t1).mono ?_
              rintro e w9 ⟨v9, rfl, hA⟩
              have S2 : Hid _ := App.next HZ.out S1.out hA
              have G2 : Hid _ := App.other S1.out.own hA G1.out (by decide)
              have F2 : Hid _ := App.other S1.out.own hA F1.out (by decide)
              have hs2 := S2.out.grown.size
              clear hA ct S1 G1 F1 hs1
              go_wp2_with (refine wpList_load_mid rfl 25 (.tmp 94) rfl wr.heap.size 21 rfl x.node _ (range_of_block G2.out (sm_node HXO2.out)) Yba.underlying25 rfl (by rw [sz25, hndl]) ?_)
              refine (bytes28 B v9 _ x.node HXO2.out.node w9 S2.out.own (by simp [hidl]; omega) (by omega)).mono ?_
              rintro e w10 ⟨v10, rfl, hA⟩
              have S3 : Hid _ := App.next HZ.out S2.out hA
              have G3 : Hid _ := App.other S2.out.own hA G2.out (by decide)
              have F3 : Hid _ := App.other S2.out.own hA F2.out (by decide)
              have hs3 := S3.out.grown.size
              have ct : w10.cell? ⟨wr.heap.size, 41, none⟩ = some (.bool x.del) := cell_of_block G3.out (sm_del HXO2.out)
              clear hA S2 G2 F2 hs2
              go_wp2_with fail
              refine (flag26 B v10 _ x.del w10 S3.out.own (by simp [hidl, hndl]; omega) (by omega)).mono ?_
              rintro e w11 ⟨v11, rfl, hA⟩
              have S4 : Hid _ := App.next HZ.out S3.out hA
              have G4 : Hid _ := App.other S3.out.own hA G3.out (by decide)
              have F4 : Hid _ := App.other S3.out.own hA F3.out (by decide)
              have hs4 := S4.out.grown.size
              clear hA ct S3 G3 F3 hs3
              have ct : w11.cell? ⟨wr.heap.size, 42, none⟩ = some (.int .i64 x.size) := cell_of_block G4.out (sm_size HXO2.out)
              go_wp2_with fail
              refine (put25 B v11 _ (IntKind.u64.wrap x.size) 4 (Or.inr rfl) w11 S4.out.own (by simp [hidl, hndl]; omega) (by omega) (wrap64 _).1 (wrap64 _).2).mono ?_
              rintro e w12 ⟨v12, rfl, hA⟩
              have S5 : Hid _ := App.next HZ.out S4.out hA
              have F5 : Hid _ := App.other S4.out.own hA F4.out (by decide)
              clear hA ct S4 G4 F4 hs4
              have R := App.trans HY.out HA.out (by have := S5.out; rw [hzs] at this; exact this)
              go_wp2_with fail
              go_roundw
              case rel => exact ⟨j + 1, by omega, by simp, by rw [flatMap_take_succ HX2.out, ← Sm.enc2_eq]; simpa [List.append_assoc, Sm.enc2] using R, F5.out⟩
              case measure => simp [intOf]; omega
            · obtain rfl : j = mt := by omega
              have R := FIN.out _ _ (by
                have := HA.out
                rw [List.take_of_length_le (by omega), HM.out, hins] at this
                simpa [Pt.enc, Pt.body, hins, hhas, encSms, hmt, flagV] using this)
              go_wp2_with fail
              go_roundw
              case rel => exact ⟨k + 1, by omega, by simp, R⟩
              case measure => simp [intOf]; omega
        · rw [hhas] at c1
          go_wp2_with (at_builtin; refine wpList_append_app _ rfl _ _ 23 rfl B 5 i5 (.int .u8 0) 1 Yba.underlying23 hi5 h5a h5b h5c rfl v4 _ rfl (World.ownsRow.alloc H4.out.own _) ⟨w4.heap.size, 0, none⟩ 1 1 [.int .u8 1] rfl rfl (news_at rfl _ _ rfl 5) (by simp [Value.oneCell']) (by simp; unfold maxLen; omega) (by simp; omega) (by simp; omega) ?_; intro v5 w5 hA; have H5 : Hid _ := App.next HY.out H4.out (App.behind H4.out.own hA); have HG5 : Hid (w5.heap[wr.heap.size]? = some (.cells cs.toArray 107 (0, 0))) := App.other (World.ownsRow.alloc H4.out.own _) hA (kept_alloc HG4.out) (by decide); have hz5 := H5.out.grown.size; clear hA)
          clear c1 H4 HG4 hz4
          obtain ⟨mid, hmid⟩ : ∃ mid, mid = ([flagV p.ins] ++ p.dg.enc) ++ [.int .u8 1] := ⟨_, rfl⟩
          have hml : mid.length = 42 := by rw [hmid]; simp
          rw [← hmid] at H5
          have HM : Hid _ := hmid
          clear hmid
          obtain ⟨g, hg⟩ : ∃ g, g = wr.heap.size := ⟨_, rfl⟩
          rw [← hg] at HG5 ⊢
          have HGE : Hid _ := hg
          clear hg
          go_loopw [0, 9] (fun vv i wx => ∃ (j : Nat), j ≤ ms ∧ i = .int .i64 j ∧ App B 5 wr u0 ys wx vv (ys ++ (mid ++ (p.sp.take j).flatMap Dg.enc)) ∧ wx.heap[g]? = some (.cells cs.toArray 107 (0, 0))) (fun _ i _ => ms - (intOf i).toNat)
          case atStart => exact ⟨0, by omega, rfl, by simpa using H5.out, HG5.out⟩
          case round =>
            obtain ⟨j, hj, rfl, hA, hgx⟩ := hrel
            have HA : Hid _ := hA
            have HGX : Hid _ := hgx
            have hzx := hA.grown.size
            have hlj := len_dgs_take p.sp j
            rw [hms] at hlj
            have c7 : wr.cell? ⟨g, 7, none⟩ = some (.slice spA ms spC) := cell_of_block HGX.out C7.out
            clear hA hgx H5
            by_cases hltj : j < ms
            · have hltj' : (j : Int) < (ms : Int) := by omega
              obtain ⟨x, hx⟩ : ∃ x, p.sp[j]? = some x := ⟨p.sp[j], List.getElem?_eq_getElem (by omega)⟩
              have HX2 : Hid _ := hx
              have HXO2 : Hid _ := HXO.out.sp x (List.mem_of_getElem? hx)
              obtain ⟨b2, o2, rfl, hfx, hrd⟩ := Reads.app HY.out HA.out HSP.out (map_ne (by omega))
              have HRd2 : Hid _ := hrd j x.cells (by simp [hx])
              clear hx hfx hrd
              go_wp2_with (refine wpList_load_mid rfl 103 (.tmp 57) rfl b2 (o2 + j * 5) rfl x.cells _ HRd2.out Yba.underlying103 rfl (by rw [sz103]; rfl) ?_)
              clear c7
              refine (dig27 B u0 _ x HXO2.out wr HA.out.own (by simp only [List.length_append]; omega) (by omega)).mono ?_
              rintro e w8 ⟨v8, rfl, hA⟩
              have R := App.next HY.out HA.out hA
              have F5 : Hid _ := App.other HA.out.own hA HGX.out (by decide)
              clear hA
              go_wp2_with fail
              go_roundw
              case rel => exact ⟨j + 1, by omega, by simp, by rw [flatMap_take_succ HX2.out]; simpa [List.append_assoc] using R, F5.out⟩
              case measure => simp [intOf]; omega
            · obtain rfl : j = ms := by omega
              have R := FIN.out _ _ (by
                have := HA.out
                rw [List.take_of_length_le (by omega), HM.out, hins] at this
                simpa [Pt.enc, Pt.body, hins, hhas, flagV] using this)
              go_wp2_with fail
              go_roundw
              case rel => exact ⟨k + 1, by omega, by simp, R⟩
              case measure => simp [intOf]; omega
      · go_wp2_with fail
        have R := FIN.out w3 v3 (by have := H3.out; rw [hins] at this; simpa [Pt.enc, Pt.body, hins] using this)
        go_roundw
        case rel => exact ⟨k + 1, by omega, by simp, R⟩
        case measure => simp [intOf]; omega
    · obtain rfl : k = n := by omega
      go_wp2_with fail
      go_ret
      refine ⟨u0, rfl, ?_⟩
      have := HA.out
      rw [List.take_of_length_le (by omega), HHD.out] at this
      rw [encAns, hne]
      exact this
end Go.Proofs.Ybulkdfdc
