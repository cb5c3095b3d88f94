import Derived.Test.YbulkdfdcFin
namespace Go.Proofs.Ybulkdfdc
open Go.ChangeShapes Go.WideShapes Go.ChangeAt Go.RowKit
set_option linter.unusedVariables false
set_option linter.unusedSimpArgs false

set_option maxRecDepth 20000 in
set_option maxHeartbeats 2000000 in
/-- NO PARTS: a nil slice. -/
theorem main_nil (a0 : Option Addr) (n0 cap0 : Nat) (zs : List Int) (room : Int) (cap2 : Nat) (w : World) (hn0 : n0 ≤ 1024) (hzl : zs.length = n0) (hz : PreAt w.heap.size w a0 zs) :
    Calls Yba.prog 5 #[.slice a0 n0 cap0, .int .i64 room, .slice none 0 cap2] w fun e w' => e = .returned (.bool true) ∧ Below w.heap.size w w' := by
  have HZ : Hid (PreAt w.heap.size w a0 zs) := hz
  clear hz
  obtain ⟨ps, hps0⟩ : ∃ ps : List Pt, ps = [] := ⟨_, rfl⟩
  have HP : Hid (∀ p ∈ ps, p.Ok) := by rw [hps0]; intro p hp; cases hp
  have HR : Hid (RowsAt (PtRow w.heap.size) w.heap.size w none 29 ps) := by rw [hps0]; intro h; exact absurd rfl h
  obtain ⟨n, hn00⟩ : ∃ n : Nat, n = 0 := ⟨_, rfl⟩
  have hne : ps.length = n := by rw [hps0, hn00]; rfl
  have hn : n ≤ 1024 := by omega
  have hd0 : decide ((1024 : Int) < (n0 : Int)) = false := decide_eq_false (by omega)
  rw [← hn00]
  have HN0 : Hid _ := hn00
  have HPS : Hid _ := hps0
  have hd2 : decide ((1024 : Int) < (n : Int)) = false := decide_eq_false (by omega)
  have hd3 : decide ((0 : Int) < (n : Int)) = false := decide_eq_false (by omega)
  have hd3N : decide (0 < n) = false := decide_eq_false (by omega)
  clear hn00 hps0
  have BLW : Hid (Below w.heap.size w (w.alloc (.cells #[.int .i64 room, .slice none 0 0] 110))) := (Below.refl _ _).alloc (Nat.le_refl _) _
  have G8W : Hid ((w.alloc (.cells #[.int .i64 room, .slice none 0 0] 110)).heap[w.heap.size]? = some (.cells [.int .i64 room, .slice none n 0].toArray 110 (0, 0))) := by
    show _ = _
    rw [HN0.out]; exact heap_alloc_new _ _
  have RAW : Hid (RowsAt (AnRow w.heap.size) w.heap.size (w.alloc (.cells #[.int .i64 room, .slice none 0 0] 110)) none 28 ps) := by intro h; exact absurd HPS.out h
  go_enter Yba.func5, Yba.ntmps5
  go_wp2_with fail
  refine wp_loop_rounds 1 ?_
  rw [rounds_succ]
  go_wp2_with fail
  refine wp_loop_rounds 1 ?_
  rw [rounds_succ]
  have hBz := BLW.out.size
  have NIL5 : Hid ((w.alloc (.cells #[.int .i64 room, .slice none 0 0] 110)).ownsRow w.heap.size 5 1 (.slice none 0 0) ([] : List Value).length []) := World.ownsRow_nil (w.alloc (.cells #[.int .i64 room, .slice none 0 0] 110)) w.heap.size 5 1
  go_wp2_with (at_builtin; refine wpList_append_pre rfl _ (.tmp 143) rfl (HZ.out.below BLW.out) (by omega) hBz cap0 rfl rfl hzl ?_; intro v1 w1 hA1; have A1 : Hid (App w.heap.size 5 (w.alloc (.cells #[.int .i64 room, .slice none 0 0] 110)) (.slice none 0 0) [] w1 v1 (zV zs)) := hA1; have G1 : Hid (w1.heap[w.heap.size]? = some (.cells [.int .i64 room, .slice none n 0].toArray 110 (0, 0))) := App.other NIL5.out hA1 G8W.out (by decide); have BL1 : Hid (Below w.heap.size w w1) := App.below NIL5.out hA1 BLW.out hBz; have R1 : Hid (RowsAt (AnRow w.heap.size) w.heap.size w1 none 28 ps) := RowsAt.app NIL5.out hA1 (fun p cs hh => AnRow.app NIL5.out hA1 hh) RAW.out; have d0 : w1.cell? ⟨w.heap.size, 0, none⟩ = some (.int .i64 room) := cell_of_block G1.out rfl; have d1 : w1.cell? ⟨w.heap.size, 1, none⟩ = some (.slice none n 0) := cell_of_block G1.out rfl; clear hA1)
  clear d0 d1
  have hB1 := BL1.out.size
  have hps1 : ps.length = n := hne
  have CT14 := answer14 w.heap.size v1 (zV zs) room none 0 ps HP.out (by omega) w1 A1.out.own (by simp; omega) hB1 R1.out
  rw [hps1] at CT14
  refine CT14.mono ?_
  clear CT14
  rintro e w2 ⟨v2, rfl, hA2⟩
  have A2 : Hid (App w.heap.size 5 w1 v1 (zV zs) w2 v2 (zV zs ++ encAns room ps)) := hA2
  have BL2 : Hid (Below w.heap.size w w2) := App.below A1.out.own hA2 BL1.out hB1
  have hB2 := BL2.out.size
  have NIL2 : Hid (w2.ownsRow w.heap.size 5 1 (.slice none 0 0) ([] : List Value).length []) := World.ownsRow_nil w2 w.heap.size 5 1
  clear hA2
  go_wp2_with (at_builtin; refine wpList_append_pre rfl _ (.tmp 148) rfl (HZ.out.below BL2.out) (by omega) hB2 cap0 rfl rfl hzl ?_; intro v3 w3 hA3; have A3 : Hid (App w.heap.size 5 w2 (.slice none 0 0) [] w3 v3 (zV zs)) := hA3; have BL3 : Hid (Below w.heap.size w w3) := App.below NIL2.out hA3 BL2.out hB2; have hB3 := BL3.out.size; clear hA3)
  have CT15 := model15 w.heap.size v3 (zV zs) room _ cap2 ps HP.out (by omega) w3 A3.out.own (by simp; omega) hB3 (rows_below HR.out BL3.out)
  rw [hps1] at CT15
  refine CT15.mono ?_
  clear CT15
  rintro e w4 ⟨v4, rfl, hA4⟩
  have A4 : Hid (App w.heap.size 5 w3 v3 (zV zs) w4 v4 (zV zs ++ encAns room ps)) := hA4
  have BL4 : Hid (Below w.heap.size w w4) := App.below A3.out.own hA4 BL3.out hB3
  clear hA4
  have KEEP : Hid (∀ g, g < w2.heap.size → w4.heap[g]? = w2.heap[g]?) := by
    intro g hg
    have h3 : w3.heap[g]? = w2.heap[g]? := A3.out.grown.block g hg (by simp [Value.ownBlock])
    rw [A4.out.grown.block g (Nat.lt_of_lt_of_le hg A3.out.grown.size) (fun e0 => by
      rcases A3.out.loc with hl | ⟨k', hk', hle⟩
      · rw [hl] at e0; simp [Value.ownBlock] at e0
      · rw [hk'] at e0; have := Option.some.inj e0; omega), h3]
  have OW2 : Hid (w4.ownsRow w.heap.size 5 1 v2 (zV zs ++ encAns room ps).length (zV zs ++ encAns room ps)) := own_keep A2.out.own (fun g hg => KEEP.out g (own_lt A2.out.own hg).2.1)
  have hE : zV zs ++ encAns room ps = zV (zs ++ (encAns room ps).map intOf) := by
    conv => lhs; rw [(allB_ans HP.out : AllB (encAns room ps)).ints]
    simp [zV]
  have cv2 : (convert 23 9 v2).run Yba.prog w4 = .ok (.string (strOfNums (zs ++ (encAns room ps).map intOf))) w4 := conv_own (B := w.heap.size) (by rw [← hE]; exact OW2.out)
  have cv4 : (convert 23 9 v4).run Yba.prog w4 = .ok (.string (strOfNums (zs ++ (encAns room ps).map intOf))) w4 := conv_own (B := w.heap.size) (by rw [← hE]; exact A4.out.own)
  have cv0 : (convert 23 9 (.slice a0 n0 cap0)).run Yba.prog w4 = .ok (.string (strOfNums zs)) w4 := by
    have := (HZ.out.below BL4.out).conv cap0
    rw [hzl] at this; exact this
  have cv1 : (convert 23 9 v1).run Yba.prog w4 = .ok (.string (strOfNums zs)) w4 := by
    rcases A1.out.own.2 with ⟨h0, h1⟩ | ⟨g, cap, cur, h0, hb, hg, hr⟩
    · have : zs = [] := List.eq_nil_of_length_eq_zero (by simpa using h1)
      rw [h0, this]
      exact run_convert_bytes_nil w4 23 5 Yba.underlying23 Yba.underlying5 0 0 9 Yba.underlying9
    · have hgb : v1.ownBlock = some g := by rw [h0]; rfl
      have hc := A1.out.own.cells (g := g) hgb
      have hlt := (own_lt A1.out.own hgb).2.1
      rw [h0]
      refine conv_cells (by simp) (fun j u hu => ?_)
      have hj := (List.getElem?_eq_some_iff.1 hu).1
      have e1 := hc j u hu
      rw [Addr.add_mid, Nat.zero_add] at e1
      rw [Nat.zero_add, World.cell?_of_block (w := w2) (KEEP.out g (Nat.lt_of_lt_of_le hlt A2.out.grown.size)), A2.out.keep g hgb j hj]
      exact e1
  clear hE
  have CV2 : Hid _ := cv2
  have CV4 : Hid _ := cv4
  have CV0 : Hid _ := cv0
  have CV1 : Hid _ := cv1
  clear cv2 cv4 cv0 cv1
  go_wp2_with fail
  refine (equal_same _ _ _ _ CV1.out CV0.out).mono ?_
  rintro e w5 ⟨rfl, rfl⟩
  go_wp2_with fail
  refine (equal_same _ _ _ _ CV2.out CV4.out).mono ?_
  rintro e w5 ⟨rfl, rfl⟩
  go_wp2_with fail
  go_ret
  exact ⟨rfl, BL4.out⟩

set_option maxRecDepth 20000 in
/-- TOO LONG. -/
theorem main_long (a0 : Option Addr) (n0 cap0 : Nat) (room : Int) (a2 : Option Addr) (n cap2 : Nat) (w : World) (hl : 1024 < n0 ∨ 1024 < n) (hm0 : n0 ≤ maxLen) (hm : n ≤ maxLen) :
    Calls Yba.prog 5 #[.slice a0 n0 cap0, .int .i64 room, .slice a2 n cap2] w fun e w' => e = .returned (.bool true) ∧ Below w.heap.size w w' := by
  unfold maxLen at hm0 hm
  by_cases h : 1024 < n0
  · go_enter Yba.func5, Yba.ntmps5
    go_wp2_with fail
    go_ret
    exact ⟨rfl, Below.refl _ _⟩
  · have h1 : 1024 < n := by omega
    have hd : decide ((1024 : Int) < (n0 : Int)) = false := decide_eq_false (by omega)
    go_enter Yba.func5, Yba.ntmps5
    go_wp2_with fail
    go_ret
    exact ⟨rfl, Below.refl _ _⟩

theorem pt_28' {p : Pt} (h : ID20 p.th) (a b : Value) : (ptCells p a b)[28]? = some b := by
  have e : ptCells p a b = (.bool p.ins :: .bool p.has :: (p.dg.cells ++ (a :: p.th))) ++ [b] := by simp [ptCells]
  rw [e, List.getElem?_append_right (by simp [Dg.cells, h.len])]
  simp [Dg.cells, h.len]

theorem cell_add' {w : World} {b o k : Nat} {cs : List Value} (h : w.rangeAt b o cs) {u : Value} (hu : cs[k]? = some u) : w.cell? ⟨b, o + k, none⟩ = some u := h k u hu

set_option maxRecDepth 20000 in
set_option maxHeartbeats 2000000 in
/-- A PART TOO LONG. -/
theorem main_exit (a0 : Option Addr) (n0 cap0 : Nat) (room : Int) (ad : Addr) (cap2 : Nat) (ps : List Pt) (w : World) (hn0 : n0 ≤ 1024) (hn : ps.length ≤ 1024) (hth : ∀ p ∈ ps, ID20 p.th) (hR : RowsAt (PtRow w.heap.size) w.heap.size w (some ad) 29 ps)
    (k0 : Nat) (p0 : Pt) (hk0 : ps[k0]? = some p0) (hbad : 1024 < p0.sp.length ∨ 1024 < p0.st.length) :
    Calls Yba.prog 5 #[.slice a0 n0 cap0, .int .i64 room, .slice (some ad) ps.length cap2] w fun e w' => e = .returned (.bool true) ∧ Below w.heap.size w w' := by
  have HTH : Hid _ := hth
  have HR : Hid (RowsAt (PtRow w.heap.size) w.heap.size w (some ad) 29 ps) := hR
  have HK : Hid _ := hk0
  have HB : Hid _ := hbad
  have hk0n : k0 < ps.length := (List.getElem?_eq_some_iff.1 hk0).1
  clear hth hR hk0 hbad
  obtain ⟨n, hne⟩ : ∃ n, ps.length = n := ⟨_, rfl⟩
  rw [hne] at hn hk0n ⊢
  have hd0 : decide ((1024 : Int) < (n0 : Int)) = false := decide_eq_false (by omega)
  have hd2 : decide ((1024 : Int) < (n : Int)) = false := decide_eq_false (by omega)
  go_enter Yba.func5, Yba.ntmps5
  go_wp2_with fail
  go_loopw [7] (fun i wr => ∃ (k : Nat), k ≤ k0 ∧ i = .int .i64 k ∧ w = wr) (fun i _ => n - (intOf i).toNat)
  case atStart => exact ⟨0, by omega, rfl, rfl⟩
  case round =>
    obtain ⟨k, hk, rfl, rfl⟩ := hrel
    have hlt' : (k : Int) < (n : Int) := by omega
    obtain ⟨p, hp⟩ : ∃ p, ps[k]? = some p := ⟨ps[k], List.getElem?_eq_getElem (by omega)⟩
    have hid := HTH.out p (List.mem_of_getElem? hp)
    obtain ⟨b, o, hbo, hfx, hrd⟩ := HR.out (by intro h0; rw [h0] at hne; simp at hne; omega)
    obtain rfl := Option.some.inj hbo
    obtain ⟨cs, ⟨spA, spC, stA, stC, rfl, hsp, hst⟩, hcs⟩ := hrd k p hp
    have c7 := cell_add' hcs (pt_7 _ _ _)
    have c28 := cell_add' hcs (pt_28' hid _ _)
    clear hfx hrd hcs hsp hst hid hbo
    by_cases h1 : 1024 < p.sp.length
    · have hs1 : decide ((1024 : Int) < (p.sp.length : Int)) = true := decide_eq_true (by omega)
      clear h1 hp
      go_wp2_with fail
      go_ret
      exact ⟨rfl, Below.refl _ _⟩
    · have hs1 : decide ((1024 : Int) < (p.sp.length : Int)) = false := decide_eq_false (by omega)
      by_cases h2 : 1024 < p.st.length
      · have hs2 : decide ((1024 : Int) < (p.st.length : Int)) = true := decide_eq_true (by omega)
        clear h1 h2 hp
        go_wp2_with fail
        go_ret
        exact ⟨rfl, Below.refl _ _⟩
      · have hs2 : decide ((1024 : Int) < (p.st.length : Int)) = false := decide_eq_false (by omega)
        have hkk : k ≠ k0 := fun e => by
          subst e
          have := HK.out
          rw [hp] at this
          obtain rfl := Option.some.inj this
          exact HB.out.elim h1 h2
        clear hp h1 h2
        go_wp2_with fail
        go_roundw
        case rel => exact ⟨k + 1, by omega, by simp, trivial⟩
        case measure => simp [intOf]; omega
end Go.Proofs.Ybulkdfdc
