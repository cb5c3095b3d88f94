import Derived.Test.YbulkdfgwNotesRel
namespace Go.Proofs.Ybulkdfgw
open Go.ChangeShapes Go.WideShapes Go.ChangeAt Go.RowKit Go.Maps Go.WideMaps Go.WideElems
set_option linter.unusedVariables false
set_option linter.unusedSimpArgs false

theorem notes_long (a0 : Option Addr) (n cap0 : Nat) (a1 : Option Addr) (n1 cap1 : Nat) (w : World) (hl : 256 < n ∨ 1024 < n1) (hm : n ≤ maxLen) (hm1 : n1 ≤ maxLen) :
    Calls Yba.prog 4 #[.slice a0 n cap0, .slice a1 n1 cap1] w fun e w' => e = .returned (.bool true) ∧ Below w.heap.size w w' := by
  unfold maxLen at hm hm1
  by_cases h : 256 < n
  · go_enter Yba.func4, Yba.ntmps4
    go_wp2_with fail
    go_ret
    exact ⟨rfl, Below.refl _ _⟩
  · have h1 : 1024 < n1 := by omega
    have hd : decide ((256 : Int) < (n : Int)) = false := decide_eq_false (by omega)
    go_enter Yba.func4, Yba.ntmps4
    go_wp2_with fail
    go_ret
    exact ⟨rfl, Below.refl _ _⟩

/-- LOOP 1: the peers so far. -/
def RelP (w : World) (n : Nat) (S : Nat → ByteArray) (v i : Value) (wr : World) : Prop :=
  ∃ k : Nat, k ≤ n ∧ i = .int .i64 k ∧ v = .slice (some ⟨w.heap.size + 1, 0, none⟩) k n ∧ wr.ownsRow (w.heap.size + 1) 67 21 (.slice (some ⟨w.heap.size + 1, 0, none⟩) k n) k (peersTo S k) ∧
    wr.heap[w.heap.size]? = some (.cells (metricsZero none) 54 (0, 0)) ∧ Below w.heap.size w wr ∧ w.heap.size + 1 < wr.heap.size

theorem news_new (w : World) (cs : List Value) (t : TypeId) : ∀ j u, cs[j]? = some u → (w.alloc (.cells cs.toArray t)).cell? ((⟨w.heap.size, 0, none⟩ : Addr).add j) = some u := by
  intro j u h
  rw [Addr.add_mid]
  simpa using h

theorem relP_step {w wr w1 : World} {n k : Nat} {S : Nat → ByteArray} {o : Obj} (hk : k + 1 ≤ n) (hm : wr.heap[w.heap.size]? = some (.cells (metricsZero none) 54 (0, 0))) (hB : Below w.heap.size w wr) (hz : w.heap.size + 1 < wr.heap.size)
    (ho : w1.ownsRow (w.heap.size + 1) 67 21 (.slice (some ⟨w.heap.size + 1, 0, none⟩) (k + 1) n) (k + 1) (peersTo S k ++ peerLit (S k))) (hg : (wr.alloc o).grownBy w1 (some (w.heap.size + 1))) :
    RelP w n S (.slice (some ⟨w.heap.size + 1, 0, none⟩) (k + 1) n) (.int .i64 (k + 1)) w1 := by
  refine ⟨k + 1, hk, by simp, rfl, ho, ?_, ?_, ?_⟩
  · rw [hg.block _ (by simp; omega) (by simp), Below.heap_alloc _ _ _ (by omega)]; exact hm
  · exact (hB.alloc hB.size o).grown hg (by simp; have := hB.size; omega) (fun j hj => by cases hj; omega)
  · have := hg.size; simp at this; omega

set_option maxRecDepth 100000 in
set_option maxHeartbeats 2000000 in
theorem notes_any (a0 : Option Addr) (n cap0 : Nat) (S : Nat → ByteArray) (a1 : Option Addr) (n1 cap1 : Nat) (I : Nat → Int) (V : Nat → Bool) (w : World) (hn : n ≤ 256) (hn1 : n1 ≤ 1024)
    (hS : 0 < n → ∃ b o, a0 = some ⟨b, o, none⟩ ∧ ∀ i, i < n → w.cell? ⟨b, o + i, none⟩ = some (.string (S i))) (hSl : ∀ i, i < n → (S i).size ≤ maxLen)
    (hV : 0 < n1 → ∃ b1 o1, a1 = some ⟨b1, o1, none⟩ ∧ ∀ i, i < n1 → w.cell? ⟨b1, o1 + i * 2, none⟩ = some (.int .u8 (I i)) ∧ w.cell? ⟨b1, o1 + i * 2 + 1, none⟩ = some (.bool (V i)) ∧ 0 ≤ I i ∧ I i ≤ 255) :
    Calls Yba.prog 4 #[.slice a0 n cap0, .slice a1 n1 cap1] w fun e w' => e = .returned (.bool true) ∧ Below w.heap.size w w' := by
  have HS : Hid _ := hS
  have HL : Hid _ := hSl
  have HV : Hid _ := hV
  clear hS hSl hV
  obtain ⟨i67, hi67, hz67a, hz67b, hz67c⟩ := info_parts inf67
  have hd : decide ((256 : Int) < (n : Int)) = false := decide_eq_false (by omega)
  obtain ⟨wm, hmk, hown0, hgm0⟩ := run_make_own (P := Yba.prog) (w.alloc (.cells (metricsZero none) 54)) (w.heap.size + 1) 63 67 i67 peerZero 21 Yba.underlying63 hi67 hz67a hz67b .i64 .i64 n (by rw [hz67c]; omega) (by unfold maxLen; omega) (by simp)
  have esz : (w.alloc (.cells (metricsZero none) 54)).heap.size = w.heap.size + 1 := by simp
  rw [esz] at hmk hown0
  have hR0 : RelP w n S (.slice (some ⟨w.heap.size + 1, 0, none⟩) 0 n) (.int .i64 0) wm := by
    refine ⟨0, Nat.zero_le _, rfl, rfl, hown0, ?_, ?_, ?_⟩
    · rw [hgm0.block _ (by simp) (by simp)]; exact heap_alloc_new _ _
    · exact ((Below.refl _ _).alloc (Nat.le_refl _) _).grown hgm0 (by simp) (fun k h => by cases h)
    · rcases hown0.2 with ⟨h, _⟩ | ⟨g, cap, cur, h, _, hg, _⟩
      · cases h
      · simp only [Value.slice.injEq, Option.some.injEq, Addr.mk.injEq, and_true, true_and] at h
        have := lt_block hg; omega
  have HR0 : Hid _ := hR0
  clear hR0 hown0 hgm0 esz
  unfold metricsZero at hmk
  go_enter Yba.func4, Yba.ntmps4
  go_wp2_with fail
  clear hmk
  go_loopw [6, 34] (fun v i wr => RelP w n S v i wr) (fun _ i _ => n - (intOf i).toNat)
  case atStart => exact HR0.out
  case round =>
    obtain ⟨k, hk, rfl, rfl, hown, hm, hB, hz⟩ := hrel
    have HO : Hid _ := hown
    have HM : Hid _ := hm
    have HB : Hid _ := hB
    clear hown hm hB
    by_cases hlt : k < n
    · obtain ⟨b, o, rfl, hsc⟩ := HS.out (by omega)
      have cs : wr.cell? ⟨b, o + k, none⟩ = some (.string (S k)) := cell_later HB.out (hsc k hlt)
      clear hsc
      go_wp2_with (at_builtin; refine wpList_append_fits _ rfl _ _ 63 rfl (w.heap.size + 1) 67 i67 21 Yba.underlying63 hi67 hz67b (w.heap.size + 1) k n (peersTo S k) rfl (World.ownsRow.alloc HO.out _) ⟨wr.heap.size, 0, none⟩ 1 1 (peerLit (S k)) rfl rfl (news_new wr (peerLit (S k)) 67) (peerLit_one _) (by omega) ?_; intro w1 ho1 hg1)
      have R := relP_step (show k + 1 ≤ n by omega) HM.out HB.out hz ho1 hg1
      clear ho1 hg1
      go_wp2_with fail
      go_roundw
      case rel => exact R
      case measure => simp [intOf]; omega
    · obtain rfl : n = k := by omega
      go_wp2_with fail
      refine (watchFingers w.heap.size (w.heap.size + 1) n n S wr hn HL.out (by omega) (metricsZero none) HM.out rfl (peers_of HO.out)).mono ?_
      rintro e w2 ⟨rfl, bl, hM2, hC2, hp2, hms2, hup2, hg2⟩
      have hSt : Hid (St w w.heap.size wr.heap.size (wr.heap.size + 1) (ddTo S n) bl (fun _ => true) w2) :=
        ⟨hM2, hC2, hp2, hms2, HB.out.grown hg2 HB.out.size (fun j hj => by cases hj; exact Nat.le_refl _), ⟨HB.out.size, fun s hs => Nat.le_trans HB.out.size (hup2 s hs)⟩⟩
      clear hM2 hC2 hp2 hms2 hup2 hg2 HM HO HB HR0
      obtain ⟨i9, hi9, h9a, h9b, h9c⟩ := info_parts inf9
      obtain ⟨i4, hi4, h4a, h4b, h4c⟩ := info_parts inf4
      generalize wr.heap.size = g at *
      generalize g + 1 = gp at *
      go_wp2_with fail
      go_loopw [9, 10, 48] (fun vd vs i wr => RelD w g gp (ddTo S n) bl n S vd vs i wr) (fun _ _ i _ => n - (intOf i).toNat)
      case atStart => exact ⟨0, Nat.zero_le _, rfl, hSt.out, World.ownsRow_nil _ _ _ _, World.ownsRow_nil _ _ _ _⟩
      case round =>
        obtain ⟨k, hk, rfl, hS0, hd0, hs0⟩ := hrel
        have HS2 : Hid _ := hS0
        have HD : Hid _ := hd0
        have HSt : Hid _ := hs0
        obtain ⟨ad, capd, rfl, hga⟩ := owns_slice hd0
        clear hS0 hd0 hs0
        have hlen := length_ddTo S k
        have hBz := HS2.out.below.size
        by_cases hlt : k < n
        · obtain ⟨b, o, rfl, hsc⟩ := HS.out (by omega)
          have cs : wr.cell? ⟨b, o + k, none⟩ = some (.string (S k)) := cell_later HS2.out.below (hsc k hlt)
          clear hsc
          by_cases hin : (S k).data.toList ∈ ddTo S k
          · obtain ⟨t, ht1, ht2, ht3⟩ := findKey hin
            obtain ⟨gd, rfl⟩ := hga (by omega)
            have R := relD_same (show k + 1 ≤ n by omega) hin HS2.out HD.out HSt.out
            have HR : Hid _ := R
            clear R
            go_wp2_with fail
            refine (index_some gd (ddTo S k).length capd (strAt (ddTo S k)) (S k) wr (by omega) (fun i hi => owns_cell HD.out (strAt_get hi)) t ht1 (by rw [strAt_data]; exact ht2) (fun i hi => by rw [strAt_data]; exact ht3 i hi)).mono ?_
            rintro e w3 ⟨rfl, rfl⟩
            go_wp2_with fail
            go_roundw
            case rel => exact HR.out
            case measure => simp [intOf]; omega
          · go_wp2_with fail
            refine (index_none ad (ddTo S k).length capd (strAt (ddTo S k)) (S k) wr (by omega) (fun h0 => by
              obtain ⟨gd, rfl⟩ := hga h0
              exact ⟨gd, rfl, fun i hi => owns_cell HD.out (strAt_get hi)⟩) (fun i hi => by
              rw [strAt_data]; intro e; exact hin (by rw [← e]; simp [hi])) ).mono ?_
            rintro e w3 ⟨rfl, rfl⟩
            go_wp2_with (first | (at_builtin; refine wpList_append_own _ rfl (.tmp 56) (.tmp 58) 22 rfl w.heap.size 9 i9 (.string ByteArray.empty) 1 16 Yba.underlying22 hi9 h9a h9b h9c rfl (by decide) _ _ _ rfl (World.ownsRow.alloc HD.out _) ⟨wr.heap.size, 0, none⟩ 1 1 [.string (S k)] rfl rfl (news_new wr [.string (S k)] 9) (by simp [Value.oneCell']) (by unfold maxLen; omega) (by omega) (by simp; omega) ?_; intro v1 w1 ho1 hg1 _) | (at_builtin; refine wpList_append_own _ rfl (.tmp 60) (.tmp 61) 23 rfl w.heap.size 4 i4 (.bool false) 1 1 Yba.underlying23 hi4 h4a h4b h4c rfl (by decide) _ _ _ rfl (World.ownsRow.alloc (own_apart (World.ownsRow.alloc HD.out _) (World.ownsRow.alloc HSt.out _) (by decide) hg1) _) ⟨w1.heap.size, 0, none⟩ 1 1 [.bool true] rfl rfl (news_new w1 [.bool true] 4) (by simp [Value.oneCell']) (by unfold maxLen; omega) (by omega) (by have := hg1.size; simp at this ⊢; omega) ?_; intro v2 w4 ho2 hg2 _))
            have R := relD_step (show k + 1 ≤ n by omega) hin HS2.out HD.out HSt.out _ _ ho1 hg1 ho2 hg2
            have HR : Hid _ := R
            clear R ho1 hg1 ho2 hg2
            go_roundw
            case rel => exact HR.out
            case measure => simp [intOf]; omega
        · obtain rfl : n = k := by omega
          obtain ⟨asx, caps, rfl, hgs⟩ := owns_slice HSt.out
          by_cases hn0 : n = 0
          · have hn0b : decide (0 < n) = false := decide_eq_false (by omega)
            have hl0 : (ddTo S n).length = 0 := by have := length_ddTo S n; omega
            have cF13 := HS2.out.c13
            have HVr : Hid _ := HS2.out.var
            have hlenM := HS2.out.map.len
            have hq2 := fun (w : World) (r : Option Nat) => run_eql_map_nil (P := Yba.prog) w 55 9 57 r Yba.underlying55
            go_wp2_with fail
            refine (watched_some _ _ _ _ cF13 HVr.out).mono ?_
            rintro e w5 ⟨rfl, rfl⟩
            go_wp2_with fail
            clear hlenM hq2
            refine wp_loop_rounds 1 ?_
            rw [rounds_succ]
            go_wp2_with fail
            go_ret
            exact ⟨rfl, HS2.out.below⟩
          · have hnz : ((n : Int) == 0) = false := beq_eq_false_iff_ne.2 (by omega)
            have hpos : 0 < (ddTo S n).length := by
              have := mem_ddTo S n 0 (by omega)
              exact List.length_pos_of_mem this
            obtain ⟨gd, rfl⟩ := hga hpos
            obtain ⟨gs, rfl⟩ := hgs hpos
            have hn0b : decide (0 < n) = true := decide_eq_true (by omega)
            go_wp2_with fail
            go_loopw [69] (fun i wx => RelN w g gp (ddTo S n) bl n1 (.slice (some ⟨gd, 0, none⟩) (ddTo S n).length capd) (.slice (some ⟨gs, 0, none⟩) (ddTo S n).length caps) i wx) (fun i _ => n1 - (intOf i).toNat)
            case atStart => exact ⟨0, _, Nat.zero_le _, rfl, HS2.out, HD.out, HSt.out⟩
            case round =>
              obtain ⟨k, σ, hk, rfl, hS3, hd3, hs3⟩ := hrel
              have HS3 : Hid _ := hS3
              have HD3 : Hid _ := hd3
              have HT3 : Hid _ := hs3
              have hB3 := hS3.below.size
              clear hS3 hd3 hs3
              by_cases hlt3 : k < n1
              · obtain ⟨b1, o1, rfl, hvc⟩ := HV.out (by omega)
                obtain ⟨v0, v1, iv0, iv1⟩ := hvc k hlt3
                have cv0 : wr.cell? ⟨b1, o1 + k * 2, none⟩ = some (.int .u8 (I k)) := cell_later HS3.out.below v0
                have cv1 : wr.cell? ⟨b1, o1 + k * 2 + 1, none⟩ = some (.bool (V k)) := cell_later HS3.out.below v1
                obtain ⟨t, ht⟩ : ∃ t : Nat, I k % (n : Int) = t := ⟨(I k % (n : Int)).toNat, by have := Int.emod_nonneg (I k) (show (n : Int) ≠ 0 by omega); omega⟩
                have htn : t < n := by have := Int.emod_lt_of_pos (I k) (show 0 < (n : Int) by omega); omega
                have htn' : (t : Int) < (n : Int) := by omega
                obtain ⟨b, o, rfl, hsc⟩ := HS.out (by omega)
                have cs : wr.cell? ⟨b, o + t, none⟩ = some (.string (S t)) := cell_later HS3.out.below (hsc t htn)
                have hbz : b < wr.heap.size := World.block_lt_of_cell? _ _ cs
                clear hvc hsc v0 v1
                have hmem := mem_ddTo S n t htn
                obtain ⟨hS4, hd4, hs4, hl4⟩ := noted HS3.out HD3.out HT3.out hB3 hmem (V k) #[.int .u8 (I k), .bool (V k)]
                have hSa := HS3.out.alloc HS3.out.below.size (.cells #[.int .u8 (I k), .bool (V k)] 71)
                obtain ⟨q, hq1, hq2, hq3⟩ := findKey hmem
                have hq1' : (q : Int) < ((ddTo S n).length : Int) := by omega
                have hdl := length_ddTo S n
                go_wp2_with fail
                refine (answered w.heap.size gp g 512 (S t) (V k) (ddTo S n) bl σ _ (HL.out t htn) hmem hSa.c13 hSa.var hSa.map hSa.cells).mono ?_
                rintro e w4 ⟨rfl, hw4⟩
                rw [← hw4] at hS4 hd4 hs4 hl4
                clear hw4 hSa hmem
                have HS4 : Hid _ := hS4
                have HD4 : Hid _ := hd4
                have HT4 : Hid _ := hs4
                have cl1 : w4.cell? ⟨wr.heap.size, 1, none⟩ = some (.bool (V k)) := by simp [World.cell?, hl4]
                have ct : ∃ v, w4.cell? ⟨gs, q, none⟩ = some v := ⟨_, owns_cell hs4 (show ((ddTo S n).map fun s => Value.bool (σ s))[q]? = some (.bool (σ ((ddTo S n)[q]))) by simp [hq1])⟩
                obtain ⟨vq, cq⟩ := ct
                have fq : w4.frozen? ⟨gs, q, none⟩ = false := hs4.frozenAt q
                clear hS4 hd4 hs4 hl4
                go_wp2_with fail
                refine (index_some gd (ddTo S n).length capd (strAt (ddTo S n)) (S t) w4 (by omega) (fun i hi => owns_cell HD4.out (strAt_get hi)) q hq1 (by rw [strAt_data]; exact hq2) (fun i hi => by rw [strAt_data]; exact hq3 i hi)).mono ?_
                rintro e w5 ⟨rfl, rfl⟩
                have R := relN_step (show k + 1 ≤ n1 by omega) (ddTo_nodup S n) hq1 hq2 HS4.out HD4.out HT4.out
                have HR : Hid _ := R
                clear R
                go_wp2_with fail
                go_roundw
                case rel => exact HR.out
                case measure => simp [intOf]; omega
              · have HSF : Hid (St w w.heap.size g gp (ddTo S n) bl σ wr) := HS3.out
                have HDF : Hid (wr.ownsRow w.heap.size 9 1 (.slice (some ⟨gd, 0, none⟩) (ddTo S n).length capd) (ddTo S n).length ((ddTo S n).map strV)) := HD3.out
                have HTF : Hid (wr.ownsRow w.heap.size 4 1 (.slice (some ⟨gs, 0, none⟩) (ddTo S n).length caps) (ddTo S n).length ((ddTo S n).map fun s => .bool (σ s))) := HT3.out
                clear HS3 HD3 HT3 HS2 HD HSt
                have cF13 := HSF.out.c13
                have HVr : Hid _ := HSF.out.var
                have hlenM := HSF.out.map.len
                have hq2 := fun (w : World) (r : Option Nat) => run_eql_map_nil (P := Yba.prog) w 55 9 57 r Yba.underlying55
                go_wp2_with fail
                refine (watched_some _ _ _ _ cF13 HVr.out).mono ?_
                rintro e w5 ⟨rfl, rfl⟩
                go_wp2_with fail
                clear hlenM hq2
                go_loopw [109] (fun i wx => ∃ (j nq : Nat), j ≤ (ddTo S n).length ∧ i = .int .i64 j ∧ wx = wr.drewN nq) (fun i _ => (ddTo S n).length - (intOf i).toNat)
                case atStart => exact ⟨0, 0, Nat.zero_le _, rfl, rfl⟩
                case round =>
                  obtain ⟨j, nq, hj, rfl, rfl⟩ := hrel
                  by_cases hjl : j < (ddTo S n).length
                  · have hdl := length_ddTo S n
                    have hjl' : (j : Int) < ((ddTo S n).length : Int) := by omega
                    have hjm : (strAt (ddTo S n) j).data.toList ∈ ddTo S n := by rw [strAt_data]; simp [hjl]
                    have cj : wr.cell? ⟨gd, j, none⟩ = some (.string (strAt (ddTo S n) j)) := owns_cell HDF.out (strAt_get hjl)
                    have gq : ∀ nq, wr.grownBy (wr.drewN nq) none := fun nq => ⟨rfl, rfl, rfl, Nat.le_refl _, fun _ _ _ => rfl⟩
                    have hlk := fun nq => (MapOf.kept HSF.out.map (gq nq) (by simp)).look (strAt_size HL.out j hjl) hjm
                    have c58 := HSF.out.cells.1 _ hjm
                    have cl58 : wr.cell? ⟨bl (strAt (ddTo S n) j).data.toList, 0, none⟩ = some (.int .u32 (bitOf (σ (strAt (ddTo S n) j).data.toList))) := by simp [World.cell?, c58]
                    have cst : wr.cell? ⟨gs, j, none⟩ = some (.bool (σ (strAt (ddTo S n) j).data.toList)) := owns_cell HTF.out (by rw [strAt_data]; simp [hjl])
                    clear c58 gq hjm
                    generalize strAt (ddTo S n) j = key at *
                    generalize bl key.data.toList = kb at *
                    generalize σ key.data.toList = bit at *
                    go_wp2_with fail
                    go_quiet ((go_at_call 12; refine (boolLoad' kb bit _ (by exact cl58)).mono ?_; rintro e w'' ⟨h1, rfl⟩; exact ⟨h1, _, rfl⟩))
                    go_wp2_with fail
                    go_roundw
                    case rel => exact ⟨j + 1, _, by omega, by go_num, rfl⟩
                    case measure => simp [intOf]; omega
                  · go_wp2_with fail
                    go_ret
                    exact ⟨rfl, below_drewN HSF.out.below _⟩
end Go.Proofs.Ybulkdfgw
