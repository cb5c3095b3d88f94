import Derived.Test.YbulkdfeeGreatDoorLeaf
namespace Go.Proofs.YbulkdfeeGreatDoor
open Go.ChangeShapes Go.WideShapes Go.ChangeAt Go.RowKit
set_option linter.unusedVariables false
set_option linter.unusedSimpArgs false

/-- What cover turns: its own closure's row and the nodes. -/
structure CV (B : Nat) (w : World) (gc gn T : Nat) (cs : List Value) (f : Nat → Int) (wq : World) : Prop where
  bel : Below B w wq
  row : CB wq gc 61 cs
  nd : FB wq gn T f
theorem CV.below {B : Nat} {w : World} {gc gn T : Nat} {cs : List Value} {f : Nat → Int} {wq w' : World} (h : CV B w gc gn T cs f wq) (hB : Below wq.heap.size wq w') (hb : B ≤ wq.heap.size) : CV B w gc gn T cs f w' :=
  ⟨h.bel.trans (hB.mono hb), h.row.below hB h.row.lt, CB.below h.nd hB (CB.lt h.nd)⟩

set_option maxHeartbeats 2000000 in
set_option maxRecDepth 20000 in
theorem cover10 (t : TB) (ok : t.Ok) (wb w : World) (hT : t.At wb) (hwb : Below wb.heap.size wb w) (B gc gn : Nat) (hB : wb.heap.size ≤ B) (hBw : B ≤ w.heap.size) (hgc : B ≤ gc) (hgn : B ≤ gn) (hne : gc ≠ gn) (cs : List Value) (z : Int) (f : Nat → Int)
    (hc : CB w gc 61 (.slice (some ⟨gn, 0, none⟩) t.T t.T :: .int .i64 z :: cs)) (hn : FB w gn t.T f) :
    Calls Ybaz.prog 10 #[.pointer (some ⟨gc, 0, none⟩), .pointer (some ⟨t.gt, 0, none⟩)] w fun e w' => e = .returned (.tuple #[.slice none 0 0, .int .i64 0]) ∧ Below B w w' := by
  have hn3 := ok.n
  obtain ⟨T1, T2⟩ := ok.T
  have HT : Hid (t.At wb) := hT
  have HWB : Hid (Below wb.heap.size wb w) := hwb
  obtain ⟨w1, hw1⟩ : ∃ w1, w1 = w.alloc (.cells #[.pointer (some ⟨t.gt, 0, none⟩)] 27) := ⟨_, rfl⟩
  have g1 : w.heap.size < w1.heap.size := by rw [hw1]; simp
  have S1 : Hid (CV B w gc gn t.T (.slice (some ⟨gn, 0, none⟩) t.T t.T :: .int .i64 z :: cs) f w1) := by rw [hw1]; exact ⟨(step_alloc _ _).mono hBw, hc.alloc _, CB.alloc hn _⟩
  have P1 : Hid (CB w1 w.heap.size 27 [.pointer (some ⟨t.gt, 0, none⟩)]) := by rw [hw1]; exact CB.new w
  have A1 : Hid (t.At w1) := HT.out.below (HWB.out.trans (S1.out.bel.mono hB))
  clear hT hwb hc hn
  have cp : w1.cell? ⟨w.heap.size, 0, none⟩ = some (.pointer (some ⟨t.gt, 0, none⟩)) := P1.out.cell rfl
  have ct2 : w1.cell? ⟨t.gt, 2, none⟩ = some (.slice (some ⟨t.gw, 0, none⟩) t.n t.n) := A1.out.row.cell rfl
  have HW1 : Hid _ := hw1
  clear hw1
  go_enter Ybaz.func10, Ybaz.ntmps10
  go_upto_region 2 with fail
  rw [← HW1.out]
  clear HW1
  go_wp2_with fail
  go_loopw [4, 7, 26] (fun v4 v7 v26 wq => v4 = .slice none 0 0 ∧ ∃ i : Nat, i ≤ t.n ∧ v26 = .int .i64 i ∧ Below w1.heap.size w1 wq) (fun _ _ v26 _ => t.n - (intOf v26).toNat)
  case atStart => exact ⟨rfl, 0, by omega, rfl, Below.refl _ _⟩
  case round =>
    obtain ⟨rfl, i, hi, rfl, hq⟩ := hrel
    have HQ : Hid (Below w1.heap.size w1 wr) := hq
    clear hq
    have cp1 : wr.cell? ⟨w.heap.size, 0, none⟩ = some (.pointer (some ⟨t.gt, 0, none⟩)) := (P1.out.below HQ.out g1).cell rfl
    by_cases hil : i < t.n
    · have hil' : (i : Int) < (t.n : Int) := by omega
      have hw2 : decide ((2 : Int) ≤ ((t.we i - t.us i : Nat) : Int)) = false := decide_eq_false (by have := (ok.we i hil).2.1; omega)
      go_wp2_with fail
      refine (writers21 t ok wr (A1.out.below HQ.out) i hil).mono ?_
      rintro e w2 ⟨⟨a, c, rfl⟩, hB2⟩
      have HQ2 : Hid (Below w1.heap.size w1 w2) := HQ.out.trans (hB2.mono HQ.out.size)
      clear hB2
      go_wp2_with fail
      go_roundw
      case rel => exact ⟨rfl, i + 1, by omega, by simp, HQ2.out⟩
      case measure => simp [intOf]; omega
    · obtain rfl : i = t.n := by omega
      have S2 : Hid (CV B w gc gn t.T (.slice (some ⟨gn, 0, none⟩) t.T t.T :: .int .i64 z :: cs) f wr) := S1.out.below HQ.out (by omega)
      have cc0 : wr.cell? ⟨gc, 0, none⟩ = some (.slice (some ⟨gn, 0, none⟩) t.T t.T) := S2.out.row.cell rfl
      clear hil cp ct2
      go_wp2_with fail
      refine (sortStable23 _ wr).mono ?_
      rintro e w3 ⟨rfl, rfl⟩
      go_wp2_with fail
      go_loopw [8, 54] (fun v8 v54 wq => ∃ (i : Nat) (f' : Nat → Int), i ≤ t.T ∧ v54 = .int .i64 i ∧ (∀ j, j < i → f' j = -1) ∧ CV B w gc gn t.T (.slice (some ⟨gn, 0, none⟩) t.T t.T :: .int .i64 z :: cs) f' wq) (fun _ v54 _ => t.T - (intOf v54).toNat)
      case atStart => exact ⟨0, f, by omega, rfl, fun j hj => by omega, S2.out⟩
      case round =>
        obtain ⟨i, f', hi, rfl, hf, hS⟩ := hrel
        have S3 : Hid (CV B w gc gn t.T (.slice (some ⟨gn, 0, none⟩) t.T t.T :: .int .i64 z :: cs) f' wr) := hS
        have HF : Hid _ := hf
        clear hS hf cc0
        have cc0 : wr.cell? ⟨gc, 0, none⟩ = some (.slice (some ⟨gn, 0, none⟩) t.T t.T) := S3.out.row.cell rfl
        by_cases hil : i < t.T
        · have hil' : (i : Int) < (t.T : Int) := by omega
          have cn : wr.cell? ⟨gn, i, none⟩ = some (.int .i64 (f' i)) := S3.out.nd.cell hil
          have fn : wr.frozen? ⟨gn, i, none⟩ = false := CB.froz S3.out.nd
          have S4 : Hid (CV B w gc gn t.T (.slice (some ⟨gn, 0, none⟩) t.T t.T :: .int .i64 z :: cs) (fun j => if j = i then -1 else f' j) (wr.setCell ⟨gn, i, none⟩ (.int .i64 (-1)))) := ⟨S3.out.bel.setCell hgn _, S3.out.row.other hne.symm, S3.out.nd.set i (-1)⟩
          go_wp2_with fail
          go_roundw
          case rel =>
            refine ⟨i + 1, _, by omega, by simp, fun j hj => ?_, S4.out⟩
            by_cases e : j = i
            · simp [e]
            · simp only [e, if_false]; exact HF.out j (by omega)
          case measure => simp [intOf]; omega
        · obtain rfl : i = t.T := by omega
          have HF1 : Hid (∀ j, j < t.T → f' j = -1) := HF.out
          have hmm : (Instr.makeMap 79 none).run Ybaz.prog wr = .ok (.map (some wr.heap.size)) (wr.alloc (.map #[] 0)) := rfl
          go_wp2_with fail
          clear hmm
          go_loopw [9, 10, 67] (fun v9 v10 v67 wq => v9 = .int .i64 0 ∧ v10 = .int .i64 0 ∧ v67 = .int .i64 0 ∧ CV B w gc gn t.T (.slice (some ⟨gn, 0, none⟩) t.T t.T :: .int .i64 z :: cs) f' wq) (fun _ _ _ _ => 0)
          case atStart => exact ⟨rfl, rfl, rfl, S3.out.below (step_alloc _ _) (Nat.le_trans hBw S3.out.bel.size)⟩
          case round =>
            obtain ⟨rfl, rfl, rfl, hS⟩ := hrel
            have S5 : Hid (CV B w gc gn t.T (.slice (some ⟨gn, 0, none⟩) t.T t.T :: .int .i64 z :: cs) f' wr) := hS
            clear hS cc0 S3
            have cc0 : wr.cell? ⟨gc, 0, none⟩ = some (.slice (some ⟨gn, 0, none⟩) t.T t.T) := S5.out.row.cell rfl
            go_wp2_with fail
            refine (sort26 wr).mono ?_
            rintro e w4 ⟨rfl, rfl⟩
            go_wp2_with fail
            go_loopw [5, 19, 20, 143] (fun v5 v19 v20 v143 wq => v5 = .int .i64 0 ∧ ∃ (i : Nat), i ≤ t.T ∧ v143 = .int .i64 i ∧ wq = w4) (fun _ _ _ v143 _ => t.T - (intOf v143).toNat)
            case atStart => exact ⟨rfl, 0, by omega, rfl, rfl⟩
            case round =>
              obtain ⟨rfl, i, hi, rfl, rfl⟩ := hrel
              by_cases hil : i < t.T
              · have hil' : (i : Int) < (t.T : Int) := by omega
                have cn : wr.cell? ⟨gn, i, none⟩ = some (.int .i64 (-1)) := by rw [← HF1.out i hil]; exact S5.out.nd.cell hil
                go_wp2_with fail
                go_roundw
                case rel => exact ⟨rfl, i + 1, by omega, by simp, trivial⟩
                case measure => simp [intOf]; omega
              · obtain rfl : i = t.T := by omega
                have cz : wr.cell? ⟨gc, 1, none⟩ = some (.int .i64 z) := S5.out.row.cell rfl
                have fz : wr.frozen? ⟨gc, 1, none⟩ = false := S5.out.row.froz
                have HE : Hid (Below B w (wr.setCell ⟨gc, 1, none⟩ (.int .i64 0))) := S5.out.bel.setCell hgc _
                go_wp2_with fail
                go_ret2
                exact ⟨rfl, HE.out⟩

/-- A closure as newViewClosure lays it. -/
theorem built61 : ∃ cs : List Value, ∀ a n c, Ybaz.prog.built 61 [(0, .slice a n c), (20, .int .i64 4194304), (22, .int .i64 1024)] = some (.slice a n c :: .int .i64 0 :: cs).toArray :=
  ⟨((Ybaz.prog.built 61 [(0, .slice none 0 0), (20, .int .i64 4194304), (22, .int .i64 1024)]).getD #[]).toList.drop 2, fun a n c => by kernel_rfl⟩
theorem exec_build61 {o : Oper} {x : Operand} (ho : o.op = .build 61 #[(0, x), (20, .const (.int .i64 4194304)), (22, .const (.int .i64 1024))]) {act : Act} {a : Option Addr} {n c : Nat} (hx : act.eval x = .slice a n c) {cs : List Value}
    (hb : ∀ a n c, Ybaz.prog.built 61 [(0, .slice a n c), (20, .int .i64 4194304), (22, .int .i64 1024)] = some (.slice a n c :: .int .i64 0 :: cs).toArray) (w : World) :
    (execOp act.eval o).run Ybaz.prog w = .ok (.value (.agg (.slice a n c :: .int .i64 0 :: cs).toArray)) w := by
  unfold execOp
  simp only [ho, Sem.run_bind]
  rw [show (Array.map (fun (z : Nat × Operand) => (z.fst, act.eval z.snd)) #[(0, x), (20, .const (.int .i64 4194304)), (22, .const (.int .i64 1024))]) = #[(0, .slice a n c), (20, .int .i64 4194304), (22, .int .i64 1024)] from by simp only [List.map_toArray, List.map_cons, List.map_nil, hx]; rfl, run_build w 61 #[(0, .slice a n c), (20, .int .i64 4194304), (22, .int .i64 1024)] _ (hb a n c)]
  rfl

set_option maxHeartbeats 2000000 in
set_option maxRecDepth 20000 in
theorem closure7 (t : TB) (ok : t.Ok) (w : World) (hT : t.At w) :
    Calls Ybaz.prog 7 #[.pointer (some ⟨t.gt, 0, none⟩), .agg #[.slice none 0 0, .slice none 0 0]] w fun e w' => e = .returned (.tuple #[.pointer none, .bool true]) ∧ Below w.heap.size w w' := by
  obtain ⟨T1, T2⟩ := ok.T
  have HT : Hid (t.At w) := hT
  clear hT
  obtain ⟨cs, hcs⟩ := built61
  have HC : Hid _ := hcs
  clear hcs
  obtain ⟨w1, hw1⟩ : ∃ w1, w1 = w.alloc (.cells #[.slice none 0 0, .slice none 0 0] 30) := ⟨_, rfl⟩
  have HW1 : Hid _ := hw1
  have B1 : Hid (Below w.heap.size w w1) := by rw [hw1]; exact step_alloc _ _
  clear hw1
  go_enter Ybaz.func7, Ybaz.ntmps7
  go_upto_region 1 with fail
  rw [← HW1.out]
  clear HW1
  go_wp2_with fail
  refine (txns6 t ok w1 (HT.out.below B1.out)).mono ?_
  rintro e w2 ⟨rfl, rfl⟩
  have hmk := run_make28 w2 t.T (by omega)
  obtain ⟨w3, hw3⟩ : ∃ w3, w3 = w2.alloc (.cells (fcells t.T (fun _ => 0)).toArray 3) := ⟨_, rfl⟩
  rw [← hw3] at hmk
  obtain ⟨w4, hw4⟩ : ∃ w4, w4 = w3.alloc (.cells (.slice (some ⟨w2.heap.size, 0, none⟩) t.T t.T :: .int .i64 0 :: cs).toArray 61) := ⟨_, rfl⟩
  have N3 : Hid (FB w3 w2.heap.size t.T (fun _ => 0)) := by rw [hw3]; exact CB.new w2
  have N4 : Hid (CB w4 w3.heap.size 61 (.slice (some ⟨w2.heap.size, 0, none⟩) t.T t.T :: .int .i64 0 :: cs)) := by rw [hw4]; exact CB.new w3
  have F4 : Hid (FB w4 w2.heap.size t.T (fun _ => 0)) := by rw [hw4]; exact CB.alloc N3.out _
  have z3 : w3.heap.size = w2.heap.size + 1 := by rw [hw3]; simp
  have z4 : w4.heap.size = w3.heap.size + 1 := by rw [hw4]; simp
  have B4 : Hid (Below w2.heap.size w2 w4) := by rw [hw4, hw3]; exact (step_alloc _ _).trans ((step_alloc _ _).mono (by simp))
  have HW4 : Hid _ := hw4
  have Z3 : Hid _ := z3
  have Z4 : Hid _ := z4
  clear hw3 hw4 z3 z4
  go_upto_region 2 with (first
    | (refine gate (some 18) rfl ?_; refine wpList_val rfl _ (exec_build61 rfl rfl HC.out _) ?_; simp only [Act.put, List.setIfInBounds_toArray, List.set_cons_zero, List.set_cons_succ]))
  rw [← HW4.out]
  clear HW4 hmk
  go_wp2_with fail
  refine (cover10 t ok w2 w4 (HT.out.below B1.out) B4.out w2.heap.size w3.heap.size w2.heap.size (Nat.le_refl _) B4.out.size (by rw [Z3.out]; omega) (Nat.le_refl _) (by rw [Z3.out]; omega) cs 0 _ N4.out F4.out).mono ?_
  rintro e w5 ⟨rfl, hB5⟩
  have HE : Hid (Below w.heap.size w w5) := B1.out.trans ((B4.out.trans hB5).mono B1.out.size)
  clear hB5
  go_wp2_with fail
  go_ret2
  exact ⟨rfl, HE.out⟩
end Go.Proofs.YbulkdfeeGreatDoor
