import Derived.Test.YbulkdfeeGreatDoorPlain
import Derived.Test.YbulkdfeeGreatDoorCover
namespace Go.Proofs.YbulkdfeeGreatDoor
open Go.ChangeShapes Go.WideShapes Go.ChangeAt Go.RowKit
set_option linter.unusedVariables false
set_option linter.unusedSimpArgs false

theorem wpList_alloc_store {P : Program} {w : World} {ops : Array Oper} {rest : List Oper} {o1 o2 : Oper} {a : Act} {Q : Exit → Act → World → Prop} (g1 : o1.guard = none) (g2 : o2.guard = none) (T : TypeId) (d : Nat) (y : Operand)
    (h1 : o1.op = .alloc T) (hd1 : o1.dst = some d) (h2 : o2.op = .store T (.tmp d) y) (hd2 : o2.dst = none) (z : Value) (n : Nat) (hi : (P.info? T).map (fun i => (i.zero, i.size)) = some (some z, n)) (hzn : z.cells.size = n) (cells : Array Value) (hcn : cells.size = n)
    (h1c : cells.all (·.oneCell') = true) (hx : (a.put (some d) (.pointer (some ⟨w.heap.size, 0, none⟩))).eval (.tmp d) = .pointer (some ⟨w.heap.size, 0, none⟩)) (hy : (a.put (some d) (.pointer (some ⟨w.heap.size, 0, none⟩))).eval y = .agg cells)
    (h : wpList P ops Q rest (a.put (some d) (.pointer (some ⟨w.heap.size, 0, none⟩))) (w.alloc (.cells cells T))) : wpList P ops Q (o1 :: o2 :: rest) a w := by
  subst hcn
  have hzs := hzn
  obtain ⟨hz, hsz⟩ := zero_of_info hi
  refine wpList_plain g1 fun K hK => ?_
  unfold Oper.wp
  simp [execOp, h1, Instr.alloc, hz, newVar, newRow, Result.andThen]
  refine hK (a.put o1.dst (.pointer (some ⟨w.heap.size, 0, none⟩))) _ ?_
  rw [hd1]
  refine wpList_plain g2 fun K2 hK2 => ?_
  unfold Oper.wp
  have hst := run_storeAt_new (P := P) w T z.cells cells hsz hzs h1c
  simp [execOp, h2, hx, hy, hst, Result.andThen]
  have e : (a.put (some d) (.pointer (some ⟨w.heap.size, 0, none⟩))).put o2.dst undef = a.put (some d) (.pointer (some ⟨w.heap.size, 0, none⟩)) := by rw [hd2]; rfl
  exact hK2 _ _ (by first | exact h | (rw [e]; exact h))

def rw44 (gt go gb n T : Nat) (a b : Value) : List Value := [.pointer (some ⟨gt, 0, none⟩), a, b, .slice (some ⟨go, 0, none⟩) n n, .slice none 0 0, .slice (some ⟨gb, 0, none⟩) T T, .pointer none]
theorem built44 (gt go gb n T : Nat) : Ybaz.prog.built 44 [(0, .pointer (some ⟨gt, 0, none⟩)), (2, .slice (some ⟨go, 0, none⟩) n n), (4, .slice (some ⟨gb, 0, none⟩) T T)] = some (rw44 gt go gb n T (.slice none 0 0) (.slice none 0 0)).toArray := by kernel_rfl
theorem exec_build44 {o : Oper} {x y z : Operand} (ho : o.op = .build 44 #[(0, x), (2, y), (4, z)]) {act : Act} {gt go gb n T : Nat} (hx : act.eval x = .pointer (some ⟨gt, 0, none⟩)) (hy : act.eval y = .slice (some ⟨go, 0, none⟩) n n) (hz : act.eval z = .slice (some ⟨gb, 0, none⟩) T T) (w : World) :
    (execOp act.eval o).run Ybaz.prog w = .ok (.value (.agg (rw44 gt go gb n T (.slice none 0 0) (.slice none 0 0)).toArray)) w := by
  unfold execOp
  simp only [ho, Sem.run_bind]
  rw [show (Array.map (fun (z : Nat × Operand) => (z.fst, act.eval z.snd)) #[(0, x), (2, y), (4, z)]) = #[(0, .pointer (some ⟨gt, 0, none⟩)), (2, .slice (some ⟨go, 0, none⟩) n n), (4, .slice (some ⟨gb, 0, none⟩) T T)] from by simp only [List.map_toArray, List.map_cons, List.map_nil, hx, hy, hz], run_build w 44 #[(0, .pointer (some ⟨gt, 0, none⟩)), (2, .slice (some ⟨go, 0, none⟩) n n), (4, .slice (some ⟨gb, 0, none⟩) T T)] _ (built44 gt go gb n T)]
  rfl
/-- newViewRule's own rows. -/
structure NV (w1 : World) (t : TB) (go gb gr : Nat) (a b : Value) (f : Nat → Int) (g : Nat → Bool) (wq : World) : Prop where
  bel : Below w1.heap.size w1 wq
  row : CB wq gr 44 (rw44 t.gt go gb t.n t.T a b)
  op : FB wq go t.n f
  bd : BB wq gb t.T g
section
variable {w1 : World} {t : TB} {go gb gr B : Nat} {a b : Value} {f : Nat → Int} {g : Nat → Bool} {wq wq' : World}
theorem NV.below (h : NV w1 t go gb gr a b f g wq) (hB : Below wq.heap.size wq wq') : NV w1 t go gb gr a b f g wq' :=
  ⟨h.bel.trans (hB.mono h.bel.size), h.row.below hB h.row.lt, CB.below h.op hB (CB.lt h.op), CB.below h.bd hB (CB.lt h.bd)⟩
theorem NV.grown {v : Value} {xs : List Int} (h : NV w1 t go gb gr a b f g wq) (hO : OI B wq v xs) (hG : wq.grownBy wq' v.ownBlock) (hB : go < B) (hb : w1.heap.size ≤ B) : NV w1 t go gb gr a b f g wq' :=
  ⟨h.bel.grown hG h.bel.size (fun k hk => Nat.le_trans hb (own_tag hO hk).1), h.row.grown hG (own_ne hO h.row (by decide)), CB.grown h.op hG (fun e => by have := (own_tag hO e).1; omega), CB.grown h.bd hG (own_ne hO h.bd (by decide))⟩
theorem NV.size {wq : World} (h : NV w1 t go gb gr a b f g wq) : w1.heap.size ≤ wq.heap.size := h.bel.size
end
/-- Two rows of the call's own in two blocks. -/
def AP (v v' : Value) : Prop := ∀ k, v.ownBlock = some k → v'.ownBlock ≠ some k
theorem AP.left {v v' v1 : Value} {w : World} {B : Nat} {xs : List Int} (h : AP v v') (ho : OI B w v' xs) (hl : v1.ownBlock = v.ownBlock ∨ ∃ k, v1.ownBlock = some k ∧ w.heap.size ≤ k) : AP v1 v' := fun k hk hk' => by
  rcases hl with e | ⟨j, hj, hle⟩
  · exact h k (by rw [← e]; exact hk) hk'
  · rw [hk] at hj
    cases hj
    have := (own_tag ho hk').2.1
    omega
theorem AP.right {v v' v1 : Value} {w : World} {B : Nat} {xs : List Int} (h : AP v v') (ho : OI B w v xs) (hl : v1.ownBlock = v'.ownBlock ∨ ∃ k, v1.ownBlock = some k ∧ w.heap.size ≤ k) : AP v v1 := fun k hk hk' => by
  rcases hl with e | ⟨j, hj, hle⟩
  · exact h k hk (by rw [← e]; exact hk')
  · rw [hk'] at hj
    cases hj
    have := (own_tag ho hk).2.1
    omega
theorem OI.below {B : Nat} {w w' : World} {v : Value} {xs : List Int} (h : OI B w v xs) (hB : Below w.heap.size w w') : OI B w' v xs := own_below h hB
theorem OI.alloc {B : Nat} {w : World} {v : Value} {xs : List Int} (h : OI B w v xs) (o : Obj) : OI B (w.alloc o) v xs := own_alloc h o
theorem OI.other {B : Nat} {w : World} {v : Value} {xs : List Int} (h : OI B w v xs) {g i : Nat} {u : Value} (hg : g < B) : OI B (w.setCell ⟨g, i, none⟩ u) v xs := own_set h (fun e => by have := (own_tag h e).1; omega)
theorem info36 : (Ybaz.prog.info? 36).map (fun i => (i.zero, i.size)) = some (some usZ, 7) := by kernel_rfl
theorem sz36 : (Ybaz.prog.info? 36).map (·.size) = some 7 := by kernel_rfl
theorem Us.len (u : Us) : u.cells.length = 7 := rfl
theorem Us.one (u : Us) : u.cells.toArray.all (·.oneCell') = true := by
  refine all_oneCell_toArray fun v hv => ?_
  simp [Us.cells] at hv
  rcases hv with rfl | rfl | rfl | rfl | rfl | rfl | rfl <;> rfl

set_option maxHeartbeats 4000000 in
set_option maxRecDepth 40000 in
theorem rule5 (t : TB) (ok : t.Ok) (ca : Option Addr) (cc : Nat) (cs : List Nat) (hcl : cs.length ≤ 1024) (hcs : ∀ c ∈ cs, ∃ u, t.U[c]? = some u ∧ 0 ≤ u.r) (w : World) (hT : t.At w) (hC : IA w ca (cs.map (fun k : Nat => (k : Int)))) :
    Calls Ybaz.prog 5 #[.pointer (some ⟨t.gt, 0, none⟩), .agg #[.slice none 0 0, .slice none 0 0], .slice ca cs.length cc] w fun e w' => ∃ gr go gb gi gs F, e = .returned (.tuple #[.pointer (some ⟨gr, 0, none⟩), .bool true]) ∧
      NV w t go gb gr (.slice (some ⟨gi, 0, none⟩) (keys (t.U.map Us.r)).length (keys (t.U.map Us.r)).length) (.slice (some ⟨gs, 0, none⟩) (t.T + 1) (t.T + 1)) (fun i => (cnt (t.U.map Us.r) (t.us i) (t.us (i + 1)) : Int)) (fun s => cs.any (fun c => decide ((t.U.map Us.r).getD c (-2) = (s : Int)))) w' ∧
      FB w' gs (t.T + 1) (fun j => (pre (keys (t.U.map Us.r)) j : Int)) ∧ FB w' gi (keys (t.U.map Us.r)).length F ∧ (∀ (i v : Nat), (idx (t.U.map Us.r) (t.U.map Us.r).length)[i]? = some v → F (pos (keys (t.U.map Us.r)) i) = (v : Int)) := by
  obtain ⟨T1, T2⟩ := ok.T
  have hn3 := ok.n
  obtain ⟨L, hL⟩ : ∃ L, L = t.U.map Us.r := ⟨_, rfl⟩
  rw [← hL]
  have HL : Hid _ := hL
  clear hL
  have HT : Hid (t.At w) := hT
  have HC : Hid (IA w ca (cs.map (fun k : Nat => (k : Int)))) := hC
  clear hT hC
  obtain ⟨w1, hw1⟩ : ∃ w1, w1 = w.alloc (.cells #[.slice none 0 0, .slice none 0 0] 30) := ⟨_, rfl⟩
  have HW1 : Hid _ := hw1
  have N1 : Hid (CB w1 w.heap.size 30 [.slice none 0 0, .slice none 0 0]) := by rw [hw1]; exact CB.new w
  have B1 : Hid (Below w.heap.size w w1) := by rw [hw1]; exact step_alloc _ _
  have A1 : Hid (t.At w1) := HT.out.below B1.out
  clear hw1
  go_enter Ybaz.func5, Ybaz.ntmps5
  go_upto_region 1 with fail
  rw [← HW1.out]
  clear HW1
  go_cut [8] from 17 to 28 (fun s8 wx => ∃ go gb gr, s8 = .pointer (some ⟨gr, 0, none⟩) ∧ NV w1 t go gb gr (.slice none 0 0) (.slice none 0 0) (fun _ => 0) (fun _ => false) wx ∧ w1.heap.size ≤ go ∧ w1.heap.size ≤ gb ∧ w1.heap.size ≤ gr)
  case first =>
    have SA : Hid (Below w1.heap.size w1 w1.drew) := (Below.refl _ _).drew
    refine wp_region_noPanic ?_
    refine wp_region_held_drew (S := Below w1.heap.size w1) (by kernel_rfl) SA.out (fun _ => ?_)
    refine wpAnyH_take (i := 0) (oi := { dst := some 17, op := _, type := _, pos := _, after := _, guard := _ }) (v := .pointer (some ⟨t.gt, 0, none⟩)) rfl (by kernel_rfl) (by kernel_rfl) (by kernel_rfl) (fun _ _ _ h => h) (Or.inl ⟨by rfl, fun W hW => by clear hW; go_simp⟩) SA.out ?_
    simp only [Act.put, List.setIfInBounds_toArray, List.set_cons_zero, List.set_cons_succ]
    refine wpAnyH_take (i := 1) (oi := { dst := some 18, op := _, type := _, pos := _, after := _, guard := _ }) (v := .pointer (some ⟨t.gt, 0, none⟩)) rfl (by kernel_rfl) (by kernel_rfl) (by kernel_rfl) (fun _ _ _ h => h) (Or.inl ⟨by rfl, fun W hW => by clear hW; go_simp⟩) SA.out ?_
    simp only [Act.put, List.setIfInBounds_toArray, List.set_cons_zero, List.set_cons_succ]
    refine wpAnyH_take (i := 2) (oi := { dst := some 19, op := _, type := _, pos := _, after := _, guard := _ }) (v := .pointer (some ⟨t.gt, 0, none⟩)) rfl (by kernel_rfl) (by kernel_rfl) (by kernel_rfl) (fun _ _ _ h => h) (Or.inl ⟨by rfl, fun W hW => by clear hW; go_simp⟩) SA.out ?_
    simp only [Act.put, List.setIfInBounds_toArray, List.set_cons_zero, List.set_cons_succ]
    refine wpAnyH_take (i := 3) (oi := { dst := some 20, op := _, type := _, pos := _, after := _, guard := _ }) (v := .pointer (some ⟨t.gt, 2, none⟩)) rfl (by kernel_rfl) (by kernel_rfl) (by kernel_rfl) (fun _ _ _ h => h) (Or.inl ⟨by rfl, fun W hW => by clear hW; go_simp⟩) SA.out ?_
    simp only [Act.put, List.setIfInBounds_toArray, List.set_cons_zero, List.set_cons_succ]
    refine wpAnyH_take (i := 4) (oi := { dst := some 21, op := _, type := _, pos := _, after := _, guard := _ }) (v := .slice (some ⟨t.gw, 0, none⟩) t.n t.n) rfl (by kernel_rfl) (by kernel_rfl) (by kernel_rfl) (fun _ _ _ h => h) (Or.inl ⟨by rfl, fun W hW => by have hd := (A1.out.below hW).row.cell (i := 2) rfl; clear hW; go_simp⟩) SA.out ?_
    simp only [Act.put, List.setIfInBounds_toArray, List.set_cons_zero, List.set_cons_succ]
    refine wpAnyH_take (i := 5) (oi := { dst := some 22, op := _, type := _, pos := _, after := _, guard := _ }) (v := .int .i64 (t.n : Int)) rfl (by kernel_rfl) (by kernel_rfl) (by kernel_rfl) (fun _ _ _ h => h) (Or.inl ⟨by rfl, fun W hW => by clear hW; go_simp⟩) SA.out ?_
    simp only [Act.put, List.setIfInBounds_toArray, List.set_cons_zero, List.set_cons_succ]
    refine wpAnyH_take (i := 7) (oi := { dst := some 24, op := _, type := _, pos := _, after := _, guard := _ }) (v := .pointer (some ⟨t.gt, 0, none⟩)) rfl (by kernel_rfl) (by kernel_rfl) (by kernel_rfl) (fun _ _ _ h => h) (Or.inl ⟨by rfl, fun W hW => by clear hW; go_simp⟩) SA.out ?_
    simp only [Act.put, List.setIfInBounds_toArray, List.set_cons_zero, List.set_cons_succ]
    refine wpAnyH_ready (rs := [6, 8]) (by kernel_rfl) (by simp) ?_
    refine AllReadyH.cons rfl (fun K hK => ?_) (AllReadyH.cons rfl (fun K hK => ?_) AllReadyH.nil)
    · refine step_make28 rfl (.tmp 22) (.tmp 22) rfl t.n (by omega) rfl rfl ?_
      simp only [Act.put, List.setIfInBounds_toArray, List.set_cons_zero, List.set_cons_succ]
      obtain ⟨y2, hy2⟩ : ∃ y, y = w1.drew.alloc (.cells (fcells t.n (fun _ => 0)).toArray 3) := ⟨_, rfl⟩
      have Sy2 : Hid (Below w1.heap.size w1 y2) := by rw [hy2]; exact SA.out.trans ((step_alloc _ _).mono SA.out.size)
      have Oy2 : Hid (FB y2 w1.heap.size t.n (fun _ => 0)) := by rw [hy2]; exact CB.new w1.drew
      rw [← hy2]
      clear hy2
      refine hK.out _ _ Sy2.out (fun _ => ?_)
      clear hK K
      refine wpAnyH_ready (rs := [8]) (by kernel_rfl) (by simp) ?_
      refine AllReadyH.cons rfl (fun K hK => ?_) AllReadyH.nil
      rw [if_pos (by rfl)]
      go_simp
      refine (txns6 t ok y2 (A1.out.below Sy2.out)).mono ?_
      rintro e wt ⟨rfl, hwt⟩
      rw [hwt]
      clear hwt wt
      refine hK.out _ _ Sy2.out (fun _ => ?_)
      clear hK K
      refine wpAnyH_ready (rs := [9]) (by kernel_rfl) (by simp) ?_
      refine AllReadyH.cons rfl (fun K hK => ?_) AllReadyH.nil
      refine step_make41 rfl (.tmp 25) (.tmp 25) rfl t.T (by omega) rfl rfl ?_
      simp only [Act.put, List.setIfInBounds_toArray, List.set_cons_zero, List.set_cons_succ]
      obtain ⟨y3, hy3⟩ : ∃ y, y = y2.alloc (.cells (bcells t.T (fun _ => false)).toArray 4) := ⟨_, rfl⟩
      have Sy3 : Hid (Below w1.heap.size w1 y3) := by rw [hy3]; exact Sy2.out.trans ((step_alloc _ _).mono Sy2.out.size)
      have Dy3 : Hid (BB y3 y2.heap.size t.T (fun _ => false)) := by rw [hy3]; exact CB.new y2
      have Oy3 : Hid (FB y3 w1.heap.size t.n (fun _ => 0)) := by rw [hy3]; exact CB.alloc Oy2.out _
      rw [← hy3]
      clear hy3
      refine hK.out _ _ Sy3.out (fun _ => ?_)
      clear hK K
      refine wpAnyH_take (i := 10) (oi := { dst := some 27, op := _, type := _, pos := _, after := _, guard := _ }) (v := .agg (rw44 t.gt w1.heap.size y2.heap.size t.n t.T (.slice none 0 0) (.slice none 0 0)).toArray) rfl (by kernel_rfl) (by kernel_rfl) (by kernel_rfl) (fun _ _ _ h => h) (Or.inl ⟨by rfl, fun W hW => exec_build44 rfl rfl rfl rfl W⟩) Sy3.out ?_
      simp only [Act.put, List.setIfInBounds_toArray, List.set_cons_zero, List.set_cons_succ]
      refine wpAnyH_ready (rs := [11]) (by kernel_rfl) (by simp) ?_
      refine AllReadyH.cons rfl (fun K hK => ?_) AllReadyH.nil
      rw [if_pos (by rfl)]
      go_simp
      obtain ⟨y9, hy9⟩ : ∃ y, y = y3.alloc (.cells (rw44 t.gt w1.heap.size y2.heap.size t.n t.T (.slice none 0 0) (.slice none 0 0)).toArray 44) := ⟨_, rfl⟩
      have Q9 : Hid (NV w1 t w1.heap.size y2.heap.size y3.heap.size (.slice none 0 0) (.slice none 0 0) (fun _ => 0) (fun _ => false) y9) := by rw [hy9]; exact ⟨Sy3.out.trans ((step_alloc _ _).mono Sy3.out.size), CB.new y3, CB.alloc Oy3.out _, CB.alloc Dy3.out _⟩
      have SY9 : Hid (Below w1.heap.size w1 y9) := Q9.out.bel
      rw [← hy9]
      clear hy9
      refine hK.out _ _ SY9.out (fun _ => ?_)
      clear hK K
      refine wpAnyH_take (i := 12) (oi := { dst := some 8, op := _, type := _, pos := _, after := _, guard := _ }) (v := .pointer (some ⟨y3.heap.size, 0, none⟩)) rfl (by kernel_rfl) (by kernel_rfl) (by kernel_rfl) (fun _ _ _ h => h) (Or.inl ⟨by rfl, fun W hW => by clear hW; go_simp⟩) SY9.out ?_
      simp only [Act.put, List.setIfInBounds_toArray, List.set_cons_zero, List.set_cons_succ]
      refine wpAnyH_done (by kernel_rfl) ?_ _
      refine NoPanic.normal ?_
      go_wp2_with fail
      go_meet
      case rel => exact ⟨_, _, _, rfl, Q9.out, by first | exact Sy3.out.size | exact Nat.le_refl _ | exact Sy2.out.size, by first | exact Nat.le_refl _ | exact Sy2.out.size, Sy3.out.size⟩
    · rw [if_pos (by rfl)]
      go_simp
      refine (txns6 t ok w1.drew (A1.out.below SA.out)).mono ?_
      rintro e wt ⟨rfl, hwt⟩
      rw [hwt]
      clear hwt wt
      refine hK.out _ _ SA.out (fun _ => ?_)
      clear hK K
      refine wpAnyH_ready (rs := [6, 9]) (by kernel_rfl) (by simp) ?_
      refine AllReadyH.cons rfl (fun K hK => ?_) (AllReadyH.cons rfl (fun K hK => ?_) AllReadyH.nil)
      · refine step_make28 rfl (.tmp 22) (.tmp 22) rfl t.n (by omega) rfl rfl ?_
        simp only [Act.put, List.setIfInBounds_toArray, List.set_cons_zero, List.set_cons_succ]
        obtain ⟨y2, hy2⟩ : ∃ y, y = w1.drew.alloc (.cells (fcells t.n (fun _ => 0)).toArray 3) := ⟨_, rfl⟩
        have Sy2 : Hid (Below w1.heap.size w1 y2) := by rw [hy2]; exact SA.out.trans ((step_alloc _ _).mono SA.out.size)
        have Oy2 : Hid (FB y2 w1.heap.size t.n (fun _ => 0)) := by rw [hy2]; exact CB.new w1.drew
        rw [← hy2]
        clear hy2
        refine hK.out _ _ Sy2.out (fun _ => ?_)
        clear hK K
        refine wpAnyH_ready (rs := [9]) (by kernel_rfl) (by simp) ?_
        refine AllReadyH.cons rfl (fun K hK => ?_) AllReadyH.nil
        refine step_make41 rfl (.tmp 25) (.tmp 25) rfl t.T (by omega) rfl rfl ?_
        simp only [Act.put, List.setIfInBounds_toArray, List.set_cons_zero, List.set_cons_succ]
        obtain ⟨y3, hy3⟩ : ∃ y, y = y2.alloc (.cells (bcells t.T (fun _ => false)).toArray 4) := ⟨_, rfl⟩
        have Sy3 : Hid (Below w1.heap.size w1 y3) := by rw [hy3]; exact Sy2.out.trans ((step_alloc _ _).mono Sy2.out.size)
        have Dy3 : Hid (BB y3 y2.heap.size t.T (fun _ => false)) := by rw [hy3]; exact CB.new y2
        have Oy3 : Hid (FB y3 w1.heap.size t.n (fun _ => 0)) := by rw [hy3]; exact CB.alloc Oy2.out _
        rw [← hy3]
        clear hy3
        refine hK.out _ _ Sy3.out (fun _ => ?_)
        clear hK K
        refine wpAnyH_take (i := 10) (oi := { dst := some 27, op := _, type := _, pos := _, after := _, guard := _ }) (v := .agg (rw44 t.gt w1.heap.size y2.heap.size t.n t.T (.slice none 0 0) (.slice none 0 0)).toArray) rfl (by kernel_rfl) (by kernel_rfl) (by kernel_rfl) (fun _ _ _ h => h) (Or.inl ⟨by rfl, fun W hW => exec_build44 rfl rfl rfl rfl W⟩) Sy3.out ?_
        simp only [Act.put, List.setIfInBounds_toArray, List.set_cons_zero, List.set_cons_succ]
        refine wpAnyH_ready (rs := [11]) (by kernel_rfl) (by simp) ?_
        refine AllReadyH.cons rfl (fun K hK => ?_) AllReadyH.nil
        rw [if_pos (by rfl)]
        go_simp
        obtain ⟨y9, hy9⟩ : ∃ y, y = y3.alloc (.cells (rw44 t.gt w1.heap.size y2.heap.size t.n t.T (.slice none 0 0) (.slice none 0 0)).toArray 44) := ⟨_, rfl⟩
        have Q9 : Hid (NV w1 t w1.heap.size y2.heap.size y3.heap.size (.slice none 0 0) (.slice none 0 0) (fun _ => 0) (fun _ => false) y9) := by rw [hy9]; exact ⟨Sy3.out.trans ((step_alloc _ _).mono Sy3.out.size), CB.new y3, CB.alloc Oy3.out _, CB.alloc Dy3.out _⟩
        have SY9 : Hid (Below w1.heap.size w1 y9) := Q9.out.bel
        rw [← hy9]
        clear hy9
        refine hK.out _ _ SY9.out (fun _ => ?_)
        clear hK K
        refine wpAnyH_take (i := 12) (oi := { dst := some 8, op := _, type := _, pos := _, after := _, guard := _ }) (v := .pointer (some ⟨y3.heap.size, 0, none⟩)) rfl (by kernel_rfl) (by kernel_rfl) (by kernel_rfl) (fun _ _ _ h => h) (Or.inl ⟨by rfl, fun W hW => by clear hW; go_simp⟩) SY9.out ?_
        simp only [Act.put, List.setIfInBounds_toArray, List.set_cons_zero, List.set_cons_succ]
        refine wpAnyH_done (by kernel_rfl) ?_ _
        refine NoPanic.normal ?_
        go_wp2_with fail
        go_meet
        case rel => exact ⟨_, _, _, rfl, Q9.out, by first | exact Sy3.out.size | exact Nat.le_refl _ | exact Sy2.out.size, by first | exact Nat.le_refl _ | exact Sy2.out.size, Sy3.out.size⟩
      · refine step_make41 rfl (.tmp 25) (.tmp 25) rfl t.T (by omega) rfl rfl ?_
        simp only [Act.put, List.setIfInBounds_toArray, List.set_cons_zero, List.set_cons_succ]
        obtain ⟨y2, hy2⟩ : ∃ y, y = w1.drew.alloc (.cells (bcells t.T (fun _ => false)).toArray 4) := ⟨_, rfl⟩
        have Sy2 : Hid (Below w1.heap.size w1 y2) := by rw [hy2]; exact SA.out.trans ((step_alloc _ _).mono SA.out.size)
        have Dy2 : Hid (BB y2 w1.heap.size t.T (fun _ => false)) := by rw [hy2]; exact CB.new w1.drew
        rw [← hy2]
        clear hy2
        refine hK.out _ _ Sy2.out (fun _ => ?_)
        clear hK K
        refine wpAnyH_ready (rs := [6]) (by kernel_rfl) (by simp) ?_
        refine AllReadyH.cons rfl (fun K hK => ?_) AllReadyH.nil
        refine step_make28 rfl (.tmp 22) (.tmp 22) rfl t.n (by omega) rfl rfl ?_
        simp only [Act.put, List.setIfInBounds_toArray, List.set_cons_zero, List.set_cons_succ]
        obtain ⟨y3, hy3⟩ : ∃ y, y = y2.alloc (.cells (fcells t.n (fun _ => 0)).toArray 3) := ⟨_, rfl⟩
        have Sy3 : Hid (Below w1.heap.size w1 y3) := by rw [hy3]; exact Sy2.out.trans ((step_alloc _ _).mono Sy2.out.size)
        have Oy3 : Hid (FB y3 y2.heap.size t.n (fun _ => 0)) := by rw [hy3]; exact CB.new y2
        have Dy3 : Hid (BB y3 w1.heap.size t.T (fun _ => false)) := by rw [hy3]; exact CB.alloc Dy2.out _
        rw [← hy3]
        clear hy3
        refine hK.out _ _ Sy3.out (fun _ => ?_)
        clear hK K
        refine wpAnyH_take (i := 10) (oi := { dst := some 27, op := _, type := _, pos := _, after := _, guard := _ }) (v := .agg (rw44 t.gt y2.heap.size w1.heap.size t.n t.T (.slice none 0 0) (.slice none 0 0)).toArray) rfl (by kernel_rfl) (by kernel_rfl) (by kernel_rfl) (fun _ _ _ h => h) (Or.inl ⟨by rfl, fun W hW => exec_build44 rfl rfl rfl rfl W⟩) Sy3.out ?_
        simp only [Act.put, List.setIfInBounds_toArray, List.set_cons_zero, List.set_cons_succ]
        refine wpAnyH_ready (rs := [11]) (by kernel_rfl) (by simp) ?_
        refine AllReadyH.cons rfl (fun K hK => ?_) AllReadyH.nil
        rw [if_pos (by rfl)]
        go_simp
        obtain ⟨y9, hy9⟩ : ∃ y, y = y3.alloc (.cells (rw44 t.gt y2.heap.size w1.heap.size t.n t.T (.slice none 0 0) (.slice none 0 0)).toArray 44) := ⟨_, rfl⟩
        have Q9 : Hid (NV w1 t y2.heap.size w1.heap.size y3.heap.size (.slice none 0 0) (.slice none 0 0) (fun _ => 0) (fun _ => false) y9) := by rw [hy9]; exact ⟨Sy3.out.trans ((step_alloc _ _).mono Sy3.out.size), CB.new y3, CB.alloc Oy3.out _, CB.alloc Dy3.out _⟩
        have SY9 : Hid (Below w1.heap.size w1 y9) := Q9.out.bel
        rw [← hy9]
        clear hy9
        refine hK.out _ _ SY9.out (fun _ => ?_)
        clear hK K
        refine wpAnyH_take (i := 12) (oi := { dst := some 8, op := _, type := _, pos := _, after := _, guard := _ }) (v := .pointer (some ⟨y3.heap.size, 0, none⟩)) rfl (by kernel_rfl) (by kernel_rfl) (by kernel_rfl) (fun _ _ _ h => h) (Or.inl ⟨by rfl, fun W hW => by clear hW; go_simp⟩) SY9.out ?_
        simp only [Act.put, List.setIfInBounds_toArray, List.set_cons_zero, List.set_cons_succ]
        refine wpAnyH_done (by kernel_rfl) ?_ _
        refine NoPanic.normal ?_
        go_wp2_with fail
        go_meet
        case rel => exact ⟨_, _, _, rfl, Q9.out, by first | exact Sy3.out.size | exact Nat.le_refl _ | exact Sy2.out.size, by first | exact Nat.le_refl _ | exact Sy2.out.size, Sy3.out.size⟩
  case rest =>
    obtain ⟨go, gb, gr, rfl, hN, g1, g2, g3⟩ := hcut
    have V1 : Hid (NV w1 t go gb gr (.slice none 0 0) (.slice none 0 0) (fun _ => 0) (fun _ => false) wc) := hN
    clear hN
    have A2 : Hid (t.At wc) := A1.out.below V1.out.bel
    have lt4 : w.heap.size < w1.heap.size := N1.out.lt
    have c0 := (N1.out.below V1.out.bel lt4).cell (i := 0) rfl
    have c1 := (N1.out.below V1.out.bel lt4).cell (i := 1) rfl
    go_wp2_with fail
    refine (closure7 t ok wc A2.out).mono ?_
    rintro e w3 ⟨rfl, hB3⟩
    have V2 : Hid (NV w1 t go gb gr (.slice none 0 0) (.slice none 0 0) (fun _ => 0) (fun _ => false) w3) := V1.out.below hB3
    clear hB3 c0 c1 A2 V1
    have k6 : w3.cell? ⟨gr, 6, none⟩ = some (.pointer none) := V2.out.row.cell rfl
    have q6 : w3.frozen? ⟨gr, 6, none⟩ = false := V2.out.row.froz
    obtain ⟨w4, hw4⟩ : ∃ w4, w4 = w3.setCell ⟨gr, 6, none⟩ (.pointer none) := ⟨_, rfl⟩
    have x1 : gr ≠ go := CB.apart V2.out.row V2.out.op (by decide)
    have x2 : gr ≠ gb := CB.apart V2.out.row V2.out.bd (by decide)
    have x3 : go ≠ gb := CB.apart V2.out.op V2.out.bd (by decide)
    have V3 : Hid (NV w1 t go gb gr (.slice none 0 0) (.slice none 0 0) (fun _ => 0) (fun _ => false) w4) := by
      rw [hw4]
      exact ⟨V2.out.bel.setCell g3 _, CB.set (i := 6) (v := .pointer none) V2.out.row, CB.other V2.out.op x1, CB.other V2.out.bd x2⟩
    have HW4 : Hid _ := hw4
    clear hw4 V2
    have kt2 : w4.cell? ⟨t.gt, 2, none⟩ = some (.slice (some ⟨t.gw, 0, none⟩) t.n t.n) := (A1.out.below V3.out.bel).row.cell rfl
    obtain ⟨B, hB⟩ : ∃ B, B = w4.heap.size := ⟨_, rfl⟩
    have HB : Hid (B ≤ w4.heap.size) := by rw [hB]; exact Nat.le_refl _
    have lgo : go < B := by rw [hB]; exact CB.lt V3.out.op
    have lgb : gb < B := by rw [hB]; exact CB.lt V3.out.bd
    have lgr : gr < B := by rw [hB]; exact V3.out.row.lt
    have lw1 : w1.heap.size ≤ B := by rw [hB]; exact V3.out.bel.size
    clear hB
    go_upto_region 7 with fail
    rw [← HW4.out]
    clear HW4 k6 q6
    go_wp2_with fail
    have HU : Hid (∀ (j : Nat) (u : Us), t.U[j]? = some u → L[j]? = some u.r) := fun j u hu => by rw [HL.out, List.getElem?_map, hu]; rfl
    have HLL : Hid (L.length = t.U.length) := by rw [HL.out]; exact List.length_map _
    have hlen := ok.len
    go_loopw [10, 11, 45] (fun v10 v11 v45 wq => ∃ i : Nat, i ≤ t.n ∧ v45 = .int .i64 i ∧ NV w1 t go gb gr (.slice none 0 0) (.slice none 0 0) (ofn L t.us i 0) (fun _ => false) wq ∧ OI B wq v10 (nn (L.take (t.us i))) ∧ OI B wq v11 ((idx L (t.us i)).map (fun k : Nat => (k : Int))) ∧ AP v10 v11 ∧ B ≤ wq.heap.size) (fun _ _ v45 _ => t.n - (intOf v45).toNat)
    case atStart => exact ⟨0, by omega, rfl, ⟨V3.out.bel, V3.out.row, FB.congr V3.out.op (fun j _ => ofn_start L t.us j), V3.out.bd⟩, by rw [ok.us0]; exact OI.nil _ _, by rw [ok.us0]; exact OI.nil _ _, fun k hk => (Option.some_ne_none k hk.symm).elim, HB.out⟩
    case round =>
      obtain ⟨i, hi, rfl, hV, hO1, hO2, hAP, hBs⟩ := hrel
      have V4 : Hid (NV w1 t go gb gr (.slice none 0 0) (.slice none 0 0) (ofn L t.us i 0) (fun _ => false) wr) := hV
      have O1 : Hid (OI B wr u10 (nn (L.take (t.us i)))) := hO1
      have O2 : Hid (OI B wr u11 ((idx L (t.us i)).map (fun k : Nat => (k : Int)))) := hO2
      have P4 : Hid (AP u10 u11) := hAP
      have HBs : Hid (B ≤ wr.heap.size) := hBs
      clear hV hO1 hO2 hAP hBs
      by_cases hil : i < t.n
      · have hil' : (i : Int) < (t.n : Int) := by omega
        go_wp2_with fail
        refine (users8 t ok wr (A1.out.below V4.out.bel) i hil).mono ?_
        rintro e w5 ⟨⟨a, c, rfl, hUA⟩, hB5⟩
        obtain ⟨m, hm⟩ : ∃ m, t.us (i + 1) - t.us i = m := ⟨_, rfl⟩
        have hmu : t.us i + m = t.us (i + 1) := by have := ok.mono i hil; omega
        have htop := ok.top (i + 1) (by omega)
        rw [hm] at hUA ⊢
        have HUA : Hid _ := hUA
        have V5 : Hid (NV w1 t go gb gr (.slice none 0 0) (.slice none 0 0) (ofn L t.us i 0) (fun _ => false) w5) := V4.out.below hB5
        have O15 : Hid (OI B w5 u10 (nn (L.take (t.us i)))) := O1.out.below hB5
        have O25 : Hid (OI B w5 u11 ((idx L (t.us i)).map (fun k : Nat => (k : Int)))) := O2.out.below hB5
        have HB5 : Hid (B ≤ w5.heap.size) := Nat.le_trans HBs.out hB5.size
        clear hUA hB5 V4 O1 O2 hm
        go_wp2_with fail
        go_loopw [10, 11, 52] (fun v10 v11 v52 wq => ∃ k : Nat, k ≤ m ∧ v52 = .int .i64 k ∧ NV w1 t go gb gr (.slice none 0 0) (.slice none 0 0) (ofn L t.us i k) (fun _ => false) wq ∧ OI B wq v10 (nn (L.take (t.us i + k))) ∧ OI B wq v11 ((idx L (t.us i + k)).map (fun k : Nat => (k : Int))) ∧ AP v10 v11 ∧ B ≤ wq.heap.size) (fun _ _ v52 _ => m - (intOf v52).toNat)
        case atStart => exact ⟨0, by omega, rfl, V5.out, O15.out, O25.out, P4.out, HB5.out⟩
        case round =>
          obtain ⟨k, hk, rfl, hV, hO1, hO2, hAP, hBs⟩ := hrel
          have V6 : Hid (NV w1 t go gb gr (.slice none 0 0) (.slice none 0 0) (ofn L t.us i k) (fun _ => false) wr) := hV
          have O1 : Hid (OI B wr u10 (nn (L.take (t.us i + k)))) := hO1
          have O2 : Hid (OI B wr u11 ((idx L (t.us i + k)).map (fun k : Nat => (k : Int)))) := hO2
          have P6 : Hid (AP u10 u11) := hAP
          have HB6 : Hid (B ≤ wr.heap.size) := hBs
          clear hV hO1 hO2 hAP hBs
          by_cases hkl : k < m
          · have hkl' : (k : Int) < (m : Int) := by omega
            obtain ⟨u, hu⟩ : ∃ u, t.U[t.us i + k]? = some u := ⟨t.U[t.us i + k]'(by omega), List.getElem?_eq_getElem _⟩
            obtain ⟨g, o, rfl, hg, hr⟩ := HUA.out wr (A1.out.below V6.out.bel) k u (by rw [List.getElem?_take, if_pos hkl, List.getElem?_drop]; exact hu)
            have hrf := ok.rf u (List.mem_of_getElem? hu)
            have HLr0 := HU.out _ _ hu
            obtain ⟨ua, ub, uc, ud, ue, uf, rr⟩ := u
            have HR : Hid (wr.rangeAt g (o + k * 7) [.int .i64 ua, .int .i64 ub, .int .i64 uc, .int .i64 ud, .int .i64 ue, .int .i64 uf, .int .i64 rr]) := hr
            have HLr : Hid (L[t.us i + k]? = some rr) := HLr0
            obtain ⟨r1, r2⟩ : -2 ≤ rr ∧ rr < t.T := hrf
            obtain ⟨w6, hw6⟩ : ∃ w6, w6 = wr.alloc (.cells #[.int .i64 ua, .int .i64 ub, .int .i64 uc, .int .i64 ud, .int .i64 ue, .int .i64 uf, .int .i64 rr] 36) := ⟨_, rfl⟩
            have Bw6 : Hid (Below wr.heap.size wr w6) := by rw [hw6]; exact step_alloc _ _
            have k6 : w6.cell? ⟨wr.heap.size, 6, none⟩ = some (.int .i64 rr) := by rw [hw6]; exact (CB.new (cs := [.int .i64 ua, .int .i64 ub, .int .i64 uc, .int .i64 ud, .int .i64 ue, .int .i64 uf, .int .i64 rr]) wr).cell rfl
            have V7 : Hid (NV w1 t go gb gr (.slice none 0 0) (.slice none 0 0) (ofn L t.us i k) (fun _ => false) w6) := V6.out.below Bw6.out
            have O17 : Hid (OI B w6 u10 (nn (L.take (t.us i + k)))) := O1.out.below Bw6.out
            have O27 : Hid (OI B w6 u11 ((idx L (t.us i + k)).map (fun k : Nat => (k : Int)))) := O2.out.below Bw6.out
            have HB7 : Hid (B ≤ w6.heap.size) := Nat.le_trans HB6.out Bw6.out.size
            have HW6 : Hid _ := hw6
            clear hw6 hu hr hg HLr0 Bw6 V6 O1 O2
            go_upto_region 13 with (first
              | (refine gate (some 56) rfl ?_; refine wpList_val rfl (.agg #[.int .i64 ua, .int .i64 ub, .int .i64 uc, .int .i64 ud, .int .i64 ue, .int .i64 uf, .int .i64 rr]) (exec_load 36 (.tmp 55) rfl g (o + k * 7) rfl [.int .i64 ua, .int .i64 ub, .int .i64 uc, .int .i64 ud, .int .i64 ue, .int .i64 uf, .int .i64 rr] _ HR.out Ybaz.underlying36 rfl sz36) ?_; simp only [Act.put, List.setIfInBounds_toArray, List.set_cons_zero, List.set_cons_succ]))
            rw [← HW6.out]
            clear HW6 HR
            have k3 : w6.cell? ⟨gr, 3, none⟩ = some (.slice (some ⟨go, 0, none⟩) t.n t.n) := V7.out.row.cell rfl
            have ko : w6.cell? ⟨go, i, none⟩ = some (.int .i64 (ofn L t.us i k i)) := V7.out.op.cell hil
            have qo : w6.frozen? ⟨go, i, none⟩ = false := CB.froz V7.out.op
            obtain ⟨of1, of2⟩ := ofn_le L t.us i k i
            rw [HLL.out] at of2
            by_cases e1 : rr = -1
            · subst e1
              have V8 : Hid (NV w1 t go gb gr (.slice none 0 0) (.slice none 0 0) (ofn L t.us i (k + 1)) (fun _ => false) (w6.setCell ⟨go, i, none⟩ (.int .i64 (ofn L t.us i k i + 1)))) :=
                ⟨V7.out.bel.setCell g1 _, V7.out.row.other x1.symm, (V7.out.op.set i _).congr fun j _ => ofn_inc HLr.out j, CB.other V7.out.bd x3⟩
              have O18 : Hid (OI B (w6.setCell ⟨go, i, none⟩ (.int .i64 (ofn L t.us i k i + 1))) u10 (nn (L.take (t.us i + (k + 1))))) := by
                have h0 := O17.out.other (i := i) (u := .int .i64 (ofn L t.us i k i + 1)) lgo
                rw [← nn_neg HLr.out (by omega)] at h0; exact h0
              have O28 : Hid (OI B (w6.setCell ⟨go, i, none⟩ (.int .i64 (ofn L t.us i k i + 1))) u11 ((idx L (t.us i + (k + 1))).map (fun k : Nat => (k : Int)))) := by
                have h0 := O27.out.other (i := i) (u := .int .i64 (ofn L t.us i k i + 1)) lgo
                rw [← idx_neg HLr.out (by omega)] at h0; exact h0
              have HB8 : Hid (B ≤ (w6.setCell ⟨go, i, none⟩ (.int .i64 (ofn L t.us i k i + 1))).heap.size) := by show B ≤ _; simp; exact HB7.out
              go_wp2_with fail
              go_roundw
              case rel => exact ⟨k + 1, by omega, by simp, V8.out, O18.out, O28.out, P6.out, HB8.out⟩
              case measure => simp [intOf]; omega
            · have e1' : (rr == -1) = false := by simpa using e1
              have VS : Hid (NV w1 t go gb gr (.slice none 0 0) (.slice none 0 0) (ofn L t.us i (k + 1)) (fun _ => false) w6) := ⟨V7.out.bel, V7.out.row, FB.congr V7.out.op (fun j _ => ofn_same HLr.out e1 j), V7.out.bd⟩
              clear V7
              by_cases e2 : 0 ≤ rr
              · have hl1 : (nn (L.take (t.us i + k))).length ≤ 10000000 := by have := nn_le L (t.us i + k); rw [HLL.out] at this; omega
                have hl2 : ((idx L (t.us i + k)).map (fun k : Nat => (k : Int))).length ≤ 10000000 := by have := idx_le L (t.us i + k); rw [List.length_map]; omega
                have hub : t.us i + k ≤ 77100 := by omega
                have HL1 : Hid _ := hl1
                have HL2 : Hid _ := hl2
                clear hl1 hl2 ko qo k3
                go_wp2_with (first
                  | (refine gate (some 77) rfl ?_; refine wpList_buildInt rfl (.tmp 76) rfl rr rfl ?_; simp only [Act.put, List.setIfInBounds_toArray, List.set_cons_zero, List.set_cons_succ])
                  | (refine gate (some 78) rfl ?_; refine wpList_appendInt w6 rfl (.tmp 74) (.tmp 77) rfl B u10 _ rr rfl rfl O17.out HL1.out HB7.out ?_))
                intro v1 w7 hO hG hL
                have V8 : Hid (NV w1 t go gb gr (.slice none 0 0) (.slice none 0 0) (ofn L t.us i (k + 1)) (fun _ => false) w7) := VS.out.grown O17.out hG lgo lw1
                have O18 : Hid (OI B w7 v1 (nn (L.take (t.us i + (k + 1))))) := by
                  have h0 := hO
                  rw [← nn_pos HLr.out e2] at h0; exact h0
                have O28 : Hid (OI B w7 u11 ((idx L (t.us i + k)).map (fun k : Nat => (k : Int)))) := own_grown O27.out hG (fun g hg e => P6.out g e hg)
                have P8 : Hid (AP v1 u11) := P6.out.left O27.out hL
                have HB8 : Hid (B ≤ w7.heap.size) := Nat.le_trans HB7.out hG.size
                clear hO hG hL VS O17 O27 k6
                have kt1 : w7.cell? ⟨t.gt, 1, none⟩ = some (.slice (some ⟨t.gs, 0, none⟩) (t.n + 1) (t.n + 1)) := (A1.out.below V8.out.bel).row.cell rfl
                have ks1 : w7.cell? ⟨t.gs, i, none⟩ = some (.int .i64 (t.us i)) := (A1.out.below V8.out.bel).st.cell (by omega)
                have hin : (i : Int) < ((t.n + 1 : Nat) : Int) := by omega
                go_wp2_with (first
                  | (refine gate (some 89) rfl ?_; refine wpList_buildInt rfl (.tmp 88) rfl ((t.us i : Int) + (k : Int)) rfl ?_; simp only [Act.put, List.setIfInBounds_toArray, List.set_cons_zero, List.set_cons_succ])
                  | (refine gate (some 90) rfl ?_; refine wpList_appendInt w7 rfl (.tmp 79) (.tmp 89) rfl B u11 _ ((t.us i : Int) + (k : Int)) rfl rfl O28.out HL2.out HB8.out ?_))
                intro v2 w8 hO hG hL
                have V9 : Hid (NV w1 t go gb gr (.slice none 0 0) (.slice none 0 0) (ofn L t.us i (k + 1)) (fun _ => false) w8) := V8.out.grown O28.out hG lgo lw1
                have O29 : Hid (OI B w8 v2 ((idx L (t.us i + (k + 1))).map (fun k : Nat => (k : Int)))) := by
                  have h0 := hO
                  have e3 := idx_pos HLr.out e2
                  rw [show t.us i + (k + 1) = t.us i + k + 1 by omega, e3, List.map_append]
                  exact h0
                have O19 : Hid (OI B w8 v1 (nn (L.take (t.us i + (k + 1))))) := own_grown O18.out hG (fun g hg e => P8.out g hg e)
                have P9 : Hid (AP v1 v2) := P8.out.right O18.out hL
                have HB9 : Hid (B ≤ w8.heap.size) := Nat.le_trans HB8.out hG.size
                clear hO hG hL V8 O18 O28 kt1 ks1
                go_wp2_with fail
                go_roundw
                case rel => exact ⟨k + 1, by omega, by simp, V9.out, O19.out, O29.out, P9.out, HB9.out⟩
                case measure => simp [intOf]; omega
              · have O18 : Hid (OI B w6 u10 (nn (L.take (t.us i + (k + 1))))) := by
                  have h0 := O17.out
                  rw [← nn_neg HLr.out e2] at h0; exact h0
                have O28 : Hid (OI B w6 u11 ((idx L (t.us i + (k + 1))).map (fun k : Nat => (k : Int)))) := by
                  have h0 := O27.out
                  rw [← idx_neg HLr.out e2] at h0; exact h0
                have e2' : decide (0 ≤ rr) = false := decide_eq_false e2
                go_wp2_with fail
                go_roundw
                case rel => exact ⟨k + 1, by omega, by simp, VS.out, O18.out, O28.out, P6.out, HB7.out⟩
                case measure => simp [intOf]; omega
          · obtain rfl : k = m := by omega
            go_wp2_with fail
            go_roundw
            case rel =>
              refine ⟨i + 1, by omega, by simp, ⟨V6.out.bel, V6.out.row, FB.congr V6.out.op (fun j _ => ofn_next hmu j), V6.out.bd⟩, ?_, ?_, P6.out, HB6.out⟩
              · rw [← hmu]; exact O1.out
              · rw [← hmu]; exact O2.out
            case measure => simp [intOf]; omega
      · obtain rfl : i = t.n := by omega
        have hun : t.us t.n = L.length := by rw [ok.usn, HLL.out]
        obtain ⟨a10, c10, h10, hI10⟩ := O1.out.lies
        obtain ⟨a11, c11, h11, hI11⟩ := O2.out.lies
        rw [hun, List.take_length] at h10 hI10
        rw [hun] at h11 hI11
        rw [← len_keys] at h10
        rw [List.length_map, len_idx L L.length (Nat.le_refl _), List.take_length, ← len_keys] at h11
        rw [← keys_map] at hI10
        have HI10 : Hid _ := hI10
        have HI11 : Hid _ := hI11
        subst h10 h11
        clear hI10 hI11 O1 O2 P4
        have hkl : (keys L).length ≤ 77100 := by have := nn_le L L.length; rw [List.take_length, HLL.out] at this; rw [len_keys]; omega
        have HKT : Hid (∀ k ∈ keys L, k < t.T) := keys_lt fun x hx => by
          rw [HL.out] at hx
          obtain ⟨u, hu, rfl⟩ := List.mem_map.1 hx
          exact (ok.rf u hu).2
        have HVL : Hid ((idx L L.length).length = (keys L).length) := by
          rw [len_idx L L.length (Nat.le_refl _), List.take_length]; exact (len_keys L).symm
        go_wp2_with fail
        refine (txns6 t ok wr (A1.out.below V4.out.bel)).mono ?_
        rintro e wt ⟨rfl, hwt⟩
        rw [hwt]
        clear hwt wt
        go_wp2_with fail
        refine (group9 t.T ⟨T1, T2⟩ (keys L) (idx L L.length) HKT.out HVL.out hkl a10 a11 c10 c11 wr HI10.out HI11.out).mono ?_
        rintro e w6 ⟨gi, gs, F, rfl, hFs, hFi, hF, lgi, lgs, hB6⟩
        have V5 : Hid (NV w1 t go gb gr (.slice none 0 0) (.slice none 0 0) (ofn L t.us t.n 0) (fun _ => false) w6) := V4.out.below hB6
        have FS : Hid (FB w6 gs (t.T + 1) (fun j => (pre (keys L) j : Int))) := hFs
        have FI : Hid (FB w6 gi (keys L).length F) := hFi
        have HF : Hid _ := hF
        have y1 : gr ≠ gs := CB.apart V5.out.row hFs (by decide)
        have y2 : gr ≠ gi := CB.apart V5.out.row hFi (by decide)
        have y3 : gb ≠ gs := CB.apart V5.out.bd hFs (by decide)
        have y4 : gb ≠ gi := CB.apart V5.out.bd hFi (by decide)
        clear hFs hFi hF hB6 V4 HI10 HI11
        have k1 : w6.cell? ⟨gr, 1, none⟩ = some (.slice none 0 0) := V5.out.row.cell rfl
        have k2 : w6.cell? ⟨gr, 2, none⟩ = some (.slice none 0 0) := V5.out.row.cell rfl
        have q1 : w6.frozen? ⟨gr, 1, none⟩ = false := V5.out.row.froz
        have q2 : w6.frozen? ⟨gr, 2, none⟩ = false := V5.out.row.froz
        obtain ⟨w7, hw7⟩ : ∃ w7, w7 = (w6.setCell ⟨gr, 1, none⟩ (.slice (some ⟨gi, 0, none⟩) (keys L).length (keys L).length)).setCell ⟨gr, 2, none⟩ (.slice (some ⟨gs, 0, none⟩) (t.T + 1) (t.T + 1)) := ⟨_, rfl⟩
        have V6 : Hid (NV w1 t go gb gr (.slice (some ⟨gi, 0, none⟩) (keys L).length (keys L).length) (.slice (some ⟨gs, 0, none⟩) (t.T + 1) (t.T + 1)) (ofn L t.us t.n 0) (fun s => (cs.take 0).any (fun c => decide (L.getD c (-2) = (s : Int)))) w7) := by
          rw [hw7]
          refine ⟨(V5.out.bel.setCell g3 _).setCell g3 _, CB.set (i := 2) (CB.set (i := 1) V5.out.row), CB.other (CB.other V5.out.op x1) x1, BB.congr (CB.other (CB.other V5.out.bd x2) x2) fun j _ => ?_⟩
          simp
        have FS7 : Hid (FB w7 gs (t.T + 1) (fun j => (pre (keys L) j : Int))) := by rw [hw7]; exact CB.other (CB.other FS.out y1) y1
        have FI7 : Hid (FB w7 gi (keys L).length F) := by rw [hw7]; exact CB.other (CB.other FI.out y2) y2
        have HW7 : Hid _ := hw7
        clear hw7 V5 FS FI
        go_upto_region 21 with fail
        rw [← HW7.out]
        clear HW7 k1 k2 q1 q2
        go_wp2_with fail
        go_loopw [16, 103] (fun v16 v103 wq => ∃ p : Nat, p ≤ cs.length ∧ v103 = .int .i64 p ∧ NV w1 t go gb gr (.slice (some ⟨gi, 0, none⟩) (keys L).length (keys L).length) (.slice (some ⟨gs, 0, none⟩) (t.T + 1) (t.T + 1)) (ofn L t.us t.n 0) (fun s => (cs.take p).any (fun c => decide (L.getD c (-2) = (s : Int)))) wq ∧ FB wq gs (t.T + 1) (fun j => (pre (keys L) j : Int)) ∧ FB wq gi (keys L).length F) (fun _ v103 _ => cs.length - (intOf v103).toNat)
        case atStart => exact ⟨0, by omega, rfl, V6.out, FS7.out, FI7.out⟩
        case round =>
          obtain ⟨p, hp, rfl, hV, hS, hI⟩ := hrel
          have V8 : Hid (NV w1 t go gb gr (.slice (some ⟨gi, 0, none⟩) (keys L).length (keys L).length) (.slice (some ⟨gs, 0, none⟩) (t.T + 1) (t.T + 1)) (ofn L t.us t.n 0) (fun s => (cs.take p).any (fun c => decide (L.getD c (-2) = (s : Int)))) wr) := hV
          have FS8 : Hid (FB wr gs (t.T + 1) (fun j => (pre (keys L) j : Int))) := hS
          have FI8 : Hid (FB wr gi (keys L).length F) := hI
          clear hV hS hI V6 FS7 FI7
          by_cases hpl : p < cs.length
          · have hpl' : (p : Int) < (cs.length : Int) := by omega
            obtain ⟨c, hc⟩ : ∃ c, cs[p]? = some c := ⟨cs[p], List.getElem?_eq_getElem hpl⟩
            have HC1 : Hid (cs[p]? = some c) := hc
            obtain ⟨u, hu, hu0⟩ := hcs c (List.mem_of_getElem? hc)
            have hrf := (ok.rf u (List.mem_of_getElem? hu)).2
            obtain ⟨s, hs⟩ : ∃ s : Nat, u.r = (s : Int) := ⟨u.r.toNat, by omega⟩
            have hsT : s < t.T := by omega
            have HLc : Hid (L[c]? = some (s : Int)) := by rw [← hs]; exact HU.out _ _ hu
            have hcU : c < t.U.length := (List.getElem?_eq_some_iff.1 hu).1
            obtain ⟨g, o, rfl, hg, hcc⟩ := (HC.out.below (B1.out.trans (V8.out.bel.mono B1.out.size))) p (c : Int) (by rw [List.getElem?_map, hc]; rfl)
            obtain ⟨g', o', hua, hg', hr'⟩ := (A1.out.below V8.out.bel).uses c u hu
            have kb : wr.cell? ⟨gr, 5, none⟩ = some (.slice (some ⟨gb, 0, none⟩) t.T t.T) := V8.out.row.cell rfl
            have kt0 : wr.cell? ⟨t.gt, 0, none⟩ = some (.slice (some ⟨g', o', none⟩) t.U.length t.uc) := by rw [← hua]; exact (A1.out.below V8.out.bel).row.cell rfl
            have kr : wr.cell? ⟨g', o' + c * 7 + 6, none⟩ = some (.int .i64 (s : Int)) := by rw [← hs]; exact hr' 6 _ rfl
            have ks0 : wr.cell? ⟨gb, s, none⟩ = some (.bool ((cs.take p).any (fun c => decide (L.getD c (-2) = (s : Int))))) := V8.out.bd.cell hsT
            have qs0 : wr.frozen? ⟨gb, s, none⟩ = false := CB.froz V8.out.bd
            have hc1 : (c : Int) < (t.U.length : Int) := by omega
            have hs1 : (s : Int) < (t.T : Int) := by omega
            clear hc hu hu0 hrf hs hg hg' hr' hua
            have V9 : Hid (NV w1 t go gb gr (.slice (some ⟨gi, 0, none⟩) (keys L).length (keys L).length) (.slice (some ⟨gs, 0, none⟩) (t.T + 1) (t.T + 1)) (ofn L t.us t.n 0) (fun s => (cs.take (p + 1)).any (fun c => decide (L.getD c (-2) = (s : Int)))) (wr.setCell ⟨gb, s, none⟩ (.bool true)).drew) :=
              ⟨(V8.out.bel.setCell g2 _).drew, CB.drew (V8.out.row.other x2.symm), CB.drew (CB.other V8.out.op x3.symm), CB.drew (BB.congr (V8.out.bd.set s true) fun j _ => bnd_succ HC1.out HLc.out j)⟩
            have FS9 : Hid (FB (wr.setCell ⟨gb, s, none⟩ (.bool true)).drew gs (t.T + 1) (fun j => (pre (keys L) j : Int))) := CB.drew (CB.other FS8.out y3)
            have FI9 : Hid (FB (wr.setCell ⟨gb, s, none⟩ (.bool true)).drew gi (keys L).length F) := CB.drew (CB.other FI8.out y4)
            go_upto_region 24 with fail
            go_region
            go_wp2_with fail
            go_roundw
            case rel => exact ⟨p + 1, by omega, by simp, V9.out, FS9.out, FI9.out⟩
            case measure => simp [intOf]; omega
          · obtain rfl : p = cs.length := by omega
            go_wp2_with fail
            go_ret2
            refine ⟨gr, go, gb, gi, gs, F, rfl, ⟨B1.out.trans (V8.out.bel.mono B1.out.size), V8.out.row, FB.congr V8.out.op (fun j hj => by unfold ofn; rw [if_pos hj]), ?_⟩, FS8.out, FI8.out, HF.out⟩
            have h0 := V8.out.bd
            rw [List.take_length] at h0
            exact h0
end Go.Proofs.YbulkdfeeGreatDoor
