import Derived.Test.YbulkdfgwAtomic
import Derived.Lib.Builder
namespace Go.Proofs.Ybulkdfgw
open Go.ChangeShapes Go.WideShapes Go.ChangeAt Go.RowKit Go.Maps Go.WideMaps Go.WideElems
set_option linter.unusedVariables false
set_option linter.unusedSimpArgs false

theorem law : Keyed Yba.prog 9 := string_keyed Yba.underlying9
theorem zero57 (w : World) : (zeroValue 57).run Yba.prog w = .ok (.pointer none) w := by kernel_rfl

/-- HOW A POINTER TO A BLOCK's HEAD READS: the block's number; nil reads as -1. -/
def ptrElem (v : Value) : Option (DataW Unit × List MemPlace) :=
  match v with
  | .pointer none => some (.lit (.int .i64 (-1)), [])
  | .pointer (some ⟨b, 0, none⟩) => some (.lit (.int .i64 b), [])
  | _ => none

theorem ptrElem_inv {v : Value} {d : DataW Unit} {ps : List MemPlace} (h : ptrElem v = some (d, ps)) :
    (v = .pointer none ∧ d = .lit (.int .i64 (-1))) ∨ ∃ b, v = .pointer (some ⟨b, 0, none⟩) ∧ d = .lit (.int .i64 b) := by
  unfold ptrElem at h
  split at h
  · cases h; exact Or.inl ⟨rfl, rfl⟩
  · cases h; exact Or.inr ⟨_, rfl, rfl⟩
  · cases h

def metricsZero (p : Option Addr) : Array Value := #[.int .u64 0, .int .u64 0, .int .u64 0, .int .u64 0, .int .u64 0, .int .u64 0, .int .u32 0, .int .i32 0, .int .u32 0, .pointer none, .nilFunc, .nilFunc, .int .u64 0, .pointer p]

/-- WHAT HOLDS AT EVERY ROUND's HEAD: the map is owned, the metrics and the map's variable lie where they were laid. -/
def Rel1 (w : World) (n : Nat) (p : Option Addr) (i : Value) (wr : World) : Prop :=
  ∃ (k : Nat) (D : DataW Unit), k ≤ n ∧ i = .int .i64 k ∧ wr.ownsMap Yba.prog 9 ptrElem (w.heap.size + 1) k D ∧ wr.heap[w.heap.size]? = some (.cells (metricsZero p) 54 (0, 0)) ∧
    wr.heap[w.heap.size + 1 + 1]? = some (.cells #[.map (some (w.heap.size + 1))] 55 (0, 0)) ∧ Below w.heap.size w wr ∧ w.heap.size + 1 + 1 < wr.heap.size

theorem lt_block {w : World} {g : Nat} {o : Obj} (h : w.heap[g]? = some o) : g < w.heap.size := (Array.getElem?_eq_some_iff.1 h).1

theorem rel1_start (w : World) (n : Nat) : Rel1 w n none (.int .i64 0) (((w.alloc (.cells (metricsZero none) 54)).alloc (.map #[] 0)).alloc (.cells #[.map (some (w.heap.size + 1))] 55)) := by
  refine ⟨0, .map [], Nat.zero_le _, rfl, ?_, ?_, ?_, ?_, by simp⟩
  · have h := World.ownsMap_made (H := Unit) (w.alloc (.cells (metricsZero none) 54)) Yba.prog 9 ptrElem
    have e : (w.alloc (.cells (metricsZero none) 54)).heap.size = w.heap.size + 1 := by simp
    rw [e] at h
    exact (h.mono (Nat.zero_le _)).alloc _
  · rw [Below.heap_alloc _ _ _ (by simp; omega), Below.heap_alloc _ _ _ (by simp)]
    exact heap_alloc_new _ _
  · have h := heap_alloc_new ((w.alloc (.cells (metricsZero none) 54)).alloc (.map #[] 0)) (.cells #[.map (some (w.heap.size + 1))] 55)
    simpa using h
  · exact (((Below.refl _ _).alloc (Nat.le_refl _) _).alloc (by simp) _).alloc (by simp; omega) _

theorem rel1_step {w wr w3 : World} {n k : Nat} {p : Option Addr} {D D' : DataW Unit} {x : Value} (hown : wr.ownsMap Yba.prog 9 ptrElem (w.heap.size + 1) k D) (hm : wr.heap[w.heap.size]? = some (.cells (metricsZero p) 54 (0, 0)))
    (hp : wr.heap[w.heap.size + 1 + 1]? = some (.cells #[.map (some (w.heap.size + 1))] 55 (0, 0))) (hB : Below w.heap.size w wr) (hz : w.heap.size + 1 + 1 < wr.heap.size)
    (hown3 : w3.ownsMap Yba.prog 9 ptrElem (w.heap.size + 1) (k + 1) D') (hg : (wr.alloc (.cells #[x] 58)).drew.grownBy w3 (some (w.heap.size + 1))) (hk : k + 1 ≤ n) :
    Rel1 w n p (.int .i64 (k + 1)) w3 := by
  have hg' : (wr.alloc (.cells #[x] 58)).grownBy w3 (some (w.heap.size + 1)) := ⟨hg.os, hg.tape, hg.output, hg.size, hg.block⟩
  refine ⟨k + 1, D', hk, by simp, hown3, ?_, ?_, ?_, ?_⟩
  · rw [hg'.block _ (by simp; omega) (by simp), Below.heap_alloc _ _ _ (by omega)]; exact hm
  · rw [hg'.block _ (by simp; omega) (by simp), Below.heap_alloc _ _ _ (by omega)]; exact hp
  · exact (hB.alloc hB.size _).grown hg' (by simp; have := hB.size; omega) (fun j hj => by cases hj; omega)
  · have := hg'.size; simp at this; omega

theorem stored_long (a0 : Option Addr) (n cap0 : Nat) (v1 : Value) (w : World) (hl : 1024 < n) (hm : n ≤ maxLen) :
    Calls Yba.prog 3 #[.slice a0 n cap0, v1] w fun e w' => e = .returned (.bool true) ∧ Below w.heap.size w w' := by
  unfold maxLen at hm
  go_enter Yba.func3, Yba.ntmps3
  go_wp2_with fail
  go_ret
  exact ⟨rfl, Below.refl _ _⟩

set_option maxRecDepth 100000 in
set_option maxHeartbeats 1000000 in
theorem stored_any (a0 : Option Addr) (n cap0 : Nat) (S : Nat → ByteArray) (a1 : Option Addr) (n1 cap1 : Nat) (V : Nat → Bool) (w : World) (hn : n ≤ 1024) (hn1 : n1 ≤ maxLen)
    (hS : 0 < n → ∃ b o, a0 = some ⟨b, o, none⟩ ∧ ∀ i, i < n → w.cell? ⟨b, o + i, none⟩ = some (.string (S i))) (hSl : ∀ i, i < n → (S i).size ≤ maxLen)
    (hV : 0 < n1 → ∃ b1 o1, a1 = some ⟨b1, o1, none⟩ ∧ ∀ i, i < n1 → w.cell? ⟨b1, o1 + i, none⟩ = some (.bool (V i))) :
    Calls Yba.prog 3 #[.slice a0 n cap0, .slice a1 n1 cap1] w fun e w' => e = .returned (.bool true) ∧ Below w.heap.size w w' := by
  have HS : Hid _ := hS
  have HL : Hid _ := hSl
  have HV : Hid _ := hV
  clear hS hSl hV
  unfold maxLen at hn1
  have hmm : ∀ (x : Int) (w : World), (Instr.makeMap 55 (some (.int .i64 x))).run Yba.prog w = .ok (.map (some w.heap.size)) (w.alloc (.map #[] 0)) := fun x w => by
    simp [Instr.makeMap, run_underlying Yba.underlying55, asInt, asIntOf]
  have hq := fun (w : World) (r : Option Nat) => run_neq_map_nil (P := Yba.prog) w 55 9 57 r Yba.underlying55
  have hq2 := fun (w : World) (r : Option Nat) => run_eql_map_nil (P := Yba.prog) w 55 9 57 r Yba.underlying55
  go_enter Yba.func3, Yba.ntmps3
  go_wp2_with fail
  refine (watched_nil _ _ (by simp)).mono ?_
  rintro e w1 ⟨rfl, rfl⟩
  go_wp2_with fail
  go_loopw [23] (fun i wr => Rel1 w n none i wr) (fun i _ => n - (intOf i).toNat)
  case atStart => exact rel1_start w n
  case round =>
    obtain ⟨k, D, hk, rfl, hown, hm, hp, hB, hz⟩ := hrel
    have HO : Hid _ := hown
    have HM : Hid _ := hm
    have HP : Hid _ := hp
    have HB : Hid _ := hB
    have cp : wr.cell? ⟨w.heap.size + 1 + 1, 0, none⟩ = some (.map (some (w.heap.size + 1))) := by simp [World.cell?, hp]
    clear hown hm hp hB
    by_cases hlt : k < n
    · obtain ⟨b, o, rfl, hsc⟩ := HS.out (by omega)
      have cs : wr.cell? ⟨b, o + k, none⟩ = some (.string (S k)) := cell_later HB.out (hsc k hlt)
      clear hsc
      by_cases hv : k < n1
      · obtain ⟨b1, o1, rfl, hvc⟩ := HV.out (by omega)
        have cv : wr.cell? ⟨b1, o1 + k, none⟩ = some (.bool (V k)) := cell_later HB.out (hvc k hv)
        have hb1 : b1 < wr.heap.size := World.block_lt_of_cell? _ _ cv
        clear hvc
        go_wp2_with fail
        refine (boolStore _ _ (.int .u32 0) _ (by simp) (by simp)).mono ?_
        rintro e w2 ⟨rfl, rfl⟩
        go_wp2_with (at_mapUpdate; refine wpList_mapUpdate_own _ rfl _ _ _ 55 rfl 9 57 law Yba.underlying55 ptrElem (w.heap.size + 1) k D rfl (World.ownsMap.drew (World.ownsMap.alloc HO.out _)) (by unfold maxLen; omega) _ _ (.string (S k).data.toList) rfl rfl (keyOf_string_mk Yba.underlying9 (HL.out k hlt)) (.lit (.int .i64 wr.heap.size)) [] rfl ?_; intro w3 hown3 hgrow3)
        have R := rel1_step HO.out HM.out HP.out HB.out hz hown3 hgrow3 (show k + 1 ≤ n by omega)
        go_wp2_with fail
        go_roundw
        case rel => exact R
        case measure => simp [intOf]; omega
      · have hd : decide ((k : Int) < (n1 : Int)) = false := decide_eq_false (by omega)
        go_wp2_with fail
        refine (boolStore _ _ (.int .u32 0) _ (by simp) (by simp)).mono ?_
        rintro e w2 ⟨rfl, rfl⟩
        go_wp2_with (at_mapUpdate; refine wpList_mapUpdate_own _ rfl _ _ _ 55 rfl 9 57 law Yba.underlying55 ptrElem (w.heap.size + 1) k D rfl (World.ownsMap.drew (World.ownsMap.alloc HO.out _)) (by unfold maxLen; omega) _ _ (.string (S k).data.toList) rfl rfl (keyOf_string_mk Yba.underlying9 (HL.out k hlt)) (.lit (.int .i64 wr.heap.size)) [] rfl ?_; intro w3 hown3 hgrow3)
        have R := rel1_step HO.out HM.out HP.out HB.out hz hown3 hgrow3 (show k + 1 ≤ n by omega)
        go_wp2_with fail
        go_roundw
        case rel => exact R
        case measure => simp [intOf]; omega
    · have c13 : wr.cell? ⟨w.heap.size, 13, none⟩ = some (.pointer none) := by simp [World.cell?, HM.out, metricsZero]
      have f13 : wr.frozen? ⟨w.heap.size, 13, none⟩ = false := by simp [World.frozen?, HM.out]
      go_wp2_with fail
      refine (ptrStore w.heap.size (w.heap.size + 1 + 1) _ _ _ c13 f13 cp).mono ?_
      rintro e w2 ⟨rfl, rfl⟩
      go_wp2_with fail
      obtain ⟨wx, hx⟩ : ∃ wx, wx = wr.setCell ⟨w.heap.size, 13, none⟩ (.pointer (some ⟨w.heap.size + 1 + 1, 0, none⟩)) := ⟨_, rfl⟩
      rw [← hx]
      have gx : wr.grownBy wx (some w.heap.size) := by
        rw [hx]; exact ⟨rfl, rfl, rfl, by simp [World.setCell], fun i _ hi => Below.heap_setCell _ _ _ _ (fun e => hi (by rw [e]))⟩
      have hBx : Hid (Below w.heap.size w wx) := by rw [hx]; exact HB.out.setCell (Nat.le_refl _) _
      have hOx : Hid (wx.ownsMap Yba.prog 9 ptrElem (w.heap.size + 1) k D) := World.ownsMap.kept HO.out gx (by simp)
      have hpx : wx.heap[w.heap.size + 1 + 1]? = some (.cells #[.map (some (w.heap.size + 1))] 55 (0, 0)) := by rw [gx.block _ hz (by simp; omega)]; exact HP.out
      have c13x : wx.cell? ⟨w.heap.size, 13, none⟩ = some (.pointer (some ⟨w.heap.size + 1 + 1, 0, none⟩)) := by rw [hx]; exact World.cell?_setCell_same _ _ _ c13
      have cpx : wx.cell? ⟨w.heap.size + 1 + 1, 0, none⟩ = some (.map (some (w.heap.size + 1))) := by simp [World.cell?, hpx]
      have hzx : w.heap.size + 1 + 1 < wx.heap.size := Nat.lt_of_lt_of_le hz gx.size
      clear hx gx c13 f13 cp HO HM HP HB hz
      refine (watched_some _ _ _ _ c13x hpx).mono ?_
      clear hpx
      rintro e w2 ⟨rfl, rfl⟩
      have hlen := World.ownsMap.len hOx.out Yba.underlying55 3
      obtain ⟨j57, hj57⟩ : ∃ j, Yba.prog.info? 58 = some j := Option.isSome_iff_exists.1 (by kernel_rfl)
      have hne := fun (w : World) (a : Addr) => Lib.run_neq_ptr_same (P := Yba.prog) w (tp := 57) a Yba.underlying57 hj57
      go_wp2_with fail
      clear hlen
      go_loop [59] (fun i => ∃ j : Nat, j ≤ n ∧ i = .int .i64 j) (fun i => n - (intOf i).toNat)
      case atStart => exact ⟨0, Nat.zero_le _, rfl⟩
      case round =>
        obtain ⟨j, hj, rfl⟩ := hrel
        by_cases hjl : j < n
        · obtain ⟨b, o, rfl, hsc⟩ := HS.out (by omega)
          have cs : wx.cell? ⟨b, o + j, none⟩ = some (.string (S j)) := cell_later hBx.out (hsc j hjl)
          clear hsc
          obtain ⟨v, ps, hrun, hR⟩ := World.ownsMap.lookup hOx.out law Yba.underlying55 (zero57 _) (z := .pointer none) (zd := .lit (.int .i64 (-1))) (zp := []) rfl (keyOf_string_mk Yba.underlying9 (HL.out j hjl))
          rcases ptrElem_inv hR with ⟨rfl, _⟩ | ⟨bb, rfl, _⟩
          · clear hR
            go_wp2_with fail
            go_round
            case rel => exact ⟨j + 1, by omega, by go_num⟩
            case measure => simp [intOf]; omega
          · clear hR
            go_wp2_with fail
            go_round
            case rel => exact ⟨j + 1, by omega, by go_num⟩
            case measure => simp [intOf]; omega
        · go_wp2_with fail
          go_ret
          exact ⟨rfl, hBx.out⟩
end Go.Proofs.Ybulkdfgw
