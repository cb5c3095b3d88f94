import Derived.Test.YbulkdfeeGreatDoorCut
namespace Go.Proofs.YbulkdfeeGreatDoor
open Go.ChangeShapes Go.WideShapes Go.ChangeAt Go.RowKit
set_option linter.unusedVariables false
set_option linter.unusedSimpArgs false

set_option maxHeartbeats 20000000 in
set_option maxRecDepth 100000 in
def st1 : Cut1 (∀ (s0 : Nat) (h0 : s0 ≤ 255) (ia : Option Addr) (ic : Nat) (its : List It) (hn : its.length ≤ 300) (hb : AllB its) (hm : ∀ x ∈ its, x.rd.length ≤ maxLen) (xa : Option Addr) (xc : Nat) (xs : List Nat) (hx : xs.length ≤ 1024) (hxb : ∀ x ∈ xs, x ≤ 65535) (W : World) (hI : ItsAt W ia its) (hX : XA W xa xs), Calls Ybaz.prog 3 #[.int .u8 s0, .slice ia its.length ic, .slice xa xs.length xc] W fun e w' => e = .returned (.bool true) ∧ Below W.heap.size W w') := Cut1.mk _ (fun hA => by
    intro s0 h0 ia ic its hn hb hm xa xc xs hx hxb W hI hX
    have HI : Hid (ItsAt W ia its) := hI
    have HX : Hid (XA W xa xs) := hX
    have HBB : Hid (AllB its) := hb
    have HM : Hid _ := hm
    have HXB : Hid _ := hxb
    obtain ⟨n, hnn⟩ : ∃ n, its.length = n := ⟨_, rfl⟩
    have HN : Hid (its.length = n) := hnn
    obtain ⟨nx, hnx⟩ : ∃ nx, xs.length = nx := ⟨_, rfl⟩
    have HNX : Hid (xs.length = nx) := hnx
    rw [hnn] at hn ⊢
    rw [hnx] at hx ⊢
    have d1 : ¬ (300 : Int) < (n : Int) := by omega
    have d2 : ¬ (1024 : Int) < (nx : Int) := by omega
    clear hI hX hb hm hxb hnn hnx
    go_enter Ybaz.func3, Ybaz.ntmps3
    go_wp2_with fail
    go_loopw [47] (fun v47 wq => ∃ i : Nat, i ≤ n ∧ v47 = .int .i64 i ∧ Below W.heap.size W wq ∧ ∀ x ∈ its.take i, x.rd.length ≤ 256) (fun v47 _ => n - (intOf v47).toNat)
    case atStart => exact ⟨0, by omega, rfl, Below.refl _ _, fun x hx => by simp at hx⟩
    case round =>
      obtain ⟨i, hi, rfl, hB, hR⟩ := hrel
      have HB0 : Hid (Below W.heap.size W wr) := hB
      have HR0 : Hid (∀ x ∈ its.take i, x.rd.length ≤ 256) := hR
      clear hB hR
      by_cases hil : i < n
      · have hil' : (i : Int) < (n : Int) := by omega
        obtain ⟨x, hx1⟩ : ∃ x, its[i]? = some x := ⟨its[i]'(by rw [HN.out]; exact hil), List.getElem?_eq_getElem _⟩
        obtain ⟨⟨g, o, rfl, hg, hr⟩, _⟩ := (HI.out.below HB0.out) i x hx1
        have hm1 := HM.out x (List.mem_of_getElem? hx1)
        have HX1 : Hid _ := hx1
        obtain ⟨wb, wv, rd, ra, rc⟩ := x
        have HR : Hid (wr.rangeAt g (o + i * 3) [.bool wb, .int .u8 wv, .slice ra rd.length rc]) := hr
        obtain ⟨w2, hw2⟩ : ∃ w2, w2 = wr.alloc (.cells #[.bool wb, .int .u8 wv, .slice ra rd.length rc] 26) := ⟨_, rfl⟩
        have k2 : w2.cell? ⟨wr.heap.size, 2, none⟩ = some (.slice ra rd.length rc) := by rw [hw2]; exact (CB.new (cs := [.bool wb, .int .u8 wv, .slice ra rd.length rc]) wr).cell rfl
        have B2 : Hid (Below W.heap.size W w2) := by rw [hw2]; exact HB0.out.alloc HB0.out.size _
        have HW2 : Hid _ := hw2
        have hm2 : rd.length ≤ maxLen := hm1
        unfold maxLen at hm2
        clear hx1 hg hr hw2 hm1
        go_upto_region 6 with (first
          | (refine gate (some 50) rfl ?_; refine wpList_val rfl (.agg #[.bool wb, .int .u8 wv, .slice ra rd.length rc]) (exec_load 26 (.tmp 49) rfl g (o + i * 3) rfl [.bool wb, .int .u8 wv, .slice ra rd.length rc] _ HR.out Ybaz.underlying26 rfl sz26) ?_; simp only [Act.put, List.setIfInBounds_toArray, List.set_cons_zero, List.set_cons_succ]))
        rw [← HW2.out]
        clear HW2 HR
        by_cases h256 : 256 < rd.length
        · have h256' : (256 : Int) < (rd.length : Int) := by omega
          go_wp2_with fail
          go_ret
          exact ⟨rfl, B2.out⟩
        · have h256' : ¬ (256 : Int) < (rd.length : Int) := by omega
          go_wp2_with fail
          go_roundw
          case rel =>
            refine ⟨i + 1, by omega, by simp, B2.out, fun y hy => ?_⟩
            rw [List.take_add_one, HX1.out] at hy
            rcases List.mem_append.1 hy with hy | hy
            · exact HR0.out y hy
            · simp at hy; subst hy; show rd.length ≤ 256; omega
          case measure => simp [intOf]; omega
      · rename_i zz0 zz1 zz2
        revert s0 h0 ia ic its xa xc xs W HI HX HBB HM HXB n hn HN nx hx HNX zz0 zz1 zz2 d1 d2 wr u6 u8 u48 u49 u50 u51 u52 u53 u54 u55 i hi HB0 HR0 hil
        exact hA.out)

end Go.Proofs.YbulkdfeeGreatDoor
