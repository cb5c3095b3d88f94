import Derived.Test.YbulkdfgwWatch
namespace Go.Proofs.Ybulkdfgw
open Go.ChangeShapes Go.WideShapes Go.ChangeAt Go.RowKit Go.Maps Go.WideMaps Go.WideElems
set_option linter.unusedVariables false
set_option linter.unusedSimpArgs false

theorem loadU32 {a : Addr} {x : Int} {w : World} (hc : w.cell? a = some (.int .u32 x)) :
    (callFunc 23 #[.pointer (some a)]).run Yba.prog w = .ok (.value (.int .u32 x)) w :=
  run_call_load (P := Yba.prog) Yba.func23 (by kernel_rfl) (by kernel_rfl) (by kernel_rfl) .u32 (by kernel_rfl) hc

/-- '(*atomic.Bool).Load'. -/
theorem boolLoad (gb : Nat) (x : Bool) (w : World) (hc : w.cell? ⟨gb, 0, none⟩ = some (.int .u32 (bitOf x))) :
    Calls Yba.prog 12 #[.pointer (some ⟨gb, 0, none⟩)] w fun e w' => e = .returned (.bool x) ∧ w = w' := by
  have hl := loadU32 hc
  go_enter Yba.func12, Yba.ntmps12
  go_wp2
  go_ret
  cases x <;> exact ⟨rfl, rfl⟩

/-- 'm.answeredBy(addr, x)' of an address that is watched. -/
theorem answered (gm gp g N : Nat) (s : ByteArray) (x : Bool) (ks : List Key) (bl : Key → Nat) (σ : Key → Bool) (w : World) (hs : s.size ≤ maxLen) (hm : s.data.toList ∈ ks)
    (c13 : w.cell? ⟨gm, 13, none⟩ = some (.pointer (some ⟨gp, 0, none⟩))) (hp : w.heap[gp]? = some (.cells #[.map (some g)] 55 (0, 0))) (hM : MapOf w g N ks bl) (hC : CellsOf w ks bl σ) :
    Calls Yba.prog 11 #[.pointer (some ⟨gm, 0, none⟩), .string s, .bool x] w fun e w' => e = .returned (.tuple #[]) ∧ w' = (w.setCell ⟨bl s.data.toList, 0, none⟩ (.int .u32 (bitOf x))).drew := by
  have hl := hM.look hs hm
  have hcell := hC.1 _ hm
  have c0 : w.cell? ⟨bl s.data.toList, 0, none⟩ = some (.int .u32 (bitOf (σ s.data.toList))) := by simp [World.cell?, hcell]
  have f0 : w.frozen? ⟨bl s.data.toList, 0, none⟩ = false := by simp [World.frozen?, hcell]
  have HP : Hid _ := hp
  clear hM hC hcell hp hm
  go_enter Yba.func11, Yba.ntmps11
  go_wp2_with fail
  refine (watched_some _ _ _ _ c13 HP.out).mono ?_
  rintro e w1 ⟨rfl, rfl⟩
  go_wp2_with fail
  refine (boolStore _ _ _ _ c0 f0).mono ?_
  rintro e w2 ⟨rfl, rfl⟩
  go_wp2_with fail
  go_end0
  exact ⟨rfl, rfl⟩

theorem toList_data (s : ByteArray) : s.toList = s.data.toList := ByteArray.toList_eq s

theorem index_none (a : Option Addr) (m cap : Nat) (X : Nat → ByteArray) (s : ByteArray) (w : World) (hm : m ≤ 300) (h : 0 < m → ∃ g, a = some ⟨g, 0, none⟩ ∧ ∀ i, i < m → w.cell? ⟨g, i, none⟩ = some (.string (X i)))
    (hne : ∀ i, i < m → ¬ (X i).data.toList = s.data.toList) :
    Calls Yba.prog 10 #[.slice a m cap, .string s] w fun e w' => e = .returned (.int .i64 (-1)) ∧ w = w' := by
  have H : Hid _ := h
  have HN : Hid _ := hne
  clear h hne
  go_enter Yba.func10, Yba.ntmps10
  go_wp2_with fail
  go_loop [5] (fun i => ∃ j : Nat, j ≤ m ∧ i = .int .i64 j) (fun i => m - (intOf i).toNat)
  case atStart => exact ⟨0, Nat.zero_le _, rfl⟩
  case round =>
    obtain ⟨j, hj, rfl⟩ := hrel
    by_cases hlt : j < m
    · obtain ⟨g, rfl, hc⟩ := H.out (by omega)
      have cj := hc j hlt
      have hnj : ((X j).toList == s.toList) = false := by
        rw [beq_eq_false_iff_ne, toList_data, toList_data]; exact HN.out j hlt
      clear hc
      go_wp2_with fail
      go_round
      case rel => exact ⟨j + 1, by omega, by go_num⟩
      case measure => simp [intOf]; omega
    · go_wp2_with fail
      go_ret
      exact ⟨rfl, rfl⟩

theorem index_some (g m cap : Nat) (X : Nat → ByteArray) (s : ByteArray) (w : World) (hm : m ≤ 300) (h : ∀ i, i < m → w.cell? ⟨g, i, none⟩ = some (.string (X i))) (t : Nat) (ht : t < m)
    (he : (X t).data.toList = s.data.toList) (hne : ∀ i, i < t → ¬ (X i).data.toList = s.data.toList) :
    Calls Yba.prog 10 #[.slice (some ⟨g, 0, none⟩) m cap, .string s] w fun e w' => e = .returned (.int .i64 t) ∧ w = w' := by
  have H : Hid _ := h
  have HN : Hid _ := hne
  have HE : Hid _ := he
  clear h hne he
  go_enter Yba.func10, Yba.ntmps10
  go_wp2_with fail
  go_loop [5] (fun i => ∃ j : Nat, j ≤ t ∧ i = .int .i64 j) (fun i => m - (intOf i).toNat)
  case atStart => exact ⟨0, Nat.zero_le _, rfl⟩
  case round =>
    obtain ⟨j, hj, rfl⟩ := hrel
    have hlt : j < m := by omega
    have cj := H.out j hlt
    by_cases hjt : j < t
    · have hnj : ((X j).toList == s.toList) = false := by
        rw [beq_eq_false_iff_ne, toList_data, toList_data]; exact HN.out j hjt
      go_wp2_with fail
      go_round
      case rel => exact ⟨j + 1, by omega, by go_num⟩
      case measure => simp [intOf]; omega
    · obtain rfl : j = t := by omega
      have hnj : ((X j).toList == s.toList) = true := by
        rw [beq_iff_eq, toList_data, toList_data]; exact HE.out
      go_wp2_with fail
      go_ret
      exact ⟨rfl, rfl⟩
end Go.Proofs.Ybulkdfgw
