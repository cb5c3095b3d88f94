import Derived.Test.YbulkdfdcLeaf2
import Derived.Deep.RegionHeld3
namespace Go.Proofs.Ybulkdfdc
open Go.ChangeShapes Go.WideShapes Go.ChangeAt Go.RowKit
set_option linter.unusedVariables false
set_option linter.unusedSimpArgs false

theorem App.start {B : Nat} {e : TypeId} {w : World} {v : Value} {xs : List Value} (h : w.ownsRow B e 1 v xs.length xs) (o : Obj) : App B e w v xs (w.alloc o) v xs :=
  App.behind h (App.refl (World.ownsRow.alloc h _))

theorem kept_alloc {w : World} {k : Nat} {o x : Obj} (h : w.heap[k]? = some x) : (w.alloc o).heap[k]? = some x := by
  rw [Below.heap_alloc _ _ _ (Array.getElem?_eq_some_iff.1 h).1]; exact h

theorem cell_of_block {w : World} {g : Nat} {cs : List Value} {t : TypeId} {fr : Nat × Nat} (h : w.heap[g]? = some (.cells cs.toArray t fr)) {j : Nat} {u : Value} (hu : cs[j]? = some u) : w.cell? ⟨g, j, none⟩ = some u := by
  simp only [World.cell?, h]; simpa using hu

/-- TWENTY BYTES. -/
structure ID20 (x : List Value) : Prop where
  len : x.length = 20
  byte : ∀ u ∈ x, ∃ b : Int, u = .int .u8 b

theorem ID20.one {x : List Value} (h : ID20 x) : ∀ u ∈ x, u.oneCell' = true := fun u hu => by
  obtain ⟨b, rfl⟩ := h.byte u hu; rfl

theorem bytes28 (B : Nat) (v : Value) (xs : List Value) (x : List Value) (hx20 : ID20 x) (w : World) (hown : w.ownsRow B 5 1 v xs.length xs) (hlen : xs.length ≤ 1099511627776) (hB : B ≤ w.heap.size) :
    Calls Yba.prog 28 #[v, .agg x.toArray] w fun e w' => ∃ v', e = .returned v' ∧ App B 5 w v xs w' v' (xs ++ x) := by
  obtain ⟨i5, hi5, h5a, h5b, h5c⟩ := info_parts inf5
  have HO : Hid _ := hown
  have hx := hx20.len
  have HX : Hid _ := hx20
  clear hown hx20
  go_enter Yba.func28, Yba.ntmps28
  go_wp2_with fail
  go_loopw [0, 5] (fun vv i wr => ∃ (k : Nat), k ≤ 20 ∧ i = .int .i64 k ∧ App B 5 w v xs wr vv (xs ++ x.take k) ∧ wr.heap[w.heap.size]? = some (.cells x.toArray 25 (0, 0))) (fun _ i _ => 20 - (intOf i).toNat)
  case atStart => exact ⟨0, by omega, rfl, by simpa using App.start HO.out _, heap_alloc_new _ _⟩
  case round =>
    obtain ⟨k, hk, rfl, hA, hbk⟩ := hrel
    have HA : Hid _ := hA
    have HK : Hid _ := hbk
    have HYL : Hid ((xs ++ x.take k).length = xs.length + k) := by show _ = _; simp [hx]; omega
    have hz := hA.grown.size
    clear hA hbk
    by_cases hlt : k < 20
    · have hlt' : (k : Int) < 20 := by omega
      obtain ⟨u, hu⟩ : ∃ u, x[k]? = some u := ⟨x[k], List.getElem?_eq_getElem (by omega)⟩
      have hc : wr.cell? ⟨w.heap.size, k, none⟩ = some u := cell_of_block HK.out hu
      obtain ⟨b, rfl⟩ := HX.out.byte u (List.mem_of_getElem? hu)
      have HU : Hid _ := hu
      clear hu
      go_wp2_with (at_builtin; refine wpList_append_app _ rfl _ _ 23 rfl B 5 i5 (.int .u8 0) 1 Yba.underlying23 hi5 h5a h5b h5c rfl u0 (xs ++ x.take k) rfl (World.ownsRow.alloc HA.out.own _) ⟨wr.heap.size, 0, none⟩ 1 1 [.int .u8 b] rfl rfl (news_at rfl _ _ rfl 5) (by simp [Value.oneCell']) (by rw [HYL.out]; simp only [List.length_cons, List.length_nil]; unfold maxLen; omega) (by rw [HYL.out]; simp only [List.length_cons, List.length_nil]; omega) (by simp; omega) ?_; intro v1 w1 hA)
      have e : xs ++ List.take k x ++ [.int .u8 b] = xs ++ List.take (k + 1) x := by
        rw [List.take_add_one, HU.out]; simp
      rw [e] at hA
      have R : App B 5 w v xs w1 v1 (xs ++ x.take (k + 1)) ∧ w1.heap[w.heap.size]? = some (.cells x.toArray 25 (0, 0)) :=
        ⟨App.trans HO.out HA.out (App.behind HA.out.own hA), App.other (World.ownsRow.alloc HA.out.own _) hA (kept_alloc HK.out) (by decide)⟩
      clear hA
      go_roundw
      case rel => exact ⟨k + 1, by omega, by simp, R.1, R.2⟩
      case measure => simp [intOf]; omega
    · obtain rfl : k = 20 := by omega
      go_wp2_with fail
      go_ret
      refine ⟨u0, rfl, ?_⟩
      have := HA.out
      rwa [List.take_of_length_le (by omega)] at this

theorem wrap64_eq (s : Int) : IntKind.u64.wrap s = s % 18446744073709551616 := by simp [IntKind.wrap, IntKind.signed, IntKind.bits]
theorem wrap32_eq (s : Int) : IntKind.u32.wrap s = s % 4294967296 := by simp [IntKind.wrap, IntKind.signed, IntKind.bits]
theorem wrap64 (s : Int) : 0 ≤ IntKind.u64.wrap s ∧ IntKind.u64.wrap s ≤ 18446744073709551615 := by
  rw [wrap64_eq]
  omega
theorem wrap32 (s : Int) : 0 ≤ IntKind.u32.wrap s ∧ IntKind.u32.wrap s ≤ 4294967295 := by
  rw [wrap32_eq]
  omega
theorem be4_wrap (s : Int) : bytesBE 4 (IntKind.u32.wrap s) = bytesBE 4 (IntKind.u64.wrap s) := by
  simp [bytesBE, wrap64_eq, wrap32_eq]
  omega
end Go.Proofs.Ybulkdfdc
