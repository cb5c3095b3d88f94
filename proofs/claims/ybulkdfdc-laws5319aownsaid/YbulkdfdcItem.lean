import Derived.Test.YbulkdfdcFin
import Derived.Test.YbulkdfdcMap
import Derived.Deep.QuietTactic
import Derived.BigQuiet
namespace Go.Proofs.Ybulkdfdc
open Go.ChangeShapes Go.WideShapes Go.ChangeAt Go.RowKit
set_option linter.unusedVariables false
set_option linter.unusedSimpArgs false

/-- An item, as the law makes it: two slices of the input's bytes, no version, a flag. -/
structure It where
  ka : Option Addr
  kn : Nat
  kc : Nat
  va : Option Addr
  vn : Nat
  vc : Nat
  del : Bool

def It.cells (x : It) : List Value := [.slice x.ka x.kn x.kc, .slice x.va x.vn x.vc, .int .u64 0, .int .u8 0, .int .u8 0, .int .u8 0, .int .u8 0, .int .u8 0, .int .u8 0, .int .u8 0, .int .u8 0, .int .u8 0, .int .u8 0, .int .u8 0, .int .u8 0, .int .u8 0, .int .u8 0, .int .u8 0, .int .u8 0, .int .u8 0, .int .u8 0, .int .u8 0, .int .u8 0, .bool x.del]
def It.sz (x : It) : Nat := 31 + x.kn + (if x.del then 0 else 4 + x.vn)

structure It.Ok (W : World) (x : It) : Prop where
  kn : x.kn ≤ 32
  vn : x.vn ≤ 32
  k : ∃ zs : List Int, zs.length = x.kn ∧ PreAt W.heap.size W x.ka zs
  v : ∃ zs : List Int, zs.length = x.vn ∧ PreAt W.heap.size W x.va zs

theorem It.one (x : It) : ∀ u ∈ x.cells, u.oneCell' = true := by
  intro u hu
  simp only [It.cells, List.mem_cons, List.not_mem_nil, or_false] at hu
  rcases hu with rfl | rfl | rfl | rfl | rfl | rfl | rfl | rfl | rfl | rfl | rfl | rfl | rfl | rfl | rfl | rfl | rfl | rfl | rfl | rfl | rfl | rfl | rfl | rfl <;> rfl

theorem It.sz_le {W : World} {x : It} (h : x.Ok W) : x.sz ≤ 99 := by
  have := h.kn
  have := h.vn
  unfold It.sz; split <;> omega

theorem itemLen11 (x : It) (hk : x.kn ≤ 32) (hv : x.vn ≤ 32) (w : World) : Calls Yba.prog 11 #[.agg x.cells.toArray] w fun e w' => e = .returned (.int .i64 x.sz) ∧ w' = w.alloc (.cells x.cells.toArray 34) := by
  obtain ⟨ka, kn, kc, va, vn, vc, del⟩ := x
  simp only [It.cells, It.sz] at *
  cases del
  · go_enter Yba.func11, Yba.ntmps11
    go_wp2_with fail
    go_ret
    refine ⟨?_, rfl⟩
    simp
    omega
  · go_enter Yba.func11, Yba.ntmps11
    go_wp2_with fail
    go_ret
    refine ⟨?_, rfl⟩
    simp
    omega

theorem It.Ok.convK {W : World} {x : It} (h : x.Ok W) {w : World} (hB : Below W.heap.size W w) : ∃ s, (convert 23 9 (.slice x.ka x.kn x.kc)).run Yba.prog w = .ok (.string s) w := by
  obtain ⟨zs, hl, hp⟩ := h.k
  exact ⟨_, by rw [← hl]; exact (hp.below hB).conv _⟩
theorem It.Ok.convV {W : World} {x : It} (h : x.Ok W) {w : World} (hB : Below W.heap.size W w) : ∃ s, (convert 23 9 (.slice x.va x.vn x.vc)).run Yba.prog w = .ok (.string s) w := by
  obtain ⟨zs, hl, hp⟩ := h.v
  exact ⟨_, by rw [← hl]; exact (hp.below hB).conv _⟩

/-- An item is the same as itself. -/
theorem eq12 (x : It) (W : World) (hx : x.Ok W) (w : World) (hB : Below W.heap.size W w) : Calls Yba.prog 12 #[.agg x.cells.toArray, .agg x.cells.toArray] w fun e w' => e = .returned (.bool true) ∧ w' = (w.alloc (.cells x.cells.toArray 34)).alloc (.cells x.cells.toArray 34) := by
  have hB2 : Below W.heap.size W ((w.alloc (.cells x.cells.toArray 34)).alloc (.cells x.cells.toArray 34)) := (hB.alloc hB.size _).alloc (by have := hB.size; simp; omega) _
  obtain ⟨s1, h1⟩ := hx.convK hB2
  obtain ⟨s2, h2⟩ := hx.convV hB2
  obtain ⟨ka, kn, kc, va, vn, vc, del⟩ := x
  have H1 : Hid _ := h1
  have H2 : Hid _ := h2
  clear h1 h2 hB2 hx
  simp only [It.cells] at *
  go_enter Yba.func12, Yba.ntmps12
  go_wp2_with fail
  refine (equal_same _ _ s1 _ H1.out H1.out).mono ?_
  rintro e w1 ⟨rfl, rfl⟩
  go_wp2_with fail
  refine (equal_same _ _ s2 _ H2.out H2.out).mono ?_
  rintro e w1 ⟨rfl, rfl⟩
  go_wp2_with fail
  go_ret
  exact ⟨by simp, rfl⟩
end Go.Proofs.Ybulkdfdc
