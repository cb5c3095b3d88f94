import Derived.Test.YbulkdfdcItem
import Derived.Test.YbulkdfdcLocks
import Derived.Conc.MuLone
import Derived.Defers
namespace Go.Proofs.Ybulkdfdc
open Go.ChangeShapes Go.WideShapes Go.ChangeAt Go.RowKit Go.MuLone
set_option linter.unusedVariables false
set_option linter.unusedSimpArgs false

def itZero : Value := .agg #[.slice none 0 0, .slice none 0 0, .int .u64 0, .int .u8 0, .int .u8 0, .int .u8 0, .int .u8 0, .int .u8 0, .int .u8 0, .int .u8 0, .int .u8 0, .int .u8 0, .int .u8 0, .int .u8 0, .int .u8 0, .int .u8 0, .int .u8 0, .int .u8 0, .int .u8 0, .int .u8 0, .int .u8 0, .int .u8 0, .int .u8 0, .bool false]
def idZero : Value := .agg #[.int .u8 0, .int .u8 0, .int .u8 0, .int .u8 0, .int .u8 0, .int .u8 0, .int .u8 0, .int .u8 0, .int .u8 0, .int .u8 0, .int .u8 0, .int .u8 0, .int .u8 0, .int .u8 0, .int .u8 0, .int .u8 0, .int .u8 0, .int .u8 0, .int .u8 0, .int .u8 0]
theorem inf34 : (Yba.prog.info? 34).map (fun i => (i.zero, i.size, i.bytes)) = some (some itZero, 24, 88) := by kernel_rfl
theorem info34 : (Yba.prog.info? 34).map (fun i => (i.zero, i.size)) = some (some itZero, 24) := by kernel_rfl
theorem inf26 : (Yba.prog.info? 26).map (fun i => (i.zero, i.size, i.bytes)) = some (some idZero, 20, 20) := by kernel_rfl
theorem info26 : (Yba.prog.info? 26).map (fun i => (i.zero, i.size)) = some (some idZero, 20) := by kernel_rfl
theorem sz34 : (Yba.prog.info? 34).map (·.size) = some 24 := by kernel_rfl
theorem sz26 : (Yba.prog.info? 26).map (·.size) = some 20 := by kernel_rfl
theorem one_id (c : Nat) : ∀ u ∈ idCells c, u.oneCell' = true := by
  intro u hu
  rcases List.mem_cons.1 hu with rfl | hu
  · rfl
  · rw [(List.mem_replicate.1 hu).2]; rfl
theorem len_id (c : Nat) : (idCells c).length = 20 := by simp [idCells]

def itsV (L : List It) : List Value := L.flatMap It.cells
theorem len_itsV (L : List It) : (itsV L).length = 24 * L.length := by
  unfold itsV
  induction L with
  | nil => rfl
  | cons x L ih => simp only [List.flatMap_cons, List.length_append, List.length_cons, ih]; simp [It.cells]; omega
theorem one_itsV (L : List It) : ∀ u ∈ itsV L, u.oneCell' = true := fun u hu => by
  obtain ⟨x, _, hx⟩ := List.mem_flatMap.1 hu
  exact x.one u hx

/-- 'append(nil, xs...)', xs items of the call's own. -/
theorem run_append_items (w : World) (B : Nat) (v : Value) (L : List It) (ty : TypeId) (hown : w.ownsRow B 34 24 v L.length (itsV L)) (hl : L.length ≤ 1000000) :
    ∃ v' w', (Builtin.append_ #[35, 35] ty #[.slice none 0 0, v]).run Yba.prog w = .ok v' w' ∧ w'.ownsRow w.heap.size 34 24 v' L.length (itsV L) ∧ w.grownBy w' none := by
  obtain ⟨i34, hi34, ha, hb, hc⟩ := info_parts inf34
  have hnil := World.ownsRow_nil w w.heap.size 34 24
  rcases hown.2 with ⟨h0, h1⟩ | ⟨g, cap, cur, h0, hB, hg, hr⟩
  · obtain rfl : L = [] := List.eq_nil_of_length_eq_zero h1
    subst h0
    refine ⟨.slice none 0 0, w, ?_, hnil, World.grownBy.refl _ _⟩
    simp [Builtin.append_, run_underlying Yba.underlying35, sizeOf, typeInfo, hi34, hb, go_sem]
  · have hcl := hown.cells (g := g) (by rw [h0]; rfl)
    subst h0
    obtain ⟨v', w', hr, h2, h3, _, _⟩ := run_append_own_at (P := Yba.prog) w w.heap.size 35 ty 34 i34 itZero 24 88 Yba.underlying35 hi34 ha hb hc rfl (by decide) (.slice none 0 0) 0 [] hnil ⟨g, 0, none⟩ L.length cap (itsV L) (by rw [len_itsV]; omega) hcl (one_itsV L) (by unfold maxLen; omega) (by omega) (Nat.le_refl _)
    exact ⟨v', w', hr, by simpa using h2, h3⟩
end Go.Proofs.Ybulkdfdc
