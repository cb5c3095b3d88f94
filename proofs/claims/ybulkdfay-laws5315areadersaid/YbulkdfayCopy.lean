import Derived.Test.YbulkdfayReader
import Derived.Deep.OwnRows
namespace Go.Proofs.Ybulkdfay
open Go.ChangeShapes Go.WideShapes Go.ChangeAt Go.RowKit
set_option linter.unusedVariables false
set_option linter.unusedSimpArgs false

/-- 'copy(buf, data)', buf a row of n cells made just now, data n cells: the row holds the cells. -/
theorem copy_made (g n cap0 : Nat) (a0 : Option Addr) (cs : List Value) (W : World) (hcs : cs.length = n) (h1c : ∀ v ∈ cs, v.oneCell' = true)
    (hg : W.heap[g]? = some (.cells (madeCells #[.int .u8 0] n) 5 (0, 0)))
    (hsrc : 0 < n → ∃ ad, a0 = some ad ∧ ∀ j v, cs[j]? = some v → W.cell? (ad.add j) = some v) :
    ∃ w2, (Builtin.copy_ #[22, 22] 3 #[.slice (some ⟨g, 0, none⟩) n n, .slice a0 n cap0]).run Yba.prog W = .ok (.int .i64 n) w2 ∧
      w2.heap[g]? = some (.cells cs.toArray 5 (0, 0)) ∧ w2.heap.size = W.heap.size ∧ ∀ B, B ≤ g → Below B W w2 := by
  obtain ⟨i0, hi, hz0, hz1, hz2⟩ := info_parts info5
  by_cases h0 : n = 0
  · subst h0
    obtain rfl : cs = [] := List.eq_nil_of_length_eq_zero hcs
    refine ⟨W, ?_, ?_, rfl, fun B _ => Below.refl _ _⟩
    · exact run_copy_none (P := Yba.prog) W 22 22 3 5 (some ⟨g, 0, none⟩) a0 0 0 0 cap0 Yba.underlying22 (by rw [hi]; simp [hz1]) (by simp)
    · rw [hg]; simp [madeCells]
  · obtain ⟨ad, rfl, hc⟩ := hsrc (by omega)
    refine ⟨W.setRow g cs.toArray, ?_, ?_, by simp [World.setRow], fun B hB => below_setRow (Below.refl _ _) hB _⟩
    · have h := run_copy_row (P := Yba.prog) W 22 22 3 5 g 0 n n ad n cap0 (madeCells #[.int .u8 0] n) 5 cs Yba.underlying22 (by rw [hi]; simp [hz1]) hg (by simp [hcs]) hc (by simp [size_madeCells, hcs]) h1c
      rw [h, hcs]
      have e : ((madeCells #[Value.int .u8 0] n).toList.take 0 ++ cs ++ (madeCells #[Value.int .u8 0] n).toList.drop (0 + n)).toArray = cs.toArray := by
        rw [List.drop_eq_nil_of_le (by simp [size_madeCells])]; simp
      rw [e]
      rfl
    · exact setRow_heap W g _ _ 5 _ hg

theorem same_any (a : Option Addr) (n c d : Nat) (h : 0 < n → ∃ g o, a = some ⟨g, o, none⟩) (w : World) :
    Calls Yba.prog 7 #[.slice a n c, .slice a n d] w fun e w' => e = .returned (.bool true) ∧ ∃ nq, w' = w.drewN nq := by
  by_cases h0 : n = 0
  · subst h0; exact same_none a a c d w
  · obtain ⟨g, o, rfl⟩ := h (by omega)
    exact same_some g o n c d (by omega) w

/-- 'TextOf(b)': a text of no message. -/
theorem textOf_any (a : Option Addr) (n c : Nat) (w : World) :
    Calls Yba.prog 5 #[.slice a n c] w fun e w' => e = .returned (.agg #[.pointer none, .bool false, .slice a n c]) ∧ Below w.heap.size w w' := by
  go_enter Yba.func5, Yba.ntmps5
  go_wp2_with fail
  refine bodyPost_ret (v := .agg #[.pointer none, .bool false, .slice a n c]) (by simp [results, Yba.results5, go_sem]) rfl ⟨rfl, ?_⟩
  repeat (refine Below.setCell ?_ (by simp) _)
  exact (Below.refl _ _).alloc (Nat.le_refl _) _

theorem off_zero (m : Option Addr) (a : Option Addr) (n c d pl : Nat) (hp : pl = 0) (hc : c ≤ 2000) (hd : d ≤ 2000) (w : World) :
    Calls Yba.prog 9 #[.slice m n c, .slice a pl d] w fun e w' => e = .returned (.tuple #[.int .i64 0, .bool false]) ∧ ∃ nq, w' = w.drewN nq := by
  subst hp; exact off_none m a n c d hc hd w
end Go.Proofs.Ybulkdfay
