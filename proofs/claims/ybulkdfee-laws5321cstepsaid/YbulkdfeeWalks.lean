import Derived.Test.YbulkdfeeRows
import Derived.WalkKit
import Derived.ProofKit
import Derived.WalkSpells
import Derived.WalkLawsBesides
import Derived.WalkSmall
import Derived.Deep.QuietTactic
import Derived.BigQuiet
import Derived.Deep.OwnRows
import Derived.Laws.CopyOwn
import Derived.Laws.BytesArg
namespace Go.Proofs.Ybulkdfee
open Go.ChangeShapes Go.WideShapes Go.ChangeAt Go.RowKit
set_option linter.unusedVariables false
set_option linter.unusedSimpArgs false

theorem info5 : (Yba.prog.info? 5).map (fun i => (i.zero, i.size, i.bytes)) = some (some (.int .u8 0), 1, 1) := by kernel_rfl

/-- 'bytes.Equal' of two slices that hold the same bytes. -/
theorem equal_same (v1 v2 : Value) (s : ByteArray) (w : World) (h1 : (convert 62 9 v1).run Yba.prog w = .ok (.string s) w) (h2 : (convert 62 9 v2).run Yba.prog w = .ok (.string s) w) :
    Calls Yba.prog 11 #[v1, v2] w fun e w' => e = .returned (.bool true) ∧ w = w' := by
  go_enter Yba.func11, Yba.ntmps11
  go_wp2
  go_ret
  exact ⟨by simp, rfl⟩


theorem next_nl (gp gs n : Nat) (sz line col : Int) (k : Nat) (c : Int) (w : World) (hkn : k < n) (hn : n ≤ 1024) (hsz : 0 ≤ sz ∧ sz ≤ 3)
    (c0 : w.cell? ⟨gp, 0, none⟩ = some (.slice (some ⟨gs, 0, none⟩) n n)) (c1 : w.cell? ⟨gp, 1, none⟩ = some (.int .i64 k)) (c2 : w.cell? ⟨gp, 2, none⟩ = some (.int .i64 line)) (c3 : w.cell? ⟨gp, 3, none⟩ = some (.int .i64 col)) (c4 : w.cell? ⟨gp, 4, none⟩ = some (.int .i64 sz))
    (f1 : w.frozen? ⟨gp, 1, none⟩ = false) (f2 : w.frozen? ⟨gp, 2, none⟩ = false) (f3 : w.frozen? ⟨gp, 3, none⟩ = false) (hc : w.cell? ⟨gs, k, none⟩ = some (.int .u8 c))
    (hnl : (c == 10) = true) :
    Calls Yba.prog 10 #[.pointer (some ⟨gp, 0, none⟩)] w fun e w' => e = .returned (.tuple #[]) ∧ ∃ nq, w' = (((w.setCell ⟨gp, 1, none⟩ (.int .i64 (k + sz))).setCell ⟨gp, 2, none⟩ (.int .i64 (wrap64 (line + 1)))).setCell ⟨gp, 3, none⟩ (.int .i64 1)).drewN nq := by
  obtain ⟨s0, s1⟩ := hsz
  have hkI : (0 : Int) ≤ (k : Int) := by omega
  have hkI2 : (k : Int) < (n : Int) := by omega
  go_enter Yba.func10, Yba.ntmps10
  go_wp2
  go_quiet (fail)
  go_wp2
  go_region
  all_goals go_wp2
  all_goals first | (go_end0; exact ⟨rfl, _, rfl⟩) | exact bodyPost_ret (results_none rfl _ _ _) rfl ⟨rfl, _, rfl⟩

theorem next_cr (gp gs n : Nat) (sz line col : Int) (k : Nat) (c : Int) (w : World) (hkn : k < n) (hn : n ≤ 1024) (hsz : 0 ≤ sz ∧ sz ≤ 3)
    (c0 : w.cell? ⟨gp, 0, none⟩ = some (.slice (some ⟨gs, 0, none⟩) n n)) (c1 : w.cell? ⟨gp, 1, none⟩ = some (.int .i64 k)) (c2 : w.cell? ⟨gp, 2, none⟩ = some (.int .i64 line)) (c3 : w.cell? ⟨gp, 3, none⟩ = some (.int .i64 col)) (c4 : w.cell? ⟨gp, 4, none⟩ = some (.int .i64 sz))
    (f1 : w.frozen? ⟨gp, 1, none⟩ = false) (f2 : w.frozen? ⟨gp, 2, none⟩ = false) (f3 : w.frozen? ⟨gp, 3, none⟩ = false) (hc : w.cell? ⟨gs, k, none⟩ = some (.int .u8 c))
    (hnl : (c == 10) = false) (hcr : (c == 13) = true) (h2 : (sz == 2) = true) :
    Calls Yba.prog 10 #[.pointer (some ⟨gp, 0, none⟩)] w fun e w' => e = .returned (.tuple #[]) ∧ ∃ nq, w' = (((w.setCell ⟨gp, 1, none⟩ (.int .i64 (k + sz))).setCell ⟨gp, 2, none⟩ (.int .i64 (wrap64 (line + 1)))).setCell ⟨gp, 3, none⟩ (.int .i64 1)).drewN nq := by
  obtain ⟨s0, s1⟩ := hsz
  have hkI : (0 : Int) ≤ (k : Int) := by omega
  have hkI2 : (k : Int) < (n : Int) := by omega
  go_enter Yba.func10, Yba.ntmps10
  go_wp2
  go_quiet (fail)
  go_wp2
  go_region
  all_goals go_wp2
  all_goals first | (go_end0; exact ⟨rfl, _, rfl⟩) | exact bodyPost_ret (results_none rfl _ _ _) rfl ⟨rfl, _, rfl⟩

theorem next_a (gp gs n : Nat) (sz line col : Int) (k : Nat) (c : Int) (w : World) (hkn : k < n) (hn : n ≤ 1024) (hsz : 0 ≤ sz ∧ sz ≤ 3)
    (c0 : w.cell? ⟨gp, 0, none⟩ = some (.slice (some ⟨gs, 0, none⟩) n n)) (c1 : w.cell? ⟨gp, 1, none⟩ = some (.int .i64 k)) (c2 : w.cell? ⟨gp, 2, none⟩ = some (.int .i64 line)) (c3 : w.cell? ⟨gp, 3, none⟩ = some (.int .i64 col)) (c4 : w.cell? ⟨gp, 4, none⟩ = some (.int .i64 sz))
    (f1 : w.frozen? ⟨gp, 1, none⟩ = false) (f2 : w.frozen? ⟨gp, 2, none⟩ = false) (f3 : w.frozen? ⟨gp, 3, none⟩ = false) (hc : w.cell? ⟨gs, k, none⟩ = some (.int .u8 c))
    (hnl : (c == 10) = false) (hcr : (c == 13) = false) :
    Calls Yba.prog 10 #[.pointer (some ⟨gp, 0, none⟩)] w fun e w' => e = .returned (.tuple #[]) ∧ ∃ nq, w' = ((w.setCell ⟨gp, 1, none⟩ (.int .i64 (k + sz))).setCell ⟨gp, 3, none⟩ (.int .i64 (wrap64 (col + 1)))).drewN nq := by
  obtain ⟨s0, s1⟩ := hsz
  have hkI : (0 : Int) ≤ (k : Int) := by omega
  have hkI2 : (k : Int) < (n : Int) := by omega
  go_enter Yba.func10, Yba.ntmps10
  go_wp2
  go_quiet (fail)
  go_wp2
  go_region
  all_goals go_wp2
  all_goals first | (go_end0; exact ⟨rfl, _, rfl⟩) | exact bodyPost_ret (results_none rfl _ _ _) rfl ⟨rfl, _, rfl⟩

theorem next_b (gp gs n : Nat) (sz line col : Int) (k : Nat) (c : Int) (w : World) (hkn : k < n) (hn : n ≤ 1024) (hsz : 0 ≤ sz ∧ sz ≤ 3)
    (c0 : w.cell? ⟨gp, 0, none⟩ = some (.slice (some ⟨gs, 0, none⟩) n n)) (c1 : w.cell? ⟨gp, 1, none⟩ = some (.int .i64 k)) (c2 : w.cell? ⟨gp, 2, none⟩ = some (.int .i64 line)) (c3 : w.cell? ⟨gp, 3, none⟩ = some (.int .i64 col)) (c4 : w.cell? ⟨gp, 4, none⟩ = some (.int .i64 sz))
    (f1 : w.frozen? ⟨gp, 1, none⟩ = false) (f2 : w.frozen? ⟨gp, 2, none⟩ = false) (f3 : w.frozen? ⟨gp, 3, none⟩ = false) (hc : w.cell? ⟨gs, k, none⟩ = some (.int .u8 c))
    (hnl : (c == 10) = false) (hcr : (c == 13) = true) (h2 : (sz == 2) = false) :
    Calls Yba.prog 10 #[.pointer (some ⟨gp, 0, none⟩)] w fun e w' => e = .returned (.tuple #[]) ∧ ∃ nq, w' = ((w.setCell ⟨gp, 1, none⟩ (.int .i64 (k + sz))).setCell ⟨gp, 3, none⟩ (.int .i64 (wrap64 (col + 1)))).drewN nq := by
  obtain ⟨s0, s1⟩ := hsz
  have hkI : (0 : Int) ≤ (k : Int) := by omega
  have hkI2 : (k : Int) < (n : Int) := by omega
  go_enter Yba.func10, Yba.ntmps10
  go_wp2
  go_quiet (fail)
  go_wp2
  go_region
  all_goals go_wp2
  all_goals first | (go_end0; exact ⟨rfl, _, rfl⟩) | exact bodyPost_ret (results_none rfl _ _ _) rfl ⟨rfl, _, rfl⟩
end Go.Proofs.Ybulkdfee
