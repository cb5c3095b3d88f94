import Derived.Test.YbulkdfayRows
import Derived.WalkKit
import Derived.ProofKit
import Derived.WalkSpells
import Derived.WalkLawsBesides
import Derived.Deep.QuietTactic
import Derived.BigQuiet
import Derived.Laws.CopyOwn
import Derived.Laws.Pointers
import Derived.LaidEqlPtr
import Derived.Lib.Builder
namespace Go.Proofs.Ybulkdfay
open Go.ChangeShapes Go.WideShapes Go.ChangeAt Go.RowKit
set_option linter.unusedVariables false
set_option linter.unusedSimpArgs false

theorem info5 : (Yba.prog.info? 5).map (fun i => (i.zero, i.size, i.bytes)) = some (some (.int .u8 0), 1, 1) := by kernel_rfl

/-- 'zzs5315asame' at one slice handed in twice: true. -/
theorem same_none (a b : Option Addr) (c d : Nat) (w : World) :
    Calls Yba.prog 7 #[.slice a 0 c, .slice b 0 d] w fun e w' => e = .returned (.bool true) ∧ ∃ nq, w' = w.drewN nq := by
  go_enter Yba.func7, Yba.ntmps7
  go_wp2
  go_ret
  exact ⟨rfl, 0, rfl⟩

theorem same_some (g o n c d : Nat) (hn : 0 < n) (w : World) :
    Calls Yba.prog 7 #[.slice (some ⟨g, o, none⟩) n c, .slice (some ⟨g, o, none⟩) n d] w fun e w' => e = .returned (.bool true) ∧ ∃ nq, w' = w.drewN nq := by
  have h0 : ((n : Int) == 0) = false := by simp; omega
  have h1 : (0 : Int) < (n : Int) := by omega
  obtain ⟨i0, hi, _, _, _⟩ := info_parts info5
  have he := fun wx => run_eql_ptr_same (P := Yba.prog) wx ⟨g, o, none⟩ Yba.underlying36 hi
  go_enter Yba.func7, Yba.ntmps7
  go_wp2
  go_quiet (fail)
  go_wp2
  go_ret
  exact ⟨by simp, _, rfl⟩

/-- 'offsetIn' where p has no element. -/
theorem off_none (m : Option Addr) (a : Option Addr) (n c d : Nat) (hc : c ≤ 2000) (hd : d ≤ 2000) (w : World) :
    Calls Yba.prog 9 #[.slice m n c, .slice a 0 d] w fun e w' => e = .returned (.tuple #[.int .i64 0, .bool false]) ∧ ∃ nq, w' = w.drewN nq := by
  go_enter Yba.func9, Yba.ntmps9
  go_wp2
  go_quiet (fail)
  go_wp2
  go_ret2
  exact ⟨rfl, _, rfl⟩

/-- 'offsetIn' where the mapping is nil and p has an element. -/
theorem off_nil (a : Option Addr) (n d : Nat) (hn : 0 < n) (hnd : n ≤ d) (hd : d ≤ 2000) (w : World) :
    Calls Yba.prog 9 #[.slice none 0 0, .slice a n d] w fun e w' => e = .returned (.tuple #[.int .i64 0, .bool false]) ∧ ∃ nq, w' = w.drewN nq := by
  have h0 : ((n : Int) == 0) = false := by simp; omega
  have h1 : decide (0 < d) = true := by simp; omega
  go_enter Yba.func9, Yba.ntmps9
  go_wp2
  go_quiet (fail)
  go_wp2
  go_ret2
  exact ⟨rfl, _, rfl⟩

/-- 'offsetIn' where p has an element and lies 'lo' cells behind the mapping's head. -/
theorem off_same (g n lo m : Nat) (hm : 0 < m) (hlo : lo + m ≤ n) (hn : n ≤ 1024) (w : World) :
    Calls Yba.prog 9 #[.slice (some ⟨g, 0, none⟩) n n, .slice (some ⟨g, lo, none⟩) m (n - lo)] w fun e w' => e = .returned (.tuple #[.int .i64 lo, .bool true]) ∧ ∃ nq, w' = w.drewN nq := by
  obtain ⟨d, hd⟩ : ∃ d, d = n - lo := ⟨_, rfl⟩
  obtain rfl : n = lo + d := by omega
  rw [← hd]
  clear hd
  have h0 : ((m : Int) == 0) = false := by simp; omega
  have h1 : decide ((lo : Int) < 0) = false := decide_eq_false (by omega)
  have h2 : decide ((lo : Int) + d ≤ lo) = false := decide_eq_false (by omega)
  have h5 : (lo : Int) < lo + d := by omega
  have h3 : (0 : Int) < (m : Int) := by omega
  have h4 : (0 : Int) < (d : Int) := by omega
  obtain ⟨i0, hi, _, _, _⟩ := info_parts info5
  have he := fun wx => Lib.run_neq_ptr_same (P := Yba.prog) wx ⟨g, lo, none⟩ Yba.underlying36 hi
  go_enter Yba.func9, Yba.ntmps9
  go_wp2
  go_quiet (fail)
  go_wp2
  go_ret2
  exact ⟨rfl, _, rfl⟩

/-- 'offsetIn' where p has an element and lies in another row than the mapping. -/
theorem off_other (g g' n lo m : Nat) (hm : 0 < m) (hlo : lo + m ≤ n) (hn : n ≤ 1024) (hne : g ≠ g') (w : World) (ca cb : Array Value) (ha : w.heap[g]? = some (.cells ca 5 (0, 0))) (hb : w.heap[g']? = some (.cells cb 5 (0, 0))) :
    Calls Yba.prog 9 #[.slice (some ⟨g, 0, none⟩) n n, .slice (some ⟨g', lo, none⟩) m (n - lo)] w fun e w' => e = .returned (.tuple #[.int .i64 0, .bool false]) ∧ ∃ nq, w' = w.drewN nq := by
  obtain ⟨d, hd⟩ : ∃ d, d = n - lo := ⟨_, rfl⟩
  obtain rfl : n = lo + d := by omega
  rw [← hd]
  clear hd
  have h0 : ((m : Int) == 0) = false := by simp; omega
  have h1 : decide ((lo : Int) < 0) = false := decide_eq_false (by omega)
  have h2 : decide ((lo : Int) + d ≤ lo) = false := decide_eq_false (by omega)
  have h5 : (lo : Int) < lo + d := by omega
  have h3 : (0 : Int) < (m : Int) := by omega
  have h4 : (0 : Int) < (d : Int) := by omega
  obtain ⟨i0, hi, _, hz, _⟩ := info_parts info5
  have he : ∀ nq, (binOp .neq 36 (.pointer (some ⟨g, lo, none⟩)) (.pointer (some ⟨g', lo, none⟩))).run Yba.prog (w.drewN nq) = .ok (.bool true) (w.drewN nq) := fun nq => by
    have h := run_sameAddr_other (P := Yba.prog) (w.drewN nq) (a := ⟨g, lo, none⟩) (b := ⟨g', lo, none⟩) (by simp [hne]) (ca := ca) (cb := cb) (ta := 5) (tb := 5) (by simpa using ha) (by simpa using hb)
    have h' : ∀ d : Nat, (Op.equalIn (d + 1) 36 (.pointer (some ⟨g, lo, none⟩)) (.pointer (some ⟨g', lo, none⟩))).run Yba.prog (w.drewN nq) = .ok false (w.drewN nq) := fun d => by
      simp [Op.equalIn, run_underlying Yba.underlying36, sizeOf, typeInfo, hi, hz, h]
    simp only [binOp]
    simp [Op.equal, Op.maxDepth, h' 9999]
  have he0 := he 0
  clear ha hb
  go_enter Yba.func9, Yba.ntmps9
  go_wp2
  go_quiet (fail)
  go_wp2
  go_ret2
  exact ⟨rfl, _, rfl⟩
end Go.Proofs.Ybulkdfay
