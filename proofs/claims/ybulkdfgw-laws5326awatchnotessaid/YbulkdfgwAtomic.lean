import Derived.Test.YbulkdfgwRows
import Derived.WalkKit
import Derived.ProofKit
import Derived.WalkSpells
import Derived.WalkLawsBesides
import Derived.WalkSmall
import Derived.Deep.QuietTactic
import Derived.BigQuiet
import Derived.RegionCalls
import Derived.Laws.LoneSync
import Derived.Laws.Pointers
import Derived.Lib.Builder
import Derived.Maps.Own
import Derived.Maps.OwnOps
namespace Go.Proofs.Ybulkdfgw
open Go.ChangeShapes Go.WideShapes Go.ChangeAt Go.RowKit
set_option linter.unusedVariables false
set_option linter.unusedSimpArgs false

/-- sync/atomic.LoadPointer: what the cell holds. -/
theorem loadPtr {a : Addr} {x : Option Addr} {w : World} (hc : w.cell? a = some (.pointer x)) :
    (callFunc 27 #[.pointer (some a)]).run Yba.prog w = .ok (.value (.pointer x)) w := by
  rw [run_callFunc_extern (P := Yba.prog) (f := 27) Yba.func27 (by kernel_rfl) (by kernel_rfl) (by kernel_rfl) (e := Extern.Atomic.loadT .ptr) (by kernel_rfl)]
  change (Sem.run Yba.prog (do Extern.Atomic.read .ptr (← asAddr (.pointer (some a)))) w).andThen _ = _
  simp [Extern.Atomic.read, asAddr, hc, Result.andThen]

/-- sync/atomic.StorePointer: the pointer is stored. -/
theorem storePtr {a : Addr} {x : Option Addr} {u : Value} {w : World} (hc : w.cell? a = some u) (hz : w.frozen? a = false) :
    (callFunc 22 #[.pointer (some a), .pointer x]).run Yba.prog w = .ok (.value (.tuple #[])) (w.setCell a (.pointer x)) := by
  rw [run_callFunc_extern (P := Yba.prog) (f := 22) Yba.func22 (by kernel_rfl) (by kernel_rfl) (by kernel_rfl) (e := Extern.Atomic.storeT) (by kernel_rfl)]
  change (Sem.run Yba.prog (do
    store (← asAddr (.pointer (some a))) (.pointer x) .atomic
    pure Extern.Atomic.none_) w).andThen _ = _
  simp [asAddr, hc, hz, run_store Yba.prog w a (.pointer x) .atomic rfl, Result.andThen, Extern.Atomic.none_]

theorem storeU32 {a : Addr} {y : Int} {u : Value} {w : World} (hc : w.cell? a = some u) (hz : w.frozen? a = false) :
    (callFunc 20 #[.pointer (some a), .int .u32 y]).run Yba.prog w = .ok (.value (.tuple #[])) (w.setCell a (.int .u32 y)) :=
  run_call_store (P := Yba.prog) Yba.func20 (by kernel_rfl) (by kernel_rfl) (by kernel_rfl) (by kernel_rfl) hc hz

/-- 'm.watched()' of metrics whose fingers are nil. -/
theorem watched_nil (gm : Nat) (w : World) (hc : w.cell? ⟨gm, 13, none⟩ = some (.pointer none)) :
    Calls Yba.prog 6 #[.pointer (some ⟨gm, 0, none⟩)] w fun e w' => e = .returned (.map none) ∧ w = w' := by
  have hl := loadPtr hc
  have hcv : (convert 38 49 (.pointer none)).run Yba.prog w = .ok (.pointer none) w := by
    simp [convert, run_underlying Yba.underlying38, run_underlying Yba.underlying49, Conv.unsafePointer]
  go_enter Yba.func6, Yba.ntmps6
  go_wp2
  go_ret
  exact ⟨rfl, rfl⟩

/-- 'm.watched()' of metrics whose fingers point at a map's variable. -/
theorem watched_some (gm gp : Nat) (r : Nat) (w : World) (hc : w.cell? ⟨gm, 13, none⟩ = some (.pointer (some ⟨gp, 0, none⟩))) (hp : w.heap[gp]? = some (.cells #[.map (some r)] 55 (0, 0))) :
    Calls Yba.prog 6 #[.pointer (some ⟨gm, 0, none⟩)] w fun e w' => e = .returned (.map (some r)) ∧ w = w' := by
  have hl := loadPtr hc
  have hsh : w.shape? gp = some (55, 1) := by simp [World.shape?, hp]
  have hcell : w.cell? ⟨gp, 0, none⟩ = some (.map (some r)) := by simp [World.cell?, hp]
  obtain ⟨j, hj⟩ : ∃ j, Yba.prog.info? 55 = some j := Option.isSome_iff_exists.1 (by kernel_rfl)
  have hcv := Lib.run_from_unsafe (P := Yba.prog) w (src := 38) (dst := 49) (u := 55) ⟨gp, 0, none⟩ Yba.underlying38 Yba.underlying49 hj hsh (by kernel_rfl)
  clear hp hsh
  go_enter Yba.func6, Yba.ntmps6
  go_wp2
  go_ret
  exact ⟨rfl, rfl⟩

def bitOf (b : Bool) : Int := if b then 1 else 0

/-- '(*atomic.Bool).Store': the cell holds the bit. -/
theorem boolStore (gb : Nat) (x : Bool) (u : Value) (w : World) (hc : w.cell? ⟨gb, 0, none⟩ = some u) (hz : w.frozen? ⟨gb, 0, none⟩ = false) :
    Calls Yba.prog 7 #[.pointer (some ⟨gb, 0, none⟩), .bool x] w fun e w' => e = .returned (.tuple #[]) ∧ w' = (w.setCell ⟨gb, 0, none⟩ (.int .u32 (bitOf x))).drew := by
  have hc' : w.drew.cell? ⟨gb, 0, none⟩ = some u := by go_simp
  have hz' : w.drew.frozen? ⟨gb, 0, none⟩ = false := by go_simp
  cases x
  · have hst := storeU32 (y := 0) hc' hz'
    go_enter Yba.func7, Yba.ntmps7
    go_wp2
    go_region_calls
    all_goals (go_end0; exact ⟨rfl, rfl⟩)
  · have hst := storeU32 (y := 1) hc' hz'
    go_enter Yba.func7, Yba.ntmps7
    go_wp2
    go_region_calls
    all_goals (go_end0; exact ⟨rfl, rfl⟩)

/-- '(*atomic.Pointer[..]).Store': the cell holds the pointer. -/
theorem ptrStore (gm gp : Nat) (u v : Value) (w : World) (hc : w.cell? ⟨gm, 13, none⟩ = some u) (hz : w.frozen? ⟨gm, 13, none⟩ = false) (hp : w.cell? ⟨gp, 0, none⟩ = some v) :
    Calls Yba.prog 8 #[.pointer (some ⟨gm, 13, none⟩), .pointer (some ⟨gp, 0, none⟩)] w fun e w' => e = .returned (.tuple #[]) ∧ w' = w.setCell ⟨gm, 13, none⟩ (.pointer (some ⟨gp, 0, none⟩)) := by
  have hst := storePtr (x := some ⟨gp, 0, none⟩) hc hz
  have hcv := run_convert_to_unsafe (P := Yba.prog) (src := 49) (dst := 38) Yba.underlying49 Yba.underlying38 (by kernel_rfl) hp
  go_enter Yba.func8, Yba.ntmps8
  go_wp2
  go_end0
  exact ⟨rfl, rfl⟩
end Go.Proofs.Ybulkdfgw
