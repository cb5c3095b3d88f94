import Derived.Test.YbulkdfeeGreatDoorItems
import Derived.Lib.Builder
namespace Go.Proofs.YbulkdfeeGreatDoor
open Go.ChangeShapes Go.WideShapes Go.ChangeAt Go.RowKit
set_option linter.unusedVariables false
set_option linter.unusedSimpArgs false

theorem sz26 : (Ybaz.prog.info? 26).map (·.size) = some 3 := by kernel_rfl
theorem i64w (z : Int) (h : -9223372036854775808 ≤ z ∧ z ≤ 9223372036854775807) : IntKind.i64.wrap z = z := by rw [IntKind.wrap_i64]; omega
def SU (gx : Nat) (c : List Value) (wq : World) : Prop := CB wq gx 26 c
theorem AP_nil (v : Value) : AP v (.slice none 0 0) := fun k _ h => by cases h
theorem neq27 (w : World) (a : Addr) : (binOp .neq 27 (.pointer (some a)) (.pointer (some a))).run Ybaz.prog w = .ok (.bool false) w := by
  have h : (Ybaz.prog.info? 33).isSome = true := by kernel_rfl
  obtain ⟨j, hj⟩ := Option.isSome_iff_exists.1 h
  exact Go.Lib.run_neq_ptr_same w a Ybaz.underlying27 hj
theorem any_succ {cs : List Nat} {p c : Nat} (hc : cs[p]? = some c) (f : Nat → Bool) : (cs.take (p + 1)).any f = ((cs.take p).any f || f c) := by
  rw [List.take_add_one, hc, List.any_append]; simp
theorem count_take_int {L : List Int} {j : Nat} {x : Int} (h : L[j]? = some x) : (L.take j).count x < L.count x := by
  have e : L = L.take (j + 1) ++ L.drop (j + 1) := (List.take_append_drop _ _).symm
  have h1 : L.count x = (L.take (j + 1)).count x + (L.drop (j + 1)).count x := by
    conv => lhs; rw [e]
    exact List.count_append ..
  have h2 : (L.take (j + 1)).count x = (L.take j).count x + 1 := by rw [take_succ' h, List.count_append]; simp
  omega
def AllB (its : List It) : Prop := ∀ x ∈ its, x.wv ≤ 255 ∧ ∀ v ∈ x.rd, v ≤ 255

/-- A hole of a walk: what it wants, hidden from the tactics. -/
structure Shut (P : Prop) : Prop where
  out : P

/-- A walk with 1 hole: each is a theorem of its own. -/
structure Cut1 (G : Prop) where
  A : Prop
  out : Shut A → G

/-- A walk with 2 holes: each is a theorem of its own. -/
structure Cut2 (G : Prop) where
  A : Prop
  B : Prop
  out : Shut A → Shut B → G

/-- A walk with 3 holes: each is a theorem of its own. -/
structure Cut3 (G : Prop) where
  A : Prop
  B : Prop
  C : Prop
  out : Shut A → Shut B → Shut C → G

/-- A walk with 4 holes: each is a theorem of its own. -/
structure Cut4 (G : Prop) where
  A : Prop
  B : Prop
  C : Prop
  D : Prop
  out : Shut A → Shut B → Shut C → Shut D → G

/-- A walk with 5 holes: each is a theorem of its own. -/
structure Cut5 (G : Prop) where
  A : Prop
  B : Prop
  C : Prop
  D : Prop
  E : Prop
  out : Shut A → Shut B → Shut C → Shut D → Shut E → G

end Go.Proofs.YbulkdfeeGreatDoor
