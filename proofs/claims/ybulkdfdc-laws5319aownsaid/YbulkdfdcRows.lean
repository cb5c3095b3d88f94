/-
  No cell of these rows narrows 'for every input' (looked for: loops, veiled, ifaces, maps, wideKeys, modest, calm, conditions, laid).
  DERIVED. THE GIVEN ROWS OF THIS SEAT. 3 by the template 'for every input the law returns true; each argument reads behind the call as it read before'; 0 by the template 'total and deterministic' (their statements: YbulkdfdcTotals.lean).
  GIVEN WITH THE SEED: the statements are not yours to turn. If you find one false, say at which input.
  Laid BY PROGRAM, IN A SANDBOX (cutbox-rows.mjs): the forced cells as the released guide's own fill.sh prints them over the translation 299bbb4ab9d4a654… (all of the seat's roots in one cut). By AI agents, Wed Nov 11 2026. No macro, syntax, notation, axiom, sorry.
-/
import Derived.Test.YbulkdfdcChecked
import GoSem.Claim
import GoSem.ClaimJoined
import GoSem.ClaimMapViews
import Derived.JoinedTies
import Derived.KernelRfl
namespace Go.Proofs.Ybulkdfdc
/- THE CELL 'sum', in the pinned program and in every row, IS THE sha256 OF THE DUMP (.gsa) THAT YbulkdfdcProg.lean LOADS. Nothing in Lean hashes anything: it is a label: what it is worth is what the hold of that sum in a sandbox is worth. -/
noncomputable def Yba.pinned : Pinned := { name := "ybulkdfdc", sum := "299bbb4ab9d4a6541c77446e596566fcb71174dcfed4d025fa8919c7cafb5b6f", checked := Yba.checked }
namespace Rows
def none {H : Type} : Left H := { results := [], args := [] }

/-- 'ringfinger.LawS5319ARoute': WHATEVER THE INPUT: true; the input reads as it did. -/
def lawS5319ARouteSpec : ChangeSpec := { name := "lawS5319ARoute", fn := fun _ => fun
  | [d1, d2, d3, d4, d5, d6, d7] => { results := [.lit (.bool true)], args := [d1, d2, d3, d4, d5, d6, d7] }
  | _ => none }
def lawS5319ARouteRow : OpenClaim := { program := "ybulkdfdc", sum := "299bbb4ab9d4a6541c77446e596566fcb71174dcfed4d025fa8919c7cafb5b6f", func := "example.com/ringfinger/ringfinger.LawS5319ARoute", spec := "lawS5319ARoute", inPlace := ["internal/reflectlite.TypeOf", "(*internal/sync.Mutex).Lock", "internal/race.Disable", "sync/atomic.CompareAndSwapInt32", "internal/race.Enable", "internal/race.Acquire", "(*internal/sync.Mutex).lockSlow", "internal/sync.runtime_canSpin", "internal/sync.runtime_doSpin", "internal/sync.throw", "internal/sync.runtime_nanotime", "internal/sync.runtime_SemacquireMutex", "sync/atomic.AddInt32", "(*internal/sync.Mutex).Unlock", "internal/race.ReleaseMerge", "(*internal/sync.Mutex).unlockSlow", "internal/sync.fatal", "internal/sync.runtime_Semrelease"], unfollowed := true, recurses := true, plainKeys := false, apart := false }
def LawS5319ARouteSaid : Prop := lawS5319ARouteRow.holds Yba.pinned (OpenSpec.ofChange lawS5319ARouteSpec)

/-- ITS FALSE NEIGHBOUR: 'it returns false'. Refute it at one input. -/
def lawS5319ARouteWrong : ChangeSpec := { name := "lawS5319ARoute", fn := fun _ => fun
  | [d1, d2, d3, d4, d5, d6, d7] => { results := [.lit (.bool false)], args := [d1, d2, d3, d4, d5, d6, d7] }
  | _ => none }
def LawS5319ARouteWrongFalsely : Prop := lawS5319ARouteRow.holds Yba.pinned (OpenSpec.ofChange lawS5319ARouteWrong)

/-- 'ringfinger.LawS5319AOwn': WHATEVER THE INPUT: true; the input reads as it did. -/
def lawS5319AOwnSpec : ChangeSpec := { name := "lawS5319AOwn", fn := fun _ => fun
  | [d1, d2] => { results := [.lit (.bool true)], args := [d1, d2] }
  | _ => none }
def lawS5319AOwnRow : OpenClaim := { program := "ybulkdfdc", sum := "299bbb4ab9d4a6541c77446e596566fcb71174dcfed4d025fa8919c7cafb5b6f", func := "example.com/ringfinger/ringfinger.LawS5319AOwn", spec := "lawS5319AOwn", inPlace := ["(*internal/sync.Mutex).Lock", "internal/race.Disable", "sync/atomic.CompareAndSwapInt32", "internal/race.Enable", "internal/race.Acquire", "(*internal/sync.Mutex).lockSlow", "internal/sync.runtime_canSpin", "internal/sync.runtime_doSpin", "internal/sync.throw", "internal/sync.runtime_nanotime", "internal/sync.runtime_SemacquireMutex", "sync/atomic.AddInt32", "(*internal/sync.Mutex).Unlock", "internal/race.ReleaseMerge", "(*internal/sync.Mutex).unlockSlow", "internal/sync.fatal", "internal/sync.runtime_Semrelease"], unfollowed := true, recurses := true, plainKeys := false, apart := false }
def LawS5319AOwnSaid : Prop := lawS5319AOwnRow.holds Yba.pinned (OpenSpec.ofChange lawS5319AOwnSpec)

/-- ITS FALSE NEIGHBOUR: 'it returns false'. Refute it at one input. -/
def lawS5319AOwnWrong : ChangeSpec := { name := "lawS5319AOwn", fn := fun _ => fun
  | [d1, d2] => { results := [.lit (.bool false)], args := [d1, d2] }
  | _ => none }
def LawS5319AOwnWrongFalsely : Prop := lawS5319AOwnRow.holds Yba.pinned (OpenSpec.ofChange lawS5319AOwnWrong)

/-- 'ringfinger.LawS5319CEncodes': WHATEVER THE INPUT: true; the input reads as it did. -/
def lawS5319CEncodesSpec : ChangeSpec := { name := "lawS5319CEncodes", fn := fun _ => fun
  | [d1, d2, d3] => { results := [.lit (.bool true)], args := [d1, d2, d3] }
  | _ => none }
def lawS5319CEncodesRow : OpenClaim := { program := "ybulkdfdc", sum := "299bbb4ab9d4a6541c77446e596566fcb71174dcfed4d025fa8919c7cafb5b6f", func := "example.com/ringfinger/ringfinger.LawS5319CEncodes", spec := "lawS5319CEncodes", named := ["encoding/binary.BigEndian"], plainKeys := false, apart := false }
def LawS5319CEncodesSaid : Prop := lawS5319CEncodesRow.holds Yba.pinned (OpenSpec.ofChange lawS5319CEncodesSpec)

/-- ITS FALSE NEIGHBOUR: 'it returns false'. Refute it at one input. -/
def lawS5319CEncodesWrong : ChangeSpec := { name := "lawS5319CEncodes", fn := fun _ => fun
  | [d1, d2, d3] => { results := [.lit (.bool false)], args := [d1, d2, d3] }
  | _ => none }
def LawS5319CEncodesWrongFalsely : Prop := lawS5319CEncodesRow.holds Yba.pinned (OpenSpec.ofChange lawS5319CEncodesWrong)

end Rows
end Go.Proofs.Ybulkdfdc
