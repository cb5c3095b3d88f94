import Derived.Test.YbulkdfeeGreatDoorMain3
import Derived.Test.YbulkdfeeGreatDoorMain4
import Derived.Test.YbulkdfeeGreatDoorMain5
import Derived.Test.YbulkdfeeGreatDoorMain7
import Derived.Test.YbulkdfeeGreatDoorMain8
import Derived.Test.YbulkdfeeGreatDoorMain10
namespace Go.Proofs.YbulkdfeeGreatDoor
open Go.ChangeShapes Go.WideShapes Go.ChangeAt Go.RowKit
set_option linter.unusedVariables false
set_option linter.unusedSimpArgs false

/-- The law's function, walked: it answers true, and turns nothing that lay before. -/
theorem main_rule (s0 : Nat) (h0 : s0 ≤ 255) (ia : Option Addr) (ic : Nat) (its : List It) (hn : its.length ≤ 300) (hb : AllB its) (hm : ∀ x ∈ its, x.rd.length ≤ maxLen) (xa : Option Addr) (xc : Nat) (xs : List Nat) (hx : xs.length ≤ 1024) (hxb : ∀ x ∈ xs, x ≤ 65535) (W : World) (hI : ItsAt W ia its) (hX : XA W xa xs) :
    Calls Ybaz.prog 3 #[.int .u8 s0, .slice ia its.length ic, .slice xa xs.length xc] W fun e w' => e = .returned (.bool true) ∧ Below W.heap.size W w' :=
  st1.out ⟨st2.out ⟨part_tab⟩ ⟨part_put⟩ ⟨part_read⟩ ⟨part_step⟩ ⟨st6.out ⟨part_idx⟩ ⟨part_row⟩ ⟨part_cnt⟩ ⟨part_any⟩ ⟨st9.out ⟨part_group⟩ ⟨part_end⟩⟩⟩⟩ s0 h0 ia ic its hn hb hm xa xc xs hx hxb W hI hX

end Go.Proofs.YbulkdfeeGreatDoor
