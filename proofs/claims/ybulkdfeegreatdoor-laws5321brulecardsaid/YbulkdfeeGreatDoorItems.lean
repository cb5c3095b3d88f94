import Derived.Test.YbulkdfeeGreatDoorRule
import Derived.Test.YbulkdfeeGreatDoorUses
namespace Go.Proofs.YbulkdfeeGreatDoor
open Go.ChangeShapes Go.WideShapes Go.ChangeAt Go.RowKit
set_option linter.unusedVariables false
set_option linter.unusedSimpArgs false

structure It where
  wr : Bool
  wv : Nat
  rd : List Nat
  ra : Option Addr
  rc : Nat
def It.cells (x : It) : List Value := [.bool x.wr, .int .u8 x.wv, .slice x.ra x.rd.length x.rc]
def RA8 (w : World) (a : Option Addr) (xs : List Nat) : Prop := ∀ (i x : Nat), xs[i]? = some x → ∃ g o, a = some ⟨g, o, none⟩ ∧ g < w.heap.size ∧ w.cell? ⟨g, o + i, none⟩ = some (.int .u8 (x : Int))
theorem RA8.below {w w' : World} {a : Option Addr} {xs : List Nat} (h : RA8 w a xs) (hB : Below w.heap.size w w') : RA8 w' a xs := fun i x hx => by
  obtain ⟨g, o, ha, hg, hc⟩ := h i x hx
  exact ⟨g, o, ha, Nat.lt_of_lt_of_le hg hB.size, by rw [hB.cell hg]; exact hc⟩
def XA (w : World) (a : Option Addr) (xs : List Nat) : Prop := ∀ (i x : Nat), xs[i]? = some x → ∃ g o, a = some ⟨g, o, none⟩ ∧ g < w.heap.size ∧ w.cell? ⟨g, o + i, none⟩ = some (.int .u16 (x : Int))
theorem XA.below {w w' : World} {a : Option Addr} {xs : List Nat} (h : XA w a xs) (hB : Below w.heap.size w w') : XA w' a xs := fun i x hx => by
  obtain ⟨g, o, ha, hg, hc⟩ := h i x hx
  exact ⟨g, o, ha, Nat.lt_of_lt_of_le hg hB.size, by rw [hB.cell hg]; exact hc⟩
/-- The items as the argument holds them. -/
def ItsAt (w : World) (a : Option Addr) (its : List It) : Prop := ∀ i x, its[i]? = some x → (∃ g o, a = some ⟨g, o, none⟩ ∧ g < w.heap.size ∧ w.rangeAt g (o + i * 3) x.cells) ∧ RA8 w x.ra x.rd
theorem ItsAt.below {w w' : World} {a : Option Addr} {its : List It} (h : ItsAt w a its) (hB : Below w.heap.size w w') : ItsAt w' a its := fun i x hx => by
  obtain ⟨⟨g, o, ha, hg, hc⟩, h2⟩ := h i x hx
  exact ⟨⟨g, o, ha, Nat.lt_of_lt_of_le hg hB.size, rangeAt_blk (hB.block g hg) hc⟩, h2.below hB⟩
def Lf (T : Nat) (x : It) : List Int := (if x.wr then [frm T x.wv] else []) ++ x.rd.map (frm T)
def FL (T : Nat) (l : List It) : List Int := l.flatMap (Lf T)
def usF (T : Nat) (its : List It) (j : Nat) : Nat := (FL T (its.take j)).length
def wN (its : List It) (j : Nat) : Nat := match its[j]? with
  | some x => if x.wr then 1 else 0
  | none => 0
def weF (T : Nat) (its : List It) (j : Nat) : Nat := usF T its j + wN its j
theorem FL_succ {T : Nat} {its : List It} {i : Nat} {x : It} (h : its[i]? = some x) : FL T (its.take (i + 1)) = FL T (its.take i) ++ Lf T x := by
  unfold FL; rw [List.take_add_one, h]; simp
theorem usF_succ {T : Nat} {its : List It} {i : Nat} {x : It} (h : its[i]? = some x) : usF T its (i + 1) = usF T its i + (Lf T x).length := by
  unfold usF; rw [FL_succ h, List.length_append]
theorem len_Lf (T : Nat) (x : It) : (Lf T x).length = (if x.wr then 1 else 0) + x.rd.length := by
  unfold Lf; cases x.wr <;> simp <;> omega
theorem mem_FL {T : Nat} (hT : 1 ≤ T) {its : List It} {r : Int} (h : r ∈ FL T its) : -2 ≤ r ∧ r < T := by
  obtain ⟨x, _, hr⟩ := List.mem_flatMap.1 h
  have : ∃ v, r = frm T v := by
    rcases List.mem_append.1 hr with h | h
    · cases hx : x.wr
      · rw [hx] at h; simp at h
      · rw [hx] at h; simp at h; exact ⟨_, h⟩
    · obtain ⟨v, _, rfl⟩ := List.mem_map.1 h; exact ⟨v, rfl⟩
  obtain ⟨v, rfl⟩ := this
  exact ⟨frm_lo T v, frm_hi T v hT⟩
theorem FL_le {T : Nat} : ∀ {its : List It}, (∀ x ∈ its, x.rd.length ≤ 256) → (FL T its).length ≤ 257 * its.length
  | [], _ => by simp [FL]
  | x :: its, h => by
    have h1 := FL_le (T := T) (its := its) (fun y hy => h y (by simp [hy]))
    have h2 := h x (by simp)
    have h3 := len_Lf T x
    have h4 : (Lf T x).length ≤ 257 := by rw [h3]; split <;> omega
    unfold FL at *
    simp only [List.flatMap_cons, List.length_append, List.length_cons]
    omega
theorem usF_top (T : Nat) (its : List It) (j : Nat) : usF T its j ≤ (FL T its).length := by
  have e : its = its.take j ++ its.drop j := (List.take_append_drop _ _).symm
  unfold usF
  have : FL T its = FL T (its.take j) ++ FL T (its.drop j) := by
    conv => lhs; rw [e]
    exact List.flatMap_append ..
  rw [this, List.length_append]; omega
/-- The table that the law has built. -/
def tab (gt gs gw gst T : Nat) (its : List It) (U : List Us) (ua : Option Addr) (uc : Nat) : TB := ⟨gt, gs, gw, gst, its.length, T, U, usF T its, weF T its, ua, uc⟩
theorem tab_ok {gt gs gw gst T : Nat} {its : List It} {U : List Us} {ua : Option Addr} {uc : Nat} (hT : 1 ≤ T ∧ T ≤ 16) (hn : its.length ≤ 300) (hr : ∀ x ∈ its, x.rd.length ≤ 256) (hU : U.map Us.r = FL T its) (hc : U.length ≤ uc) : (tab gt gs gw gst T its U ua uc).Ok := by
  have hl : U.length = (FL T its).length := by rw [← hU, List.length_map]
  have hFL := FL_le (T := T) hr
  have hx : ∀ i, i < its.length → ∃ x, its[i]? = some x := fun i hi => ⟨its[i], List.getElem?_eq_getElem hi⟩
  refine ⟨hn, hT, ?_, hc, ?_, ?_, fun i hi => ?_, fun i _ => ?_, fun i hi => ?_, fun u hu => ?_⟩
  · show U.length ≤ 77100; omega
  · show usF T its 0 = 0; simp [usF, FL]
  · show usF T its its.length = U.length; rw [hl]; unfold usF; rw [List.take_length]
  · obtain ⟨x, hx⟩ := hx i hi
    show usF T its i ≤ usF T its (i + 1); rw [usF_succ hx]; omega
  · show usF T its i ≤ U.length; rw [hl]; exact usF_top T its i
  · obtain ⟨x, hx⟩ := hx i hi
    show usF T its i ≤ weF T its i ∧ weF T its i ≤ usF T its i + 1 ∧ weF T its i ≤ usF T its (i + 1)
    have e : wN its i = if x.wr then 1 else 0 := by unfold wN; rw [hx]
    have h3 := len_Lf T x
    rw [usF_succ hx]
    unfold weF
    rw [e, h3]
    split <;> omega
  · show -2 ≤ u.r ∧ u.r < (T : Int)
    exact mem_FL hT.1 (by rw [← hU]; exact List.mem_map_of_mem hu)
/-- The table in the making. -/
structure LB (W : World) (n T gt gs gw gst : Nat) (v : Value) (fs fw : Nat → Int) (wq : World) : Prop where
  bel : Below W.heap.size W wq
  row : CB wq gt 33 (rw33 v gs gw gst n T)
  st : FB wq gs (n + 1) fs
  we : FB wq gw n fw
section
variable {W : World} {n T gt gs gw gst : Nat} {v v' : Value} {fs fw : Nat → Int} {wq wq' : World} {U : List Us}
theorem LB.below (h : LB W n T gt gs gw gst v fs fw wq) (hB : Below wq.heap.size wq wq') : LB W n T gt gs gw gst v fs fw wq' :=
  ⟨h.bel.trans (hB.mono h.bel.size), h.row.below hB h.row.lt, CB.below h.st hB (CB.lt h.st), CB.below h.we hB (CB.lt h.we)⟩
theorem LB.grown (h : LB W n T gt gs gw gst v fs fw wq) (hO : OU W.heap.size wq v U) (hG : wq.grownBy wq' v.ownBlock) : LB W n T gt gs gw gst v fs fw wq' :=
  ⟨h.bel.grown hG h.bel.size (fun k hk => (own_tag hO hk).1), h.row.grown hG (own_ne hO h.row (by decide)), CB.grown h.st hG (own_ne hO h.st (by decide)), CB.grown h.we hG (own_ne hO h.we (by decide))⟩
/-- 't.uses = ..' -/
theorem LB.put (h : LB W n T gt gs gw gst v fs fw wq) (hg : W.heap.size ≤ gt) : LB W n T gt gs gw gst v' fs fw (wq.setCell ⟨gt, 0, none⟩ v') :=
  ⟨h.bel.setCell hg _, CB.set (i := 0) h.row, CB.other h.st (CB.apart h.row h.st (by decide)), CB.other h.we (CB.apart h.row h.we (by decide))⟩
theorem LB.setS (h : LB W n T gt gs gw gst v fs fw wq) (hg : W.heap.size ≤ gs) (hne : gs ≠ gw) (i : Nat) (y : Int) : LB W n T gt gs gw gst v (fun j => if j = i then y else fs j) fw (wq.setCell ⟨gs, i, none⟩ (.int .i64 y)) :=
  ⟨h.bel.setCell hg _, h.row.other (CB.apart h.st h.row (by decide)), h.st.set i y, CB.other h.we hne⟩
theorem LB.setW (h : LB W n T gt gs gw gst v fs fw wq) (hg : W.heap.size ≤ gw) (hne : gs ≠ gw) (i : Nat) (y : Int) : LB W n T gt gs gw gst v fs (fun j => if j = i then y else fw j) (wq.setCell ⟨gw, i, none⟩ (.int .i64 y)) :=
  ⟨h.bel.setCell hg _, h.row.other (CB.apart h.we h.row (by decide)), CB.other h.st hne.symm, h.we.set i y⟩
theorem LB.drew (h : LB W n T gt gs gw gst v fs fw wq) : LB W n T gt gs gw gst v fs fw wq.drew := ⟨h.bel.drew, h.row, h.st, h.we⟩
end
theorem OU.set {B : Nat} {w : World} {v : Value} {U : List Us} (h : OU B w v U) {g i : Nat} {u : Value} {t : TypeId} {cs : List Value} (hc : CB w g t cs) (ht : t ≠ 36) : OU B (w.setCell ⟨g, i, none⟩ u) v U := own_set h (own_ne h hc ht)
theorem OU.below {B : Nat} {w w' : World} {v : Value} {U : List Us} (h : OU B w v U) (hB : Below w.heap.size w w') : OU B w' v U := own_below h hB
theorem OU.drew {B : Nat} {w : World} {v : Value} {U : List Us} (h : OU B w v U) : OU B w.drew v U := h
end Go.Proofs.YbulkdfeeGreatDoor
