import Derived.Test.YbulkdfeeGreatDoorOpen
import Derived.Test.YbulkdfeeGreatDoorTie
import Derived.Test.YbulkdfeeGreatDoorCards
import Derived.LaidMore
import Derived.Stop.Joined
import Derived.SevenTiedAt
namespace Go.Proofs.YbulkdfeeGreatDoor.lawS5321BRule
open Go.ChangeShapes Go.WideShapes Go.ChangeAt Go.RowKit Go.Deep
set_option linter.unusedVariables false
set_option linter.unusedSimpArgs false

theorem own : ownKnob Ybaz.prog.godebug = none := by kernel_rfl
theorem laidOut : laidOutB Ybaz.prog = true := by kernel_rfl

set_option maxHeartbeats 4000000 in
set_option maxRecDepth 100000 in
/-- TOO MANY ITEMS, OR TOO MANY CROSSINGS. -/
theorem main_long (s0 : Nat) (ia : Option Addr) (n ic : Nat) (xa : Option Addr) (nx xc : Nat) (W : World) (hl : 300 < n ∨ 1024 < nx) (h1 : n ≤ maxLen) (h2 : nx ≤ maxLen) :
    Calls Ybaz.prog 3 #[.int .u8 s0, .slice ia n ic, .slice xa nx xc] W fun e w' => e = .returned (.bool true) ∧ Below W.heap.size W w' := by
  unfold maxLen at h1 h2
  by_cases h : 300 < n
  · have h' : (300 : Int) < (n : Int) := by omega
    go_enter Ybaz.func3, Ybaz.ntmps3
    go_wp2_with fail
    go_ret
    exact ⟨rfl, Below.refl _ _⟩
  · have h' : ¬ (300 : Int) < (n : Int) := by omega
    have h3 : (1024 : Int) < (nx : Int) := by omega
    go_enter Ybaz.func3, Ybaz.ntmps3
    go_wp2_with fail
    go_ret
    exact ⟨rfl, Below.refl _ _⟩

/-- The door's own heap meets the condition. -/
theorem door_met (os : Os) (args : Array Value) : laidMetH Ybaz.prog Rows.lawS5321BRuleRow.laid ((World.doorLaid Ybaz.prog 400 os).forCall (fun _ _ => 0) ⟨#[], args, []⟩).memory :=
  laidMetH_of_parts3 (fuel := 8) (laidMet_of_run' 8 (by kernel_rfl) (by kernel_rfl)) (by kernel_rfl) (by kernel_rfl)

set_option maxRecDepth 100000 in
theorem lifted (os : Os) (started : os.Started) (H : Type) (enc : TypeId × Value → H) :
    ReturnsInHanded {} Ybaz.checked os 3 .any (fun w args => (Rows.lawS5321BRuleSpec.pre enc Ybaz.prog Ybaz.f3 [] false w args ∧ laidMetH Ybaz.prog Rows.lawS5321BRuleRow.laid w) ∧ sizedMet enc Ybaz.prog Ybaz.f3 (OpenSpec.ofChange Rows.lawS5321BRuleSpec) false w args)
      (Rows.lawS5321BRuleSpec.post enc Ybaz.prog Ybaz.f3 false true false false) := by
  refine returnsInHanded_of_change_and (C := Ybaz.checked) (X := fun w _ => laidMetH Ybaz.prog Rows.lawS5321BRuleRow.laid w) (fun _ _ _ hh h => h.of_heap hh) own started (by kernel_rfl) Ybaz.func3
    (ChangeSpec.witness_shaped (enc := enc) (C := Ybaz.checked) (os := os) (X := fun w _ => laidMetH Ybaz.prog Rows.lawS5321BRuleRow.laid w) false (World.doorLaid Ybaz.prog 400 os) #[.int .u8 0, .slice none 0 0, .slice none 0 0] 8 rfl (World.shaped_of_RefB (by kernel_rfl) (by kernel_rfl)) (by kernel_rfl) (by kernel_rfl) (by kernel_rfl) (door_met os _)) ?_
  intro W base args ds gs before hval0 hW _ _ hL _
  have hval : ∀ (j : Nat) t v, Ybaz.f3.params[j]? = some t → args[j]? = some v → Value.okWide Ybaz.prog W .any base t v := hval0
  have hW' := hW
  obtain ⟨p, q, hA0, hV, rfl, hfz, hnd⟩ := hW
  have hA : DataW.TrodAll enc Ybaz.prog W 0 (fun _ => true) true Ybaz.f3.params.toList args.toList ds p := hA0
  rw [Ybaz.params3] at hA hval
  obtain ⟨v0, vs0, d0, ds0, p0, q0, hargs, rfl, rfl, h0, r0⟩ := trodAll_cons hA
  obtain ⟨v1, vs1, d1, ds1, p1, q1, rfl, rfl, rfl, h1, r1⟩ := trodAll_cons r0
  obtain ⟨v2, vs2, d2, ds2, p2, q2, rfl, rfl, rfl, h2, r2⟩ := trodAll_cons r1
  obtain ⟨rfl, rfl, rfl⟩ := trodAll_nil r2
  obtain rfl : args = #[v0, v1, v2] := by cases args; simp_all
  obtain ⟨rfl, rfl⟩ := trodVars_none hV
  obtain ⟨z0, rfl, rfl, rfl, w0⟩ := open_int Ybaz.underlying5 (hval 0 5 v0 rfl rfl) h0
  obtain ⟨a1, len1, cap1, rfl⟩ := okWide_slice Ybaz.underlying22 (hval 1 22 v1 rfl rfl)
  obtain ⟨a2, len2, cap2, rfl⟩ := okWide_slice Ybaz.underlying23 (hval 2 23 v2 rfl rfl)
  have k1 := h1
  have lt1 : ∀ x ∈ p1, x.block < W.heap.size := by obtain ⟨m, hm⟩ := k1; exact DataW.trod_lt m _ _ _ hm
  have k2 := h2
  have lt2 : ∀ x ∈ p2, x.block < W.heap.size := by obtain ⟨m, hm⟩ := k2; exact DataW.trod_lt m _ _ _ hm
  obtain ⟨its, rfl, hl1, hb1, hm1, hI⟩ : ∃ its : List It, len1 = its.length ∧ its.length ≤ maxLen ∧ AllB its ∧ (∀ x ∈ its, x.rd.length ≤ maxLen) ∧ ItsAt W a1 its := by
    obtain ⟨fuel, hf⟩ := h1
    obtain ⟨a, its, cap, e, hl, hb, hm, hI⟩ := open_items (c := .slice a1 len1 cap1) hf
    simp only [Value.slice.injEq] at e
    obtain ⟨rfl, rfl, rfl⟩ := e
    exact ⟨its, rfl, hl, hb, hm, hI⟩
  obtain ⟨xs, rfl, hl2, hb2, hX⟩ : ∃ xs : List Nat, len2 = xs.length ∧ xs.length ≤ maxLen ∧ (∀ v ∈ xs, v ≤ 65535) ∧ XA W a2 xs := by
    obtain ⟨fuel, hf⟩ := h2
    obtain ⟨a, xs, cap, e, hl, hb, hX⟩ := open_u16s (c := .slice a2 len2 cap2) hf
    simp only [Value.slice.injEq] at e
    obtain ⟨rfl, rfl, rfl⟩ := e
    exact ⟨xs, rfl, hl, hb, hX⟩
  clear hA0 hval0
  have walk : Calls Ybaz.prog 3 #[.int .u8 z0, .slice a1 its.length cap1, .slice a2 xs.length cap2] W fun e w' => e = .returned (.bool true) ∧ Below W.heap.size W w' := by
    obtain ⟨s0, rfl, b0⟩ : ∃ n : Nat, z0 = n ∧ n ≤ 255 := ⟨z0.toNat, by have := (bounds_u8 w0).1; omega, by have := (bounds_u8 w0).2; omega⟩
    by_cases hl : 300 < its.length ∨ 1024 < xs.length
    · exact main_long s0 a1 its.length cap1 a2 xs.length cap2 W hl hl1 hl2
    · exact main_rule s0 b0 a1 cap1 its (by omega) hb1 hm1 a2 cap2 xs (by omega) hb2 W hI hX
  refine walk.mono fun e W' ⟨he, bel⟩ => ?_
  subst he
  exact ⟨_, rfl, _, _, _, [], _, [], hW', trodAll_mk1 (shut_bool Ybaz.underlying4 _), (trodAll_cons_mk (shut_int Ybaz.underlying5 w0) (trodAll_cons_mk (Below.trod laidOut (by kernel_rfl) (of_decide_eq_true (by kernel_rfl)) k1 bel lt1) (trodAll_cons_mk (Below.trod laidOut (by kernel_rfl) (of_decide_eq_true (by kernel_rfl)) k2 bel lt2) trodAll_mk0))), rfl, bel.frame _, fun h => by cases h⟩

theorem over : Rows.LawS5321BRuleSaid :=
  OpenClaim.holds_of_wide 3 Ybaz.f3 rfl rfl rfl rfl rfl rfl rfl ⟨rfl, rfl, rfl, rfl, rfl⟩ rfl rfl rfl rfl rfl (by kernel_rfl) Ybaz.func3 (by kernel_rfl)
    (of_decide_eq_true (by kernel_rfl)) (by unfold Func.isWrapper; first | (rw [if_pos (by decide +kernel)]; kernel_rfl) | (rw [if_neg (by decide +kernel)]; exact ⟨rfl, rfl⟩))
    (fun os started H enc _ => lifted os started H enc)

/-- THE STATEMENT -/
theorem proved : Rows.LawS5321BRuleCardSaid :=
  Claim7.holds_tied_plain_at .later [] [.data] true (true, "1ab5a6dcc4e61e5448d82a958333923d4a308279a81af143388a3f02c4979ee7") false
    over (fun _ h => by cases h) (by kernel_rfl) (fun _ h => by cases h) lawS5321BRule_row_tie rfl ⟨rfl, rfl⟩ (by kernel_rfl) rfl
    (fun f fn hf hfn => by
      obtain rfl : f = 3 := Option.some.inj ((show Ybaz.prog.funcNamed Rows.lawS5321BRuleRow.func = some 3 by kernel_rfl).symm.trans hf) |>.symm
      obtain rfl : fn = Ybaz.f3 := (Option.some.inj (Ybaz.func3.symm.trans hfn)).symm
      exact ⟨by kernel_rfl, fun j t ht => by
        rw [Ybaz.params3] at ht
        have hm : t ∈ [5, 22, 23] := by simpa using Array.mem_of_getElem? ht
        have hall : ([5, 22, 23].all fun u => !Ybaz.prog.wantsStandIn u) = true := by kernel_rfl
        exact (show Ybaz.prog.wantsStandIn t = false by simpa using List.all_eq_true.1 hall t hm)⟩)
    (by kernel_rfl)
#print axioms proved
end Go.Proofs.YbulkdfeeGreatDoor.lawS5321BRule
