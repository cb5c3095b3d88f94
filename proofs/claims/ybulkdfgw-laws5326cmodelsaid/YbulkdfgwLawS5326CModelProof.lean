import Derived.Test.YbulkdfgwModel
import Derived.OpenShut
import Derived.ShutString
import Derived.ChangeOld
import Derived.Below
import Derived.Deep.Slices
namespace Go.Proofs.Ybulkdfgw.lawS5326CModel
open Go.ChangeShapes Go.WideShapes Go.ChangeAt Go.RowKit Go.Deep
open Extern.Stop (cell)
set_option linter.unusedVariables false
set_option linter.unusedSimpArgs false

theorem own : ownKnob Yba.prog.godebug = none := by kernel_rfl
theorem laidOut : laidOutB Yba.prog = true := by kernel_rfl
theorem cells5 : Yba.prog.cellsOf 5 = 1 := by kernel_rfl
theorem cells27 : Yba.prog.cellsOf 27 = 1 := by kernel_rfl
theorem cells64 : Yba.prog.cellsOf 64 = 20 := by kernel_rfl

set_option maxHeartbeats 2000000 in
set_option maxRecDepth 40000 in
/-- MORE THAN 1,024 NUMBERS: nothing is looked at. -/
theorem main_long (s0 s1 s2 s3 s4 : Nat) (raw : List UInt8) (ta : Option Addr) (n tc : Nat) (z : Int) (W : World) (hl : 1024 < n) (hm : n ≤ maxLen) :
    Calls Yba.prog 5 #[.int .u8 s0, .int .u8 s1, .int .u8 s2, .int .u8 s3, .int .u8 s4, .agg (idC raw).toArray, .slice ta n tc, .int .u64 z] W fun e w' => e = .returned (.bool true) ∧ Below W.heap.size W w' := by
  unfold maxLen at hm
  have HB : Hid (Below W.heap.size W (W.alloc (.cells (idC raw).toArray 64))) := step_alloc _ _
  go_enter Yba.func5, Yba.ntmps5
  go_wp2_with fail
  go_ret
  exact ⟨rfl, HB.out⟩

section
variable {H : Type} {enc : TypeId × Value → H} {W : World} {base : Nat} {spare : Nat → Bool} {held : Bool}

theorem open_raw {fuel : Nat} {cs : List Value} {x : DataW H × List MemPlace} (h : DataW.trod enc Yba.prog W base spare held fuel 64 cs = some x) : ∃ raw : List UInt8, raw.length = 20 ∧ cs = idC raw := by
  obtain ⟨xs, m, _, _, hl, hxl, hx⟩ := DataW.trod_array Yba.underlying64 h
  rw [cells64] at hl
  have each : ∀ u ∈ cs, ∃ b : UInt8, u = cell b := by
    intro u hu
    obtain ⟨i, hi⟩ := List.getElem?_of_mem hu
    have hi20 : i < 20 := by have := (List.getElem?_eq_some_iff.1 hi).1; omega
    have e := hx i hi20
    rw [cells5, List.getElem?_eq_getElem (by omega)] at e
    obtain ⟨z, hz, _, hw⟩ := DataW.trod_int Yba.underlying5 e
    have : ((cs.drop (i * 1)).take 1)[0]? = some u := by
      rw [List.getElem?_take, if_pos (by omega), List.getElem?_drop]; simpa using hi
    rw [hz] at this
    simp only [List.getElem?_cons_zero, Option.some.injEq] at this
    obtain ⟨h0, h1⟩ := bounds_u8 hw
    refine ⟨UInt8.ofNat z.toNat, ?_⟩
    rw [← this]
    show Value.int .u8 z = Value.int .u8 (Int.ofNat (UInt8.ofNat z.toNat).toNat)
    congr 1
    rw [UInt8.toNat_ofNat']
    simp only [Int.ofNat_eq_natCast]
    omega
  clear hx hxl h
  obtain ⟨raw, rfl⟩ : ∃ raw : List UInt8, cs = idC raw := by
    clear hl
    induction cs with
    | nil => exact ⟨[], rfl⟩
    | cons u us ih =>
      obtain ⟨b, rfl⟩ := each u (by simp)
      obtain ⟨r, rfl⟩ := ih fun v hv => each v (by simp [hv])
      exact ⟨b :: r, rfl⟩
  exact ⟨raw, by rwa [len_idC] at hl, rfl⟩

theorem open_nums {fuel : Nat} {a : Option Addr} {len cap : Nat} {x : DataW H × List MemPlace} (h : DataW.trod enc Yba.prog W base (fun _ => true) held fuel 75 [.slice a len cap] = some x) :
    len ≤ maxLen ∧ (a = none → len = 0 ∧ cap = 0) ∧ ∃ ns : List Int, ns.length = len ∧ NumsAt W a ns := by
  rcases open_ints Yba.underlying75 Yba.underlying27 cells27 h with ⟨hcs, _⟩ | ⟨x, l, c, zs, hcs, _, hl, hm, hz, _, hcell, hws⟩
  · simp only [List.cons.injEq, Value.slice.injEq, and_true] at hcs
    obtain ⟨rfl, rfl, rfl⟩ := hcs
    exact ⟨Nat.zero_le _, fun _ => ⟨rfl, rfl⟩, [], rfl, fun i z hz => by cases hz⟩
  · simp only [List.cons.injEq, Value.slice.injEq, and_true] at hcs
    obtain ⟨rfl, rfl, rfl⟩ := hcs
    simp only [if_true] at hz
    refine ⟨Nat.le_trans hl hm, fun h => (Option.some_ne_none _ h).elim, zs.take len, by rw [List.length_take]; omega, fun i z hi => ?_⟩
    rw [List.getElem?_take] at hi
    split at hi
    · have hi' : i < zs.length := (List.getElem?_eq_some_iff.1 hi).1
      have hc := hcell i hi'
      obtain ⟨b, off, spot⟩ := x
      have hspot : spot = none := by simpa [Addr.add] using World.cell?_spot (hcell 0 (by omega))
      subst hspot
      have hv : zs.getD i 0 = z := by simp [List.getD, hi]
      rw [hv] at hc
      have hc' : W.cell? ⟨b, off + i, none⟩ = some (.int .u64 z) := by rw [← add_plain]; exact hc
      refine ⟨b, off, rfl, ?_, hc'⟩
      rcases Nat.lt_or_ge b W.heap.size with h' | h'
      · exact h'
      · simp [World.cell?, Array.getElem?_eq_none h'] at hc'
    · cases hi
end

set_option maxRecDepth 100000 in
theorem lifted (os : Os) (started : os.Started) (H : Type) (enc : TypeId × Value → H) :
    ReturnsInHanded {} Yba.checked os 5 .any (Rows.lawS5326CModelSpec.pre6 enc Yba.prog Yba.f5 Rows.lawS5326CModelRow.domain false) (Rows.lawS5326CModelSpec.post enc Yba.prog Yba.f5 false true false false) := by
  refine returnsInHanded_of_change (C := Yba.checked) own started (by kernel_rfl) Yba.func5
    (ChangeSpec.witness6 (enc := enc) (C := Yba.checked) false ⟨#[], #[.int .u8 0, .int .u8 0, .int .u8 0, .int .u8 0, .int .u8 0, .agg (Array.replicate 20 (.int .u8 0)), .slice none 0 0, .int .u64 0], []⟩ 8 (by kernel_rfl) (by kernel_rfl) (by kernel_rfl) (by kernel_rfl)) ?_
  intro W base args ds gs before hval0 hW hcnd _
  have hval : ∀ (j : Nat) t v, Yba.f5.params[j]? = some t → args[j]? = some v → Value.okWide Yba.prog W .any base t v := hval0
  have hW' := hW
  obtain ⟨p, q, hA0, hV, rfl, hfz, hnd⟩ := hW
  have hA : DataW.TrodAll enc Yba.prog W 0 (fun _ => true) true Yba.f5.params.toList args.toList ds p := hA0
  rw [Yba.params5] at hA hval
  obtain ⟨v0, vs0, d0, ds0, p0, q0, hargs, rfl, rfl, h0, r0⟩ := trodAll_cons hA
  obtain ⟨v1, vs1, d1, ds1, p1, q1, rfl, rfl, rfl, h1, r1⟩ := trodAll_cons r0
  obtain ⟨v2, vs2, d2, ds2, p2, q2, rfl, rfl, rfl, h2, r2⟩ := trodAll_cons r1
  obtain ⟨v3, vs3, d3, ds3, p3, q3, rfl, rfl, rfl, h3, r3⟩ := trodAll_cons r2
  obtain ⟨v4, vs4, d4, ds4, p4, q4, rfl, rfl, rfl, h4, r4⟩ := trodAll_cons r3
  obtain ⟨v5, vs5, d5, ds5, p5, q5, rfl, rfl, rfl, h5, r5⟩ := trodAll_cons r4
  obtain ⟨v6, vs6, d6, ds6, p6, q6, rfl, rfl, rfl, h6, r6⟩ := trodAll_cons r5
  obtain ⟨v7, vs7, d7, ds7, p7, q7, rfl, rfl, rfl, h7, r7⟩ := trodAll_cons r6
  obtain ⟨rfl, rfl, rfl⟩ := trodAll_nil r7
  obtain rfl : args = #[v0, v1, v2, v3, v4, v5, v6, v7] := by cases args; simp_all
  obtain ⟨rfl, rfl⟩ := trodVars_none hV
  obtain ⟨z0, rfl, rfl, rfl, w0⟩ := open_int Yba.underlying5 (hval 0 5 v0 rfl rfl) h0
  obtain ⟨z1, rfl, rfl, rfl, w1⟩ := open_int Yba.underlying5 (hval 1 5 v1 rfl rfl) h1
  obtain ⟨z2, rfl, rfl, rfl, w2⟩ := open_int Yba.underlying5 (hval 2 5 v2 rfl rfl) h2
  obtain ⟨z3, rfl, rfl, rfl, w3⟩ := open_int Yba.underlying5 (hval 3 5 v3 rfl rfl) h3
  obtain ⟨z4, rfl, rfl, rfl, w4⟩ := open_int Yba.underlying5 (hval 4 5 v4 rfl rfl) h4
  obtain ⟨z7, rfl, rfl, rfl, w7⟩ := open_int Yba.underlying27 (hval 7 27 v7 rfl rfl) h7
  obtain ⟨a6, len6, cap6, rfl⟩ := okWide_slice Yba.underlying75 (hval 6 75 v6 rfl rfl)
  obtain ⟨c5, rfl⟩ : ∃ cs, v5 = .agg cs := by
    have := hval 5 64 v5 rfl rfl
    simp only [Value.okWide, Yba.underlying64] at this
    obtain ⟨cs, h, _⟩ := this
    exact ⟨cs, h⟩
  have k5 := h5
  have lt5 : ∀ x ∈ p5, x.block < W.heap.size := by obtain ⟨m, hm⟩ := k5; exact DataW.trod_lt m _ _ _ hm
  have k6 := h6
  have lt6 : ∀ x ∈ p6, x.block < W.heap.size := by obtain ⟨m, hm⟩ := k6; exact DataW.trod_lt m _ _ _ hm
  obtain ⟨raw, hr, rfl⟩ : ∃ raw : List UInt8, raw.length = 20 ∧ c5 = (idC raw).toArray := by
    obtain ⟨m, hm⟩ := h5
    obtain ⟨raw, hr, e⟩ := open_raw (cs := c5.toList) hm
    exact ⟨raw, hr, by rw [← e]⟩
  obtain ⟨hm6, hnil6, ns, rfl, hns⟩ : len6 ≤ maxLen ∧ (a6 = none → len6 = 0 ∧ cap6 = 0) ∧ ∃ ns : List Int, ns.length = len6 ∧ NumsAt W a6 ns := by
    obtain ⟨m, hm⟩ := h6
    exact open_nums hm
  clear hA0 hval0
  have nat8 : ∀ {z : Int}, (Lit.int .u8 z).wf = true → ∃ n : Nat, z = n ∧ n ≤ 255 := fun {z} h => ⟨z.toNat, by have := (bounds_u8 h).1; omega, by have := (bounds_u8 h).2; omega⟩
  have walk : Calls Yba.prog 5 #[.int .u8 z0, .int .u8 z1, .int .u8 z2, .int .u8 z3, .int .u8 z4, .agg (idC raw).toArray, .slice a6 ns.length cap6, .int .u64 z7] W fun e w' => e = .returned (.bool true) ∧ Below W.heap.size W w' := by
    obtain ⟨s0, rfl, b0⟩ := nat8 w0
    obtain ⟨s1, rfl, b1⟩ := nat8 w1
    obtain ⟨s2, rfl, b2⟩ := nat8 w2
    obtain ⟨s3, rfl, b3⟩ := nat8 w3
    obtain ⟨s4, rfl, b4⟩ := nat8 w4
    by_cases hl : 1024 < ns.length
    · exact main_long s0 s1 s2 s3 s4 raw a6 ns.length cap6 z7 W hl hm6
    · exact main_model s0 s1 s2 s3 s4 b0 b1 b2 b3 b4 raw hr a6 ns cap6 (by omega) z7 W hns (fun h => ⟨List.eq_nil_of_length_eq_zero (hnil6 h).1, (hnil6 h).2⟩)
  refine walk.mono fun e W' ⟨he, bel⟩ => ?_
  subst he
  exact ⟨_, rfl, _, _, _, [], _, [], hW', trodAll_mk1 (shut_bool Yba.underlying4 _), (trodAll_cons_mk (shut_int Yba.underlying5 w0) (trodAll_cons_mk (shut_int Yba.underlying5 w1) (trodAll_cons_mk (shut_int Yba.underlying5 w2) (trodAll_cons_mk (shut_int Yba.underlying5 w3) (trodAll_cons_mk (shut_int Yba.underlying5 w4) (trodAll_cons_mk (Below.trod laidOut (by kernel_rfl) (of_decide_eq_true (by kernel_rfl)) k5 bel lt5) (trodAll_cons_mk (Below.trod laidOut (by kernel_rfl) (of_decide_eq_true (by kernel_rfl)) k6 bel lt6) (trodAll_cons_mk (shut_int Yba.underlying27 w7) trodAll_mk0)))))))), rfl, bel.frame _, fun h => by cases h⟩

theorem over : Rows.lawS5326CModelRow.holds Yba.pinned (OpenSpec.ofChange Rows.lawS5326CModelSpec) :=
  OpenClaim.holds_of_wide 5 Yba.f5 rfl rfl rfl rfl rfl rfl rfl ⟨rfl, rfl, rfl, rfl, rfl⟩ rfl rfl rfl rfl rfl (by kernel_rfl) Yba.func5 (by kernel_rfl)
    (of_decide_eq_true (by kernel_rfl)) (by unfold Func.isWrapper; first | (rw [if_pos (by decide +kernel)]; kernel_rfl) | (rw [if_neg (by decide +kernel)]; exact ⟨rfl, rfl⟩))
    (fun os started H enc _ => lifted os started H enc)

/-- THE STATEMENT -/
theorem proved : Rows.LawS5326CModelSaid := over
#print axioms proved
end Go.Proofs.Ybulkdfgw.lawS5326CModel
