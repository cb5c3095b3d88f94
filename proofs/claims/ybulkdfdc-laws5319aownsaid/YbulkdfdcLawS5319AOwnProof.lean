import Derived.Test.YbulkdfdcOwn
import Derived.Test.YbulkdfdcOwnOpen
namespace Go.Proofs.Ybulkdfdc.lawS5319AOwn
open Go.ChangeShapes Go.WideShapes Go.ChangeAt Go.RowKit Go.Deep
set_option linter.unusedVariables false
set_option linter.unusedSimpArgs false

theorem own : ownKnob Yba.prog.godebug = none := by kernel_rfl
theorem laidOut : laidOutB Yba.prog = true := by kernel_rfl

theorem walk_all (a0 : Option Addr) (zs : List Nat) (cap0 : Nat) (a1 : Option Addr) (hs : List Hd) (cap1 : Nat) (W : World) (hl0 : zs.length ≤ maxLen) (hl1 : hs.length ≤ maxLen) (hzb : ∀ z ∈ zs, z ≤ 255)
    (hI : ∀ i z, zs[i]? = some z → ∃ b o, a0 = some ⟨b, o, none⟩ ∧ b < W.heap.size ∧ W.cell? ⟨b, o + i, none⟩ = some (.int .u8 (z : Nat)))
    (hH : ∀ i h, hs[i]? = some h → h.Ok W ∧ ∃ b o, a1 = some ⟨b, o, none⟩ ∧ b < W.heap.size ∧ W.rangeAt b (o + i * 4) h.cells) :
    Calls Yba.prog 4 #[.slice a0 zs.length cap0, .slice a1 hs.length cap1] W fun e w' => e = .returned (.bool true) ∧ Below W.heap.size W w' := by
  by_cases hl : 1024 < zs.length ∨ 1024 < hs.length
  · exact main_long4 a0 zs.length cap0 a1 hs.length cap1 W hl hl0 hl1
  · exact main_own a0 zs.length cap0 zs hzb rfl (by omega) a1 hs.length cap1 hs rfl (by omega) W hI hH

set_option maxRecDepth 100000 in
theorem lifted (os : Os) (started : os.Started) (H : Type) (enc : TypeId × Value → H) :
    ReturnsInHanded {} Yba.checked os 4 .any (Rows.lawS5319AOwnSpec.pre6 enc Yba.prog Yba.f4 Rows.lawS5319AOwnRow.domain false) (Rows.lawS5319AOwnSpec.post enc Yba.prog Yba.f4 false true false false) := by
  refine returnsInHanded_of_change (C := Yba.checked) own started (by kernel_rfl) Yba.func4
    (ChangeSpec.witness6 (enc := enc) (C := Yba.checked) false ⟨#[], #[.slice none 0 0, .slice none 0 0], []⟩ 8 (by kernel_rfl) (by kernel_rfl) (by kernel_rfl) (by kernel_rfl)) ?_
  intro W base args ds gs before hval0 hW hcnd _
  have hval : ∀ (j : Nat) t v, Yba.f4.params[j]? = some t → args[j]? = some v → Value.okWide Yba.prog W .any base t v := hval0
  have hW' := hW
  obtain ⟨p, q, hA0, hV, rfl, hfz, hnd⟩ := hW
  have hA : DataW.TrodAll enc Yba.prog W 0 (fun _ => true) true Yba.f4.params.toList args.toList ds p := hA0
  rw [Yba.params4] at hA hval
  obtain ⟨v0, vs0, d0, ds0, p0, q0, hargs, rfl, rfl, h0, r0⟩ := trodAll_cons hA
  obtain ⟨v1, vs1, d1, ds1, p1, q1, rfl, rfl, rfl, h1, r1⟩ := trodAll_cons r0
  obtain ⟨rfl, rfl, rfl⟩ := trodAll_nil r1
  obtain rfl : args = #[v0, v1] := by cases args; simp_all
  obtain ⟨rfl, rfl⟩ := trodVars_none hV
  obtain ⟨a0, len0, cap0, rfl⟩ := okWide_slice Yba.underlying23 (hval 0 23 v0 rfl rfl)
  obtain ⟨a1, len1, cap1, rfl⟩ := okWide_slice Yba.underlying94 (hval 1 94 v1 rfl rfl)
  have k0 := h0
  have lt0 : ∀ x ∈ p0, x.block < W.heap.size := by obtain ⟨m, hm⟩ := k0; exact DataW.trod_lt m _ _ _ hm
  have k1 := h1
  have lt1 : ∀ x ∈ p1, x.block < W.heap.size := by obtain ⟨m, hm⟩ := k1; exact DataW.trod_lt m _ _ _ hm
  obtain ⟨zs, rfl, hl0, hzb, hz⟩ : ∃ zs : List Nat, len0 = zs.length ∧ zs.length ≤ maxLen ∧ (∀ z ∈ zs, z ≤ 255) ∧ ∀ i z, zs[i]? = some z → ∃ b o, a0 = some ⟨b, o, none⟩ ∧ b < W.heap.size ∧ W.cell? ⟨b, o + i, none⟩ = some (.int .u8 (z : Nat)) := by
    obtain ⟨fuel, hf⟩ := h0
    obtain ⟨a, zs, cap, e, hl, hb, hp⟩ := open_ids (c := .slice a0 len0 cap0) hf
    simp only [Value.slice.injEq] at e
    obtain ⟨rfl, rfl, rfl⟩ := e
    exact ⟨zs, rfl, hl, hb, hp⟩
  obtain ⟨hs, rfl, hl1, hH⟩ : ∃ hs : List Hd, len1 = hs.length ∧ hs.length ≤ maxLen ∧ ∀ i d, hs[i]? = some d → d.Ok W ∧ ∃ b o, a1 = some ⟨b, o, none⟩ ∧ b < W.heap.size ∧ W.rangeAt b (o + i * 4) d.cells := by
    obtain ⟨fuel, hf⟩ := h1
    obtain ⟨a, hs, cap, e, hl, hr⟩ := open_hds (c := .slice a1 len1 cap1) hf
    simp only [Value.slice.injEq] at e
    obtain ⟨rfl, rfl, rfl⟩ := e
    exact ⟨hs, rfl, hl, hr⟩
  clear hA0 hval0
  refine (walk_all a0 zs cap0 a1 hs cap1 W hl0 hl1 hzb hz hH).mono fun e W' ⟨he, bel⟩ => ?_
  subst he
  exact ⟨_, rfl, _, _, _, [], _, [], hW', trodAll_mk1 (shut_bool Yba.underlying4 _), (trodAll_cons_mk (Below.trod laidOut (by kernel_rfl) (of_decide_eq_true (by kernel_rfl)) k0 bel lt0) (trodAll_cons_mk (Below.trod laidOut (by kernel_rfl) (of_decide_eq_true (by kernel_rfl)) k1 bel lt1) trodAll_mk0)), rfl, bel.frame _, fun h => by cases h⟩

theorem over : Rows.lawS5319AOwnRow.holds Yba.pinned (OpenSpec.ofChange Rows.lawS5319AOwnSpec) :=
  OpenClaim.holds_of_wide 4 Yba.f4 rfl rfl rfl rfl rfl rfl rfl ⟨rfl, rfl, rfl, rfl, rfl⟩ rfl rfl rfl rfl rfl (by kernel_rfl) Yba.func4 (by kernel_rfl)
    (of_decide_eq_true (by kernel_rfl)) (by unfold Func.isWrapper; first | (rw [if_pos (by decide +kernel)]; kernel_rfl) | (rw [if_neg (by decide +kernel)]; exact ⟨rfl, rfl⟩))
    (fun os started H enc _ => lifted os started H enc)

/-- THE STATEMENT -/
theorem proved : Rows.LawS5319AOwnSaid := over
#print axioms proved
end Go.Proofs.Ybulkdfdc.lawS5319AOwn
