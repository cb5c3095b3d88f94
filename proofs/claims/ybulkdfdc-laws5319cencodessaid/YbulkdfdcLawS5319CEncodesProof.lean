import Derived.Test.YbulkdfdcMain
import Derived.Test.YbulkdfdcNil
import Derived.Test.YbulkdfdcOpen2
namespace Go.Proofs.Ybulkdfdc.lawS5319CEncodes
open Go.ChangeShapes Go.WideShapes Go.ChangeAt Go.RowKit Go.Deep
set_option linter.unusedVariables false
set_option linter.unusedSimpArgs false

theorem own : ownKnob Yba.prog.godebug = none := by kernel_rfl
theorem laidOut : laidOutB Yba.prog = true := by kernel_rfl

theorem walk_all (a0 : Option Addr) (zs : List Int) (cap0 : Nat) (room : Int) (a2 : Option Addr) (ps : List Pt) (cap2 : Nat) (W : World) (hl0 : zs.length ≤ maxLen) (hl2 : ps.length ≤ maxLen) (hz : PreAt W.heap.size W a0 zs) (ho : ∀ p ∈ ps, p.Ok0) (hnil : a2 = none → ps = [] ∧ cap2 = 0) (hR : RowsAt (PtRow W.heap.size) W.heap.size W a2 29 ps) :
    Calls Yba.prog 5 #[.slice a0 zs.length cap0, .int .i64 room, .slice a2 ps.length cap2] W fun e w' => e = .returned (.bool true) ∧ Below W.heap.size W w' := by
  by_cases hl : 1024 < zs.length ∨ 1024 < ps.length
  · exact main_long a0 zs.length cap0 room a2 ps.length cap2 W hl hl0 hl2
  · rcases a2 with _ | ad
    · obtain ⟨rfl, rfl⟩ := hnil rfl
      exact main_nil a0 zs.length cap0 zs room 0 W (by omega) rfl hz
    · by_cases hb : ∃ (k0 : Nat) (p0 : Pt), ps[k0]? = some p0 ∧ (1024 < p0.sp.length ∨ 1024 < p0.st.length)
      · obtain ⟨k0, p0, hk0, hbad⟩ := hb
        exact main_exit a0 zs.length cap0 room ad cap2 ps W (by omega) (by omega) (fun p hp => (ho p hp).th) hR k0 p0 hk0 hbad
      · refine main_walk a0 zs.length cap0 zs room ad cap2 ps W (by omega) rfl hz (by omega) (fun p hp => ?_) hR
        obtain ⟨i, hi⟩ := List.getElem?_of_mem hp
        have h1 : ¬ (1024 < p.sp.length ∨ 1024 < p.st.length) := fun h => hb ⟨i, p, hi, h⟩
        exact (ho p hp).ok (by omega) (by omega)

set_option maxRecDepth 100000 in
theorem lifted (os : Os) (started : os.Started) (H : Type) (enc : TypeId × Value → H) :
    ReturnsInHanded {} Yba.checked os 5 .any (Rows.lawS5319CEncodesSpec.pre6 enc Yba.prog Yba.f5 Rows.lawS5319CEncodesRow.domain false) (Rows.lawS5319CEncodesSpec.post enc Yba.prog Yba.f5 false true false false) := by
  refine returnsInHanded_of_change (C := Yba.checked) own started (by kernel_rfl) Yba.func5
    (ChangeSpec.witness6 (enc := enc) (C := Yba.checked) false ⟨#[], #[.slice none 0 0, .int .i64 0, .slice none 0 0], []⟩ 8 (by kernel_rfl) (by kernel_rfl) (by kernel_rfl) (by kernel_rfl)) ?_
  intro W base args ds gs before hval0 hW hcnd _
  have hval : ∀ (j : Nat) t v, Yba.f5.params[j]? = some t → args[j]? = some v → Value.okWide Yba.prog W .any base t v := hval0
  have hW' := hW
  obtain ⟨p, q, hA0, hV, rfl, hfz, hnd⟩ := hW
  have hA : DataW.TrodAll enc Yba.prog W 0 (fun _ => true) true Yba.f5.params.toList args.toList ds p := hA0
  rw [Yba.params5] at hA hval
  obtain ⟨v0, vs0, d0, ds0, p0, q0, hargs, rfl, rfl, h0, r0⟩ := trodAll_cons hA
  obtain ⟨v1, vs1, d1, ds1, p1, q1, rfl, rfl, rfl, h1, r1⟩ := trodAll_cons r0
  obtain ⟨v2, vs2, d2, ds2, p2, q2, rfl, rfl, rfl, h2, r2⟩ := trodAll_cons r1
  obtain ⟨rfl, rfl, rfl⟩ := trodAll_nil r2
  obtain rfl : args = #[v0, v1, v2] := by cases args; simp_all
  obtain ⟨rfl, rfl⟩ := trodVars_none hV
  obtain ⟨a0, len0, cap0, rfl⟩ := okWide_slice Yba.underlying23 (hval 0 23 v0 rfl rfl)
  obtain ⟨a2, len2, cap2, rfl⟩ := okWide_slice Yba.underlying100 (hval 2 100 v2 rfl rfl)
  have k0 := h0
  have lt0 : ∀ x ∈ p0, x.block < W.heap.size := by obtain ⟨m, hm⟩ := k0; exact DataW.trod_lt m _ _ _ hm
  have k2 := h2
  have lt2 : ∀ x ∈ p2, x.block < W.heap.size := by obtain ⟨m, hm⟩ := k2; exact DataW.trod_lt m _ _ _ hm
  obtain ⟨room, rfl, rfl, rfl, w1⟩ := open_int Yba.underlying2 (hval 1 2 v1 rfl rfl) h1
  obtain ⟨zs, rfl, hl0, hz⟩ : ∃ zs : List Int, len0 = zs.length ∧ zs.length ≤ maxLen ∧ PreAt W.heap.size W a0 zs := by
    obtain ⟨fuel, hf⟩ := h0
    obtain ⟨a, zs, cap, e, hl, hp⟩ := open_pre (c := .slice a0 len0 cap0) hf
    simp only [Value.slice.injEq] at e
    obtain ⟨rfl, rfl, rfl⟩ := e
    exact ⟨zs, rfl, hl, hp⟩
  obtain ⟨ps, rfl, hl2, ho, hnil, hR⟩ : ∃ ps : List Pt, len2 = ps.length ∧ ps.length ≤ maxLen ∧ (∀ p ∈ ps, p.Ok0) ∧ (a2 = none → ps = [] ∧ cap2 = 0) ∧ RowsAt (PtRow W.heap.size) W.heap.size W a2 29 ps := by
    obtain ⟨fuel, hf⟩ := h2
    obtain ⟨a, ps, cap, e, hl, ho, hn, hr⟩ := open_pts (c := .slice a2 len2 cap2) hf
    simp only [Value.slice.injEq] at e
    obtain ⟨rfl, rfl, rfl⟩ := e
    exact ⟨ps, rfl, hl, ho, hn, hr⟩
  clear hA0 hval0
  refine (walk_all a0 zs cap0 room a2 ps cap2 W hl0 hl2 hz ho hnil hR).mono fun e W' ⟨he, bel⟩ => ?_
  subst he
  exact ⟨_, rfl, _, _, _, [], _, [], hW', trodAll_mk1 (shut_bool Yba.underlying4 _), (trodAll_cons_mk (Below.trod laidOut (by kernel_rfl) (of_decide_eq_true (by kernel_rfl)) k0 bel lt0) (trodAll_cons_mk (shut_int Yba.underlying2 w1) (trodAll_cons_mk (Below.trod laidOut (by kernel_rfl) (of_decide_eq_true (by kernel_rfl)) k2 bel lt2) trodAll_mk0))), rfl, bel.frame _, fun h => by cases h⟩

theorem over : Rows.lawS5319CEncodesRow.holds Yba.pinned (OpenSpec.ofChange Rows.lawS5319CEncodesSpec) :=
  OpenClaim.holds_of_wide 5 Yba.f5 rfl rfl rfl rfl rfl rfl rfl ⟨rfl, rfl, rfl, rfl, rfl⟩ rfl rfl rfl rfl rfl (by kernel_rfl) Yba.func5 (by kernel_rfl)
    (of_decide_eq_true (by kernel_rfl)) (by unfold Func.isWrapper; first | (rw [if_pos (by decide +kernel)]; kernel_rfl) | (rw [if_neg (by decide +kernel)]; exact ⟨rfl, rfl⟩))
    (fun os started H enc _ => lifted os started H enc)

/-- THE STATEMENT -/
theorem proved : Rows.LawS5319CEncodesSaid := over
#print axioms proved
end Go.Proofs.Ybulkdfdc.lawS5319CEncodes
