import Derived.Test.YbulkdfgwNotes
import Derived.OpenShut
import Derived.ShutString
import Derived.ChangeOld
import Derived.Below
import Derived.Deep.Slices
import Derived.SliceStrings
namespace Go.Proofs.Ybulkdfgw.lawS5326AWatchNotes
open Go.ChangeShapes Go.WideShapes Go.ChangeAt Go.RowKit Go.Deep
open Go.ChangeMaps (open_string shut_string)
set_option linter.unusedVariables false
set_option linter.unusedSimpArgs false

theorem own : ownKnob Yba.prog.godebug = none := by kernel_rfl
theorem laidOut : laidOutB Yba.prog = true := by kernel_rfl
theorem cells9 : Yba.prog.cellsOf 9 = 1 := by kernel_rfl
theorem cells4 : Yba.prog.cellsOf 4 = 1 := by kernel_rfl
theorem cells5 : Yba.prog.cellsOf 5 = 1 := by kernel_rfl
theorem cells71 : Yba.prog.cellsOf 71 = 2 := by kernel_rfl

set_option maxRecDepth 100000 in
theorem lifted (os : Os) (started : os.Started) (H : Type) (enc : TypeId × Value → H) :
    ReturnsInHanded {} Yba.checked os 4 .any (Rows.lawS5326AWatchNotesSpec.pre6 enc Yba.prog Yba.f4 Rows.lawS5326AWatchNotesRow.domain false) (Rows.lawS5326AWatchNotesSpec.post enc Yba.prog Yba.f4 false true false false) := by
  refine returnsInHanded_of_change (C := Yba.checked) own started (by kernel_rfl) Yba.func4
    (ChangeSpec.witness6 (enc := enc) (C := Yba.checked) false ⟨#[], #[.slice none 0 0, .slice none 0 0], []⟩ 8 (by kernel_rfl) (by kernel_rfl) (by kernel_rfl) (by kernel_rfl)) ?_
  intro W base args ds gs before hval0 hW hcnd _
  have hval : ∀ (j : Nat) t v, Yba.f4.params[j]? = some t → args[j]? = some v → Value.okWide Yba.prog W .any base t v := hval0
  have hW' := hW
  obtain ⟨p, q, hA0, hV, rfl, hfz, hnd⟩ := hW
  have hA : DataW.TrodAll enc Yba.prog W 0 (fun _ => true) true Yba.f4.params.toList args.toList ds p := hA0
  rw [Yba.params4] at hA hval
  obtain ⟨v0, vs0, d0, ds0, p0, q0, hargs, rfl, rfl, h0, r0⟩ := trodAll_cons hA
  obtain ⟨v1, vs1, d1, ds1, p1, q1, rfl, rfl, rfl, h1, r1⟩ := trodAll_cons r0
  obtain ⟨rfl, rfl, rfl⟩ := trodAll_nil r1
  obtain rfl : args = #[v0, v1] := by cases args; simp_all
  obtain ⟨rfl, rfl⟩ := trodVars_none hV
  obtain ⟨a0, len0, cap0, rfl⟩ := okWide_slice Yba.underlying22 (hval 0 22 v0 rfl rfl)
  obtain ⟨a1, len1, cap1, rfl⟩ := okWide_slice Yba.underlying62 (hval 1 62 v1 rfl rfl)
  have k0 := h0
  have lt0 : ∀ x ∈ p0, x.block < W.heap.size := by obtain ⟨m, hm⟩ := k0; exact DataW.trod_lt m _ _ _ hm
  have k1 := h1
  have lt1 : ∀ x ∈ p1, x.block < W.heap.size := by obtain ⟨m, hm⟩ := k1; exact DataW.trod_lt m _ _ _ hm
  obtain ⟨S, hl0, hS, hSl⟩ : ∃ S : Nat → ByteArray, len0 ≤ maxLen ∧ (0 < len0 → ∃ b o, a0 = some ⟨b, o, none⟩ ∧ ∀ i, i < len0 → W.cell? ⟨b, o + i, none⟩ = some (.string (S i))) ∧ ∀ i, i < len0 → (S i).size ≤ maxLen := by
    obtain ⟨fuel, hf⟩ := h0
    rcases open_strings Yba.underlying22 Yba.underlying9 cells9 hf with ⟨hcs, _⟩ | ⟨x, l, c, ss, hcs, _, hl, hm, hz, _, hcell, hws⟩
    · simp [Value.cells] at hcs
      obtain ⟨rfl, rfl, rfl⟩ := hcs
      exact ⟨fun _ => ByteArray.empty, Nat.zero_le _, fun h => by omega, fun i h => by omega⟩
    · simp [Value.cells] at hcs
      obtain ⟨rfl, rfl, rfl⟩ := hcs
      simp only [if_true] at hz
      refine ⟨fun i => ss.getD i ByteArray.empty, Nat.le_trans hl hm, fun h => ?_, fun i hi => ?_⟩
      · obtain ⟨b, off, spot⟩ := x
        have hspot : spot = none := by simpa [Addr.add] using World.cell?_spot (hcell 0 (by omega))
        subst hspot
        exact ⟨b, off, rfl, fun i hi => by rw [← add_plain]; exact hcell i (by omega)⟩
      · refine hws _ ?_
        have : i < ss.length := by omega
        simp [List.getD, this]
  obtain ⟨I, V, hl1, hV1⟩ : ∃ (I : Nat → Int) (V : Nat → Bool), len1 ≤ maxLen ∧ (0 < len1 → ∃ b o, a1 = some ⟨b, o, none⟩ ∧ ∀ i, i < len1 → W.cell? ⟨b, o + i * 2, none⟩ = some (.int .u8 (I i)) ∧ W.cell? ⟨b, o + i * 2 + 1, none⟩ = some (.bool (V i)) ∧ 0 ≤ I i ∧ I i ≤ 255) := by
    obtain ⟨fuel, hf⟩ := h1
    rcases open_slice Yba.underlying62 hf with ⟨hcs, _⟩ | ⟨x, l, c, m, n, D, Pl, hcs, _, hl, hm, hmm, _, hcell⟩
    · simp [Value.cells] at hcs
      obtain ⟨rfl, rfl, rfl⟩ := hcs
      exact ⟨fun _ => 0, fun _ => false, Nat.zero_le _, fun h => by omega⟩
    · simp [Value.cells] at hcs
      obtain ⟨rfl, rfl, rfl⟩ := hcs
      simp only [if_true] at hmm
      have each : ∀ i, i < len1 → ∃ (p : Int × Bool), W.cell? (x.add (i * 2)) = some (.int .u8 p.1) ∧ W.cell? (x.add (i * 2 + 1)) = some (.bool p.2) ∧ 0 ≤ p.1 ∧ p.1 ≤ 255 := by
        intro i hi
        obtain ⟨cs', h1, h2⟩ := hcell i (by omega)
        rw [cells71] at h1
        obtain ⟨_, hlen, hc⟩ := World.cells?_some h1
        obtain ⟨y0, y1, n', _, _, t0, t1⟩ := trod_struct2 Yba.underlying71 h2
        match cs', hlen with
        | [c0, c1], _ =>
          simp only [cells5, cells4, List.drop_zero, List.take_succ_cons, List.take_zero, List.drop_succ_cons] at t0 t1
          obtain ⟨z, hz, _, hw⟩ := DataW.trod_int Yba.underlying5 t0
          obtain ⟨bb, hb, _⟩ := DataW.trod_bool Yba.underlying4 t1
          simp only [List.cons.injEq, and_true] at hz hb
          subst hz; subst hb
          have e0 := hc 0 (by omega)
          have e1 := hc 1 (by omega)
          rw [add_add] at e0 e1
          exact ⟨(z, bb), by simpa using e0, by simpa using e1, (bounds_u8 hw).1, (bounds_u8 hw).2⟩
      obtain ⟨F, hF⟩ := choose_lt (α := Int × Bool) each
      refine ⟨fun i => (F i).1, fun i => (F i).2, Nat.le_trans hl hm, fun h => ?_⟩
      obtain ⟨b, off, spot⟩ := x
      have hspot : spot = none := by simpa [Addr.add] using World.cell?_spot (hF 0 (by omega)).1
      subst hspot
      refine ⟨b, off, rfl, fun i hi => ?_⟩
      obtain ⟨q0, q1, q2, q3⟩ := hF i hi
      rw [add_plain] at q0 q1
      exact ⟨q0, by rw [Nat.add_assoc]; exact q1, q2, q3⟩
  clear hA0 hval0
  have walk : Calls Yba.prog 4 #[.slice a0 len0 cap0, .slice a1 len1 cap1] W fun e w' => e = .returned (.bool true) ∧ Below W.heap.size W w' := by
    by_cases hl : 256 < len0 ∨ 1024 < len1
    · exact notes_long a0 len0 cap0 a1 len1 cap1 W hl hl0 hl1
    · exact notes_any a0 len0 cap0 S a1 len1 cap1 I V W (by omega) (by omega) hS hSl hV1
  refine walk.mono fun e W' ⟨he, bel⟩ => ?_
  subst he
  exact ⟨_, rfl, _, _, _, [], _, [], hW', trodAll_mk1 (shut_bool Yba.underlying4 _), (trodAll_cons_mk (Below.trod laidOut (by kernel_rfl) (of_decide_eq_true (by kernel_rfl)) k0 bel lt0) (trodAll_cons_mk (Below.trod laidOut (by kernel_rfl) (of_decide_eq_true (by kernel_rfl)) k1 bel lt1) trodAll_mk0)), rfl, bel.frame _, fun h => by cases h⟩

theorem over : Rows.lawS5326AWatchNotesRow.holds Yba.pinned (OpenSpec.ofChange Rows.lawS5326AWatchNotesSpec) :=
  OpenClaim.holds_of_wide 4 Yba.f4 rfl rfl rfl rfl rfl rfl rfl ⟨rfl, rfl, rfl, rfl, rfl⟩ rfl rfl rfl rfl rfl (by kernel_rfl) Yba.func4 (by kernel_rfl)
    (of_decide_eq_true (by kernel_rfl)) (by unfold Func.isWrapper; first | (rw [if_pos (by decide +kernel)]; kernel_rfl) | (rw [if_neg (by decide +kernel)]; exact ⟨rfl, rfl⟩))
    (fun os started H enc _ => lifted os started H enc)

/-- THE STATEMENT -/
theorem proved : Rows.LawS5326AWatchNotesSaid := over
#print axioms proved
end Go.Proofs.Ybulkdfgw.lawS5326AWatchNotes
