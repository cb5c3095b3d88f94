/- 'Rows.LawS5315AReaderSaid' proved: the frame by the guide's proof-skeleton tool; the walks lie in YbulkdfayWalks, Reader, Copy, Main, Main2. -/
import Derived.Test.YbulkdfayRows
import Derived.WalkKit
import Derived.ProofKit
import Derived.OpenShut
import Derived.ShutString
import Derived.ChangeOld
import Derived.Below
import Derived.Test.YbulkdfayMain2
namespace Go.Proofs.Ybulkdfay.lawS5315AReader
open Go.ChangeShapes Go.WideShapes Go.ChangeAt Go.RowKit
open Go.ChangeMaps (open_string shut_string)
set_option linter.unusedVariables false

theorem own : ownKnob Yba.prog.godebug = none := by kernel_rfl
theorem laidOut : laidOutB Yba.prog = true := by kernel_rfl

/-- WHAT THE WALK IS TOLD OF A SLICE OF INTEGERS THAT CAME IN: it is nil; or it leads to a row of 'cap' cells, the numbers 'zs' (the first 'len' are its elements, the rest its spare room), each fitting its kind. -/
def IsRow (k : IntKind) (w : World) (a : Option Addr) (len cap : Nat) (zs : List Int) : Prop :=
  (a = none ∧ len = 0 ∧ cap = 0 ∧ zs = []) ∨
  ∃ x, a = some x ∧ len ≤ cap ∧ cap ≤ maxLen ∧ zs.length = cap ∧ (∀ i, i < zs.length → w.cell? (x.add i) = some (.int k (zs.getD i 0))) ∧ ∀ n ∈ zs, (Lit.int k n).wf = true

/-! ### STEP 1: THE WALK: the Go text returns true, AND WRITES NOTHING THAT WAS THERE: 'Below w.heap.size w w'' (Derived/Below.lean: '.refl', '.alloc', '.drew', '.setCell' at a new block, '.trans'). Open each 'IsRow' by 'rcases' AHEAD of 'go_enter'; part every test ahead of the walk. -/
theorem walk (a0 : Option Addr) (len0 cap0 : Nat) (z0 : List Int) (a1 : Int) (a2 : Int) (a3 : Int) (w : World) (w0 : IsRow .u8 w a0 len0 cap0 z0) (w1 : (Lit.int .u16 a1).wf = true) (w2 : (Lit.int .u16 a2).wf = true) (w3 : (Lit.int .u8 a3).wf = true) :
    Calls Yba.prog 3 #[.slice a0 len0 cap0, .int .u16 a1, .int .u16 a2, .int .u8 a3] w fun e w' => e = .returned (.bool true) ∧ Below w.heap.size w w' := by
  have b1 := bounds_u16 w1
  have b2 := bounds_u16 w2
  have b3 := bounds_u8 w3
  have hm0 : len0 ≤ maxLen := by
    rcases w0 with ⟨_, h, _⟩ | ⟨x, _, h1, h2, _⟩
    · rw [h]; exact Nat.zero_le _
    · exact Nat.le_trans h1 h2
  by_cases hl : 1024 < len0
  · exact main_long a0 len0 cap0 a1 a2 a3 w hl hm0
  have hn : len0 ≤ 1024 := by omega
  -- the cells that are copied
  obtain ⟨cs, hcs, h1c, hsrc⟩ : ∃ cs : List Value, cs.length = len0 ∧ (∀ v ∈ cs, v.oneCell' = true) ∧ (0 < len0 → ∃ ad, a0 = some ad ∧ ∀ j v, cs[j]? = some v → w.cell? (ad.add j) = some v) := by
    rcases w0 with ⟨_, h, _⟩ | ⟨x, rfl, h1, h2, h3, h4, _⟩
    · exact ⟨[], by simp [h], by simp, fun h' => by omega⟩
    · refine ⟨(z0.take len0).map (Value.int .u8), by simp; omega, ints_oneCell _ _, fun _ => ⟨x, rfl, fun j v hv => ?_⟩⟩
      have hj : j < len0 := by
        have := (List.getElem?_eq_some_iff.1 hv).1
        simp at this; omega
      have hz : j < z0.length := by omega
      rw [h4 j hz]
      simp [hj, hz] at hv
      simp [hz, hv]
  clear w0
  have later : ∀ W : World, Below w.heap.size w W → (0 < len0 → ∃ ad, a0 = some ad ∧ ∀ j v, cs[j]? = some v → W.cell? (ad.add j) = some v) := by
    intro W hb h
    obtain ⟨ad, e, hc⟩ := hsrc h
    exact ⟨ad, e, fun j v hv => cell_later hb (hc j v hv)⟩
  have hBa := (Below.refl w.heap.size w).alloc (Nat.le_refl _) (.cells (madeCells #[.int .u8 0] len0) 5)
  obtain ⟨w2', hrun, hg2, hs2, hB2⟩ := copy_made w.heap.size len0 cap0 a0 cs (w.alloc (.cells (madeCells #[.int .u8 0] len0) 5)) hcs h1c (heap_alloc_new _ _) (later _ hBa)
  have hB2' : Below w.heap.size w w2' := hBa.trans (hB2 _ (Nat.le_refl _))
  obtain ⟨lo, hlo⟩ : ∃ lo : Nat, a1 % ((len0 : Int) + 1) = lo := ⟨(a1 % ((len0 : Int) + 1)).toNat, by have := Int.emod_nonneg a1 (show ((len0 : Int) + 1) ≠ 0 by omega); omega⟩
  have hlo1 : lo ≤ len0 := by have := Int.emod_lt_of_pos a1 (show 0 < ((len0 : Int) + 1) by omega); omega
  obtain ⟨k, hk⟩ : ∃ k : Nat, a2 % ((len0 : Int) - lo + 1) = k := ⟨(a2 % ((len0 : Int) - lo + 1)).toNat, by have := Int.emod_nonneg a2 (show ((len0 : Int) - lo + 1) ≠ 0 by omega); omega⟩
  have hlk : lo + k ≤ len0 := by have := Int.emod_lt_of_pos a2 (show 0 < ((len0 : Int) - lo + 1) by omega); omega
  have h4 : a3 % 4 = 0 ∨ a3 % 4 = 1 ∨ a3 % 4 = 2 ∨ a3 % 4 = 3 := by omega
  rcases h4 with h4 | h4 | h4 | h4
  · exact main_0 a0 len0 cap0 cs lo k a1 a2 a3 w w2' hn hrun hg2 hB2' hlo hk hlk b1 b2 b3 h4
  · by_cases h0 : k = 0
    · exact main_1n a0 len0 cap0 cs lo k a1 a2 a3 w w2' hn hrun hg2 hB2' hlo hk hlk b1 b2 b3 h4 h0
    · exact main_1y a0 len0 cap0 cs lo k a1 a2 a3 w w2' hn hrun hg2 hB2' hlo hk hlk b1 b2 b3 h4 (by omega)
  · have hlt := sized_of_block hg2
    have hBt := hB2'.alloc (by omega) (.cells #[.pointer none, .bool false, .slice none 0 0] 26)
    have hBm := hBt.alloc (by simp; omega) (.cells (madeCells #[.int .u8 0] len0) 5)
    obtain ⟨w6, hrun6, hg6, hs6, hB6⟩ := copy_made (w2'.heap.size + 1) len0 cap0 a0 cs ((w2'.alloc (.cells #[.pointer none, .bool false, .slice none 0 0] 26)).alloc (.cells (madeCells #[.int .u8 0] len0) 5)) hcs h1c
      (by have h := heap_alloc_new (w2'.alloc (.cells #[.pointer none, .bool false, .slice none 0 0] 26)) (.cells (madeCells #[.int .u8 0] len0) 5); simpa using h) (later _ hBm)
    have hB6' : Below (w2'.heap.size + 1) (w2'.alloc (.cells #[.pointer none, .bool false, .slice none 0 0] 26)) w6 :=
      ((Below.refl _ _).alloc (by simp) _).trans (hB6 _ (Nat.le_refl _))
    by_cases h0 : k = 0
    · exact main_2n a0 len0 cap0 cs lo k a1 a2 a3 w w2' w6 hn hrun hg2 hB2' hrun6 hg6 hB6' hlo hk hlk b1 b2 b3 h4 h0
    · exact main_2y a0 len0 cap0 cs lo k a1 a2 a3 w w2' w6 hn hrun hg2 hB2' hrun6 hg6 hB6' hlo hk hlk b1 b2 b3 h4 (by omega)
  · by_cases h0 : k = 0
    · exact main_3n a0 len0 cap0 cs lo k a1 a2 a3 w w2' hn hrun hg2 hB2' hlo hk hlk b1 b2 b3 h4 h0
    · exact main_3y a0 len0 cap0 cs lo k a1 a2 a3 w w2' hn hrun hg2 hB2' hlo hk hlk b1 b2 b3 h4 (by omega)

/-! ### THE ROW's STEP: WRITTEN OUT: LEAVE IT -/
set_option maxRecDepth 100000 in
theorem lifted (os : Os) (started : os.Started) (H : Type) (enc : TypeId × Value → H) :
    ReturnsInHanded {} Yba.checked os 3 .any (Rows.lawS5315AReaderSpec.pre6 enc Yba.prog Yba.f3 Rows.lawS5315AReaderRow.domain false) (Rows.lawS5315AReaderSpec.post enc Yba.prog Yba.f3 false true false false) := by
  refine returnsInHanded_of_change (C := Yba.checked) own started (by kernel_rfl) Yba.func3
    (ChangeSpec.witness6 (enc := enc) (C := Yba.checked) false ⟨#[], #[.slice none 0 0, .int .u16 0, .int .u16 0, .int .u8 0], []⟩ 8 (by kernel_rfl) (by kernel_rfl) (by kernel_rfl) (by kernel_rfl)) ?_
  intro W base args ds gs before hval0 hW hcnd _
  have hval : ∀ (j : Nat) t v, Yba.f3.params[j]? = some t → args[j]? = some v → Value.okWide Yba.prog W .any base t v := hval0
  have hW' := hW
  obtain ⟨p, q, hA0, hV, rfl, hfz, hnd⟩ := hW
  have hA : DataW.TrodAll enc Yba.prog W 0 (fun _ => true) true Yba.f3.params.toList args.toList ds p := hA0
  rw [Yba.params3] at hA hval
  obtain ⟨v0, vs0, d0, ds0, p0, q0, hargs, rfl, rfl, h0, r0⟩ := trodAll_cons hA
  obtain ⟨v1, vs1, d1, ds1, p1, q1, rfl, rfl, rfl, h1, r1⟩ := trodAll_cons r0
  obtain ⟨v2, vs2, d2, ds2, p2, q2, rfl, rfl, rfl, h2, r2⟩ := trodAll_cons r1
  obtain ⟨v3, vs3, d3, ds3, p3, q3, rfl, rfl, rfl, h3, r3⟩ := trodAll_cons r2
  obtain ⟨rfl, rfl, rfl⟩ := trodAll_nil r3
  obtain rfl : args = #[v0, v1, v2, v3] := by cases args; simp_all
  obtain ⟨rfl, rfl⟩ := trodVars_none hV
  obtain ⟨a0, len0, cap0, rfl⟩ := okWide_slice Yba.underlying22 (hval 0 22 v0 rfl rfl)
  have k0 := h0
  have lt0 : ∀ x ∈ p0, x.block < W.heap.size := by obtain ⟨m, hm⟩ := k0; exact DataW.trod_lt m _ _ _ hm
  obtain ⟨z0, w0⟩ : ∃ zs, IsRow .u8 W a0 len0 cap0 zs := by
    obtain ⟨fuel, hf⟩ := h0
    rcases open_ints Yba.underlying22 Yba.underlying5 (by kernel_rfl) hf with ⟨hcs, _⟩ | ⟨x, l, c, zs, hcs, _, hl, hm, hz, _, hcell, hwz⟩
    · simp [Value.cells] at hcs
      obtain ⟨rfl, rfl, rfl⟩ := hcs
      exact ⟨[], .inl ⟨rfl, rfl, rfl, rfl⟩⟩
    · simp [Value.cells] at hcs
      obtain ⟨rfl, rfl, rfl⟩ := hcs
      exact ⟨zs, .inr ⟨_, rfl, hl, hm, by simpa using hz, hcell, hwz⟩⟩
  obtain ⟨a1, rfl, rfl, rfl, w1⟩ := open_int Yba.underlying23 (hval 1 23 v1 rfl rfl) h1
  obtain ⟨a2, rfl, rfl, rfl, w2⟩ := open_int Yba.underlying23 (hval 2 23 v2 rfl rfl) h2
  obtain ⟨a3, rfl, rfl, rfl, w3⟩ := open_int Yba.underlying5 (hval 3 5 v3 rfl rfl) h3
  clear hA0 hval0
  refine (walk a0 len0 cap0 z0 a1 a2 a3 W w0 w1 w2 w3).mono fun e W' ⟨he, bel⟩ => ?_
  subst he
  exact ⟨_, rfl, _, _, _, [], _, [], hW', trodAll_mk1 (shut_bool Yba.underlying4 _), (trodAll_cons_mk (Below.trod laidOut (by kernel_rfl) (of_decide_eq_true (by kernel_rfl)) k0 bel lt0) (trodAll_cons_mk (shut_int Yba.underlying23 w1) (trodAll_cons_mk (shut_int Yba.underlying23 w2) (trodAll_cons_mk (shut_int Yba.underlying5 w3) trodAll_mk0)))), rfl, bel.frame _, fun h => by cases h⟩

theorem over : Rows.lawS5315AReaderRow.holds Yba.pinned (OpenSpec.ofChange Rows.lawS5315AReaderSpec) :=
  OpenClaim.holds_of_wide 3 Yba.f3 rfl rfl rfl rfl rfl rfl rfl ⟨rfl, rfl, rfl, rfl, rfl⟩ rfl rfl rfl rfl rfl (by kernel_rfl) Yba.func3 (by kernel_rfl)
    (of_decide_eq_true (by kernel_rfl)) (by unfold Func.isWrapper; first | (rw [if_pos (by decide +kernel)]; kernel_rfl) | (rw [if_neg (by decide +kernel)]; exact ⟨rfl, rfl⟩))
    (fun os started H enc _ => lifted os started H enc)

/-- ████ THE STATEMENT ████ -/
theorem proved : Rows.LawS5315AReaderSaid := over
#print axioms proved
end Go.Proofs.Ybulkdfay.lawS5315AReader
