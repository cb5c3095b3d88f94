import Derived.Test.YbulkdfdcApp
import Derived.DeepKeys4
import Derived.Maps.Views
import Derived.Maps.OwnSet
import Derived.WideKeyEntry
namespace Go.Proofs.Ybulkdfdc
open Go.ChangeShapes Go.WideShapes Go.ChangeAt Go.RowKit Go.Maps Go.WideMaps Go.WideElems
set_option linter.unusedVariables false
set_option linter.unusedSimpArgs false

theorem laidOut0 : laidOutB Yba.prog = true := by kernel_rfl
theorem row26 : (26 : TypeId) < Yba.prog.types.size := of_decide_eq_true (by kernel_rfl)
theorem wide26 : (match Yba.prog.underlying 26 with | some (.array _ _) | some (.struct _) => true | _ => false) = true := by rw [Yba.underlying26]
set_option maxRecDepth 100000 in
theorem law26 : KeyLaw Yba.prog 26 := deep_law_laid laidOut0 (m := 2) (by omega) row26 (by kernel_rfl) wide26

/-- ID{c}. -/
def idCells (c : Nat) : List Value := .int .u8 c :: List.replicate 19 (.int .u8 0)
def idV (c : Nat) : Value := .agg (idCells c).toArray
def keyL (c : Nat) : Lit := .string (UInt8.ofNat c :: List.replicate 19 0)
theorem k0 : keyOf Yba.prog 26 (idV 0) = some (keyL 0) := by kernel_rfl
theorem k1 : keyOf Yba.prog 26 (idV 1) = some (keyL 1) := by kernel_rfl
theorem k2 : keyOf Yba.prog 26 (idV 2) = some (keyL 2) := by kernel_rfl
theorem k3 : keyOf Yba.prog 26 (idV 3) = some (keyL 3) := by kernel_rfl
theorem k4 : keyOf Yba.prog 26 (idV 4) = some (keyL 4) := by kernel_rfl
theorem k5 : keyOf Yba.prog 26 (idV 5) = some (keyL 5) := by kernel_rfl
theorem k6 : keyOf Yba.prog 26 (idV 6) = some (keyL 6) := by kernel_rfl
theorem k7 : keyOf Yba.prog 26 (idV 7) = some (keyL 7) := by kernel_rfl
theorem keyOf_id (c : Nat) (h : c < 8) : keyOf Yba.prog 26 (idV c) = some (keyL c) := by
  have h8 : c = 0 ∨ c = 1 ∨ c = 2 ∨ c = 3 ∨ c = 4 ∨ c = 5 ∨ c = 6 ∨ c = 7 := by omega
  rcases h8 with rfl | rfl | rfl | rfl | rfl | rfl | rfl | rfl
  · exact k0
  · exact k1
  · exact k2
  · exact k3
  · exact k4
  · exact k5
  · exact k6
  · exact k7
theorem keyL_inj {c d : Nat} (hc : c < 8) (hd : d < 8) (h : keyL c = keyL d) : c = d := by
  simp only [keyL, Lit.string.injEq, List.cons.injEq] at h
  have := congrArg UInt8.toNat h.1
  simp at this
  omega

/-- HOW AN ELEMENT READS: the slice value itself, told by three numbers. -/
def codeS (v : Value) : DataW Unit :=
  match v with
  | .slice (some ⟨g, o, none⟩) n cap => .agg [.lit (.int .i64 g), .lit (.int .i64 o), .lit (.int .i64 n), .lit (.int .i64 cap)]
  | _ => .nil
def elemS (v : Value) : Option (DataW Unit × List MemPlace) :=
  match v with
  | .slice none 0 0 => some (.nil, [])
  | .slice (some ⟨_, _, none⟩) _ _ => some (codeS v, [])
  | _ => none
theorem elemS_inv {v v' : Value} {ps ps' : List MemPlace} {d : DataW Unit} (h : elemS v = some (d, ps)) (h' : elemS v' = some (d, ps')) : v = v' := by
  unfold elemS at h h'
  split at h
  · simp only [Option.some.injEq, Prod.mk.injEq] at h
    obtain ⟨rfl, _⟩ := h
    split at h'
    · rfl
    · simp [codeS] at h'
    · cases h'
  · simp only [Option.some.injEq, Prod.mk.injEq] at h
    obtain ⟨rfl, _⟩ := h
    split at h'
    · simp [codeS] at h'
    · simp [codeS] at h'
      obtain ⟨⟨h1, h2, h3, h4⟩, _⟩ := h'
      rw [Int.ofNat.inj h1, Int.ofNat.inj h2, Int.ofNat.inj h3, Int.ofNat.inj h4]
    · cases h'
  · cases h

/-- THE MAP: at ID{c} stands V c (nil where there is none). -/
def MapS (w : World) (g N : Nat) (V : Nat → Value) : Prop :=
  ∃ D, w.ownsMap Yba.prog 26 elemS g N D ∧ ∀ c, c < 8 → ∃ ps, elemS (V c) = some (D.atKey (keyL c) .nil, ps)

theorem elemS_nil : elemS (.slice none 0 0) = some (.nil, []) := rfl
theorem zero35 (w : World) : (zeroValue 35).run Yba.prog w = .ok (.slice none 0 0) w := by kernel_rfl

theorem mapS_made (w : World) (N : Nat) : MapS (w.alloc (.map #[] 0)) w.heap.size N (fun _ => .slice none 0 0) :=
  ⟨.map [], (World.ownsMap_made (H := Unit) w Yba.prog 26 elemS).mono (Nat.zero_le _), fun c _ => ⟨[], rfl⟩⟩

theorem MapS.kept {w w' : World} {g N : Nat} {V : Nat → Value} {row : Option Nat} (h : MapS w g N V) (hg : w.grownBy w' row) (hne : some g ≠ row) : MapS w' g N V := by
  obtain ⟨D, ho, hf⟩ := h; exact ⟨D, World.ownsMap.kept ho hg hne, hf⟩
theorem MapS.lt {w : World} {g N : Nat} {V : Nat → Value} (h : MapS w g N V) : g < w.heap.size := by
  obtain ⟨D, ho, hf⟩ := h; exact World.ownsMap.lt ho
theorem MapS.alloc {w : World} {g N : Nat} {V : Nat → Value} (h : MapS w g N V) (o : Obj) : MapS (w.alloc o) g N V := by
  obtain ⟨D, ho, hf⟩ := h; exact ⟨D, World.ownsMap.alloc ho o, hf⟩
theorem MapS.mono {w : World} {g N M : Nat} {V : Nat → Value} (h : MapS w g N V) (hn : N ≤ M) : MapS w g M V := by
  obtain ⟨D, ho, hf⟩ := h; exact ⟨D, World.ownsMap.mono ho hn, hf⟩

/-- m[ID{c}]. -/
theorem MapS.look {w : World} {g N : Nat} {V : Nat → Value} (h : MapS w g N V) {c : Nat} (hc : c < 8) : (Instr.lookup 47 (.map (some g)) (idV c) false).run Yba.prog w = .ok (V c) w := by
  obtain ⟨D, ho, hf⟩ := h
  obtain ⟨v, ps, hrun, hR⟩ := World.ownsMap.lookup ho (Keyed.of_law law26) Yba.underlying47 (zero35 _) elemS_nil (keyOf_id c hc)
  obtain ⟨ps', hV⟩ := hf c hc
  rw [hrun, elemS_inv hR hV]

theorem key_unique : ∀ (l : List MapEntry), l.Pairwise (fun x y => x.key ≠ y.key) → ∀ a ∈ l, ∀ b ∈ l, a.key = b.key → a = b
  | [], _, a, ha, _, _, _ => by cases ha
  | x :: l, hp, a, ha, b, hb, e => by
    obtain ⟨h1, h2⟩ := List.pairwise_cons.1 hp
    rcases List.mem_cons.1 ha with ha' | ha'
    · rcases List.mem_cons.1 hb with hb' | hb'
      · rw [ha', hb']
      · rw [ha'] at e; exact absurd e (h1 b hb')
    · rcases List.mem_cons.1 hb with hb' | hb'
      · rw [hb'] at e; exact absurd e.symm (h1 a ha')
      · exact key_unique l h2 a ha' b hb' e

def updV (V : Nat → Value) (c : Nat) (v : Value) : Nat → Value := fun d => if d = c then v else V d

theorem keyLit (c : Nat) : WideAt.IsKeyLit (keyL c) := trivial

/-- 'm[ID{c}] = f(m[ID{c}])': the entry, and the store into it. -/
theorem MapS.entry {w : World} {g N : Nat} {V : Nat → Value} (h : MapS w g N V) (hN : N < maxLen) {c : Nat} (hc : c < 8) :
    ∃ (st : Nat) (w1 : World), (Instr.mapEntry 47 (.map (some g)) (idV c)).run Yba.prog w = .ok (.tuple #[V c, goInt st]) w1 ∧ w.grownBy w1 (some g) ∧ w1.heap.size = w.heap.size ∧
      ∀ (w2 : World) (row : Option Nat) (val : Value) (d : DataW Unit), w1.grownBy w2 row → some g ≠ row → elemS val = some (d, []) →
        ∃ w3, (Instr.entryStore 47 (.map (some g)) (goInt st) val).run Yba.prog w2 = .ok () w3 ∧ w2.grownBy w3 (some g) ∧ w3.heap.size = w2.heap.size ∧ MapS w3 g (N + 1) (updV V c val) := by
  have hlk := h.look hc
  obtain ⟨D, ho, hf⟩ := h
  have ho' := ho
  obtain ⟨es, clock, hb, F, hs, hD⟩ := ho
  obtain ⟨v0, st, es1, clock1, hrun, hv0, hst⟩ := entry_then_store law26 Yba.underlying47 zero35 hb F (keyOf_id c hc)
  have hv : v0 = V c := by
    have hp : es.toList.Pairwise (fun x y => x.key ≠ y.key) := ((MapKept.stamped_iff es clock).1 F.stamped).2.2
    rcases Maps.fit_look false (Keyed.of_law law26) Yba.underlying47 (zero35 w) hb F (keyOf_id c hc) with ⟨hr, hno, _⟩ | ⟨e0, y, hm, hk, hr, _⟩
    · rw [hlk] at hr
      simp only [Bool.false_eq_true, if_false, Result.ok.injEq, and_true] at hr
      rcases hv0 with ⟨e1, he1, hk1, _⟩ | ⟨_, rfl⟩
      · exact absurd hk1 (hno e1 he1)
      · exact hr.symm
    · rw [hlk] at hr
      simp only [Bool.false_eq_true, if_false, Result.ok.injEq, and_true] at hr
      rcases hv0 with ⟨e1, he1, hk1, rfl⟩ | ⟨hno, _⟩
      · rw [hr, key_unique _ hp e1 he1 e0 hm (by rw [hk1, hk])]
      · exact absurd hk (hno e0 hm)
  subst hv
  refine ⟨st, _, hrun, ⟨rfl, rfl, rfl, by simp [ChangeMaps.setBlock], fun i _ hi => ChangeMaps.heap_setBlock_other hb _ (fun e => hi (by rw [e]))⟩, by simp [ChangeMaps.setBlock], ?_⟩
  intro w2 row val d hg2 hne hval
  have hb1 : (ChangeMaps.setBlock w g (.map es1 clock1)).heap[g]? = some (.map es1 clock1) := ChangeMaps.heap_setBlock_same hb _
  have hb2 : w2.heap[g]? = some (.map es1 clock1) := by rw [hg2.block g (Array.getElem?_eq_some_iff.1 hb1).1 hne]; exact hb1
  obtain ⟨es', clock', hr3, hr4⟩ := hst w2 val hb2
  obtain ⟨w', hr5, ho5, _⟩ := World.ownsMap.update ho' (Keyed.of_law law26) Yba.underlying47 hN (keyOf_id c hc) hval
  rw [hr4] at hr5
  simp only [Result.ok.injEq, true_and] at hr5
  subst hr5
  obtain ⟨es2, clock2, hb5, F5, hs5, hD5⟩ := ho5
  rw [ChangeMaps.heap_setBlock_same hb] at hb5
  simp only [Option.some.injEq, Obj.map.injEq] at hb5
  obtain ⟨rfl, rfl⟩ := hb5
  refine ⟨_, hr3, ⟨rfl, rfl, rfl, by simp [ChangeMaps.setBlock], fun i _ hi => ChangeMaps.heap_setBlock_other hb2 _ (fun e => hi (by rw [e]))⟩, by simp [ChangeMaps.setBlock], D.put (keyL c) d, ⟨es', clock', ChangeMaps.heap_setBlock_same hb2 _, F5, hs5, hD5⟩, fun c' hc' => ?_⟩
  unfold updV
  by_cases e : c' = c
  · subst e
    rw [if_pos rfl, atKey_put_same (World.ownsMap.isMap ho') (keyLit _)]
    exact ⟨[], hval⟩
  · rw [if_neg e, atKey_put_other (fun e1 => e (keyL_inj hc' hc e1))]
    exact hf c' hc'
end Go.Proofs.Ybulkdfdc
