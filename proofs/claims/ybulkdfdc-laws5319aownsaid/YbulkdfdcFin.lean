import Derived.Test.YbulkdfdcRel
namespace Go.Proofs.Ybulkdfdc
open Go.ChangeShapes Go.WideShapes Go.ChangeAt Go.RowKit
set_option linter.unusedVariables false
set_option linter.unusedSimpArgs false

def zV (zs : List Int) : List Value := zs.map (Value.int .u8)
@[simp] theorem length_zV (zs : List Int) : (zV zs).length = zs.length := by simp [zV]
theorem one_zV (zs : List Int) : ∀ u ∈ zV zs, u.oneCell' = true := fun u hu => by
  obtain ⟨z, _, rfl⟩ := List.mem_map.1 hu; rfl

/-- Bytes, all of them. -/
def AllB (L : List Value) : Prop := ∀ u ∈ L, ∃ b : Int, u = .int .u8 b
theorem AllB.append {L M : List Value} (h : AllB L) (h' : AllB M) : AllB (L ++ M) := fun u hu => (List.mem_append.1 hu).elim (h u) (h' u)
theorem AllB.flatMap {α : Type} {L : List α} {f : α → List Value} (h : ∀ x ∈ L, AllB (f x)) : AllB (L.flatMap f) := fun u hu => by
  obtain ⟨x, hx, hu⟩ := List.mem_flatMap.1 hu
  exact h x hx u hu
theorem allB_be (n : Nat) (x : Int) : AllB (bytesBE n x) := by
  induction n with
  | zero => intro u h; cases h
  | succ n ih =>
    intro u h
    rcases List.mem_cons.1 h with rfl | h
    · exact ⟨_, rfl⟩
    · exact ih u h
theorem allB_flag (f : Bool) : AllB [flagV f] := fun u hu => by rw [List.mem_singleton.1 hu]; exact ⟨_, rfl⟩
theorem allB_dg (x : Dg) : AllB x.enc := ((((allB_be _ _).append (allB_be _ _)).append (allB_be _ _)).append (allB_be _ _)).append (allB_be _ _)
theorem allB_sm {x : Sm} (h : x.Ok) : AllB x.enc := (((AllB.append h.id.byte ((allB_be _ _).append h.node.byte)).append (allB_flag _))).append (allB_be _ _)
theorem allB_pt {p : Pt} (h : p.Ok) : AllB p.enc := by
  refine (allB_flag _).append ?_
  unfold Pt.body
  split
  · intro u hu; cases hu
  · refine (allB_dg _).append ?_
    split
    · exact (allB_flag _).append (AllB.flatMap fun x _ => allB_dg x)
    · exact (allB_flag _).append (AllB.append h.th.byte ((allB_be _ _).append (AllB.flatMap fun x hx => allB_sm (h.st x hx))))
theorem allB_ans {room : Int} {ps : List Pt} (h : ∀ p ∈ ps, p.Ok) : AllB (encAns room ps) := ((allB_be _ _).append (allB_be _ _)).append (AllB.flatMap fun p hp => allB_pt (h p hp))
theorem AllB.ints {L : List Value} (h : AllB L) : L = zV (L.map intOf) := by
  unfold zV
  rw [List.map_map]
  conv => lhs; rw [← List.map_id L]
  apply List.map_congr_left
  intro u hu
  obtain ⟨b, rfl⟩ := h u hu
  rfl

theorem own_keep {w w' : World} {B : Nat} {v : Value} {ys : List Value} (h : w.ownsRow B 5 1 v ys.length ys) (hk : ∀ g, v.ownBlock = some g → w'.heap[g]? = w.heap[g]?) : w'.ownsRow B 5 1 v ys.length ys := by
  refine ⟨h.1, ?_⟩
  rcases h.2 with ⟨h0, h1⟩ | ⟨g', cap', cur, h0, hb, hg', hr⟩
  · exact Or.inl ⟨h0, h1⟩
  · exact Or.inr ⟨g', cap', cur, h0, hb, by rw [hk g' (by rw [h0]; rfl)]; exact hg', hr⟩

/-- The bytes of a row of one's own, as a string. -/
theorem conv_cells {w : World} {b o len cap : Nat} {zs : List Int} (hl : zs.length = len) (hc : ∀ j u, (zV zs)[j]? = some u → w.cell? ⟨b, o + j, none⟩ = some u) : (convert 23 9 (.slice (some ⟨b, o, none⟩) len cap)).run Yba.prog w = .ok (.string (strOfNums zs)) w :=
  run_convert_bytes_arg w 23 5 Yba.underlying23 Yba.underlying5 b o len cap zs hl (fun i hi => hc i _ (by
    have : i < zs.length := by omega
    simp [zV, List.getD, List.getElem?_eq_getElem this])) 9 Yba.underlying9

theorem conv_own {w : World} {B : Nat} {v : Value} {zs : List Int} (h : w.ownsRow B 5 1 v (zV zs).length (zV zs)) : (convert 23 9 v).run Yba.prog w = .ok (.string (strOfNums zs)) w := by
  rcases h.2 with ⟨h0, h1⟩ | ⟨g, cap, cur, h0, hb, hg, hr⟩
  · subst h0
    have : zs = [] := List.eq_nil_of_length_eq_zero (by simpa using h1)
    subst this
    exact run_convert_bytes_nil w 23 5 Yba.underlying23 Yba.underlying5 0 0 9 Yba.underlying9
  · have hc := h.cells (g := g) (by rw [h0]; rfl)
    subst h0
    exact conv_cells (by simp) (fun j u hu => by have := hc j u hu; rwa [Addr.add_mid] at this)

theorem equal_same (v1 v2 : Value) (s : ByteArray) (w : World) (h1 : (convert 23 9 v1).run Yba.prog w = .ok (.string s) w) (h2 : (convert 23 9 v2).run Yba.prog w = .ok (.string s) w) :
    Calls Yba.prog 16 #[v1, v2] w fun e w' => e = .returned (.bool true) ∧ w = w' := by
  go_enter Yba.func16, Yba.ntmps16
  go_wp2
  go_ret
  exact ⟨by simp, rfl⟩

/-- The opening part, as it lies in memory. -/
def PreAt (B : Nat) (w : World) (a0 : Option Addr) (zs : List Int) : Prop := 0 < zs.length → ∃ b o, a0 = some ⟨b, o, none⟩ ∧ b < B ∧ ∀ j u, (zV zs)[j]? = some u → w.cell? ⟨b, o + j, none⟩ = some u

theorem PreAt.below {B : Nat} {w w' : World} {a0 : Option Addr} {zs : List Int} (h : PreAt B w a0 zs) (hb : Below B w w') : PreAt B w' a0 zs := fun h0 => by
  obtain ⟨b, o, ha, hlt, hc⟩ := h h0
  exact ⟨b, o, ha, hlt, fun j u hu => by rw [hb.cell (p := ⟨b, o + j, none⟩) hlt]; exact hc j u hu⟩

theorem PreAt.conv {B : Nat} {w : World} {a0 : Option Addr} {zs : List Int} (h : PreAt B w a0 zs) (cap0 : Nat) : (convert 23 9 (.slice a0 zs.length cap0)).run Yba.prog w = .ok (.string (strOfNums zs)) w := by
  by_cases h0 : 0 < zs.length
  · obtain ⟨b, o, rfl, _, hc⟩ := h h0
    exact conv_cells rfl hc
  · obtain rfl : zs = [] := List.eq_nil_of_length_eq_zero (by omega)
    rcases a0 with _ | ⟨b, o, f⟩
    · exact run_convert_bytes_nil w 23 5 Yba.underlying23 Yba.underlying5 _ _ 9 Yba.underlying9
    · rw [run_convert_bytes_string w 23 9 5 _ _ _ Yba.underlying23 Yba.underlying5 Yba.underlying9]
      have := run_loadCells_list (P := Yba.prog) w ⟨b, o, f⟩ [] (fun j v hj => by simp at hj)
      exact (run_bytesToString w ⟨b, o, f⟩ 0 cap0 [] (by simpa using this)).trans rfl

theorem run_append_pre {B : Nat} {w : World} {a0 : Option Addr} {zs : List Int} (h : PreAt B w a0 zs) (hl : zs.length ≤ 1024) (hB : B ≤ w.heap.size) (cap0 : Nat) (ty : TypeId) :
    ∃ v' w', (Builtin.append_ #[23, 23] ty #[.slice none 0 0, .slice a0 zs.length cap0]).run Yba.prog w = .ok v' w' ∧ App B 5 w (.slice none 0 0) [] w' v' (zV zs) := by
  obtain ⟨i5, hi5, h5a, h5b, h5c⟩ := info_parts inf5
  have hnil := World.ownsRow_nil w B 5 1
  rcases a0 with _ | ad
  · have h0 : zs.length = 0 := by
      rcases Nat.eq_zero_or_pos zs.length with h1 | h1
      · exact h1
      · obtain ⟨b, o, e, _⟩ := h h1; cases e
    obtain rfl : zs = [] := List.eq_nil_of_length_eq_zero h0
    refine ⟨.slice none 0 0, w, ?_, App.refl hnil⟩
    simp [Builtin.append_, run_underlying Yba.underlying23, sizeOf, typeInfo, hi5, h5b, go_sem]
  · have hn : ∀ j u, (zV zs)[j]? = some u → w.cell? (ad.add j) = some u := fun j u hu => by
      obtain ⟨b, o, e, _, hc⟩ := h (by have := (List.getElem?_eq_some_iff.1 hu).1; simp at this; omega)
      obtain rfl := Option.some.inj e
      rw [Addr.add_mid]; exact hc j u hu
    obtain ⟨v', w', hr, hA⟩ := run_append_app (P := Yba.prog) w B 23 ty 5 i5 (.int .u8 0) 1 Yba.underlying23 hi5 h5a h5b h5c rfl (.slice none 0 0) [] hnil ad cap0 (zV zs) hn (one_zV zs) (by simp; unfold maxLen; omega) (by simp; omega) hB
    refine ⟨v', w', ?_, by simpa using hA⟩
    rw [← hr]; simp

theorem wpList_append_pre {B : Nat} {w : World} {ops : Array Oper} {rest : List Oper} {o : Oper} {a : Act} {Q : Exit → Act → World → Prop} (hgd : o.guard = none) (s x : Operand)
    (ho : o.op = .call { callee := .builtin .append, args := #[s, x], argTypes := #[23, 23] }) {a0 : Option Addr} {n0 : Nat} {zs : List Int} (h : PreAt B w a0 zs) (hl : zs.length ≤ 1024) (hB : B ≤ w.heap.size) (cap0 : Nat) (hs : a.eval s = .slice none 0 0) (hx : a.eval x = .slice a0 n0 cap0) (hn : zs.length = n0)
    (hh : ∀ v' w', App B 5 w (.slice none 0 0) [] w' v' (zV zs) → wpList Yba.prog ops Q rest (a.put o.dst v') w') : wpList Yba.prog ops Q (o :: rest) a w := by
  subst hn
  obtain ⟨v', w', hr, hA⟩ := run_append_pre h hl hB cap0 o.type
  refine wpList_plain hgd fun K hK => ?_
  unfold Oper.wp execOp
  simp only [ho, resolve, invoke, builtin, Sem.run_bind, Sem.run_pure, Result.andThen_ok, List.map_toArray, List.map_cons, List.map_nil, hs, hx, hr]
  exact hK _ _ (hh v' w' hA)

theorem Reads.below {w w' : World} {a : Option Addr} {size : Nat} {L : List (List Value)} (h : Reads w.heap.size w a size L) (hb : Below w.heap.size w w') : Reads w.heap.size w' a size L := fun hL => by
  obtain ⟨b, o, ha, hf, hc⟩ := h hL
  exact ⟨b, o, ha, ⟨Nat.lt_of_lt_of_le hf.1 hb.size, Or.inl hf.1⟩, fun i cs hi => rangeAt_block (hb.block b hf.1) (hc i cs hi)⟩

theorem rows_below {w w' : World} {a : Option Addr} {ps : List Pt} (h : RowsAt (PtRow w.heap.size) w.heap.size w a 29 ps) (hb : Below w.heap.size w w') : RowsAt (PtRow w.heap.size) w.heap.size w' a 29 ps := fun hL => by
  obtain ⟨b, o, ha, hf, hc⟩ := h hL
  refine ⟨b, o, ha, ⟨Nat.lt_of_lt_of_le hf.1 hb.size, Or.inl hf.1⟩, fun i p hi => ?_⟩
  obtain ⟨cs, ⟨spA, spC, stA, stC, e, h1, h2⟩, hr⟩ := hc i p hi
  exact ⟨cs, ⟨spA, spC, stA, stC, e, h1.below hb, h2.below hb⟩, rangeAt_block (hb.block b hf.1) hr⟩
end Go.Proofs.Ybulkdfdc
