import Derived.Test.YbulkdfdcFin
import Derived.OpenShut
import Derived.ShutString
import Derived.ChangeOld
import Derived.Below
import Derived.Deep.Slices
namespace Go.Proofs.Ybulkdfdc
open Go.ChangeShapes Go.WideShapes Go.ChangeAt Go.RowKit Go.Deep
set_option linter.unusedVariables false
set_option linter.unusedSimpArgs false

theorem cells2 : Yba.prog.cellsOf 2 = 1 := by kernel_rfl
theorem cells3 : Yba.prog.cellsOf 3 = 1 := by kernel_rfl
theorem cells4 : Yba.prog.cellsOf 4 = 1 := by kernel_rfl
theorem cells5 : Yba.prog.cellsOf 5 = 1 := by kernel_rfl
theorem cells22 : Yba.prog.cellsOf 22 = 1 := by kernel_rfl
theorem cells25 : Yba.prog.cellsOf 25 = 20 := by kernel_rfl
theorem cells101 : Yba.prog.cellsOf 101 = 4 := by kernel_rfl
theorem cells103 : Yba.prog.cellsOf 103 = 5 := by kernel_rfl
theorem cells104 : Yba.prog.cellsOf 104 = 1 := by kernel_rfl
theorem cells105 : Yba.prog.cellsOf 105 = 1 := by kernel_rfl
theorem cells107 : Yba.prog.cellsOf 107 = 29 := by kernel_rfl
theorem cells118 : Yba.prog.cellsOf 118 = 43 := by kernel_rfl

section
variable {H : Type} {enc : TypeId × Value → H} {W : World} {base : Nat} {spare : Nat → Bool} {held : Bool}

theorem open_id {fuel : Nat} {cs : List Value} {x : DataW H × List MemPlace} (h : DataW.trod enc Yba.prog W base spare held fuel 25 cs = some x) : ID20 cs := by
  obtain ⟨xs, m, _, _, hl, hxl, hx⟩ := DataW.trod_array Yba.underlying25 h
  rw [cells25] at hl
  refine ⟨hl, fun u hu => ?_⟩
  obtain ⟨i, hi⟩ := List.getElem?_of_mem hu
  have hi20 : i < 20 := by have := (List.getElem?_eq_some_iff.1 hi).1; omega
  have e := hx i hi20
  rw [cells5, List.getElem?_eq_getElem (by omega)] at e
  obtain ⟨z, hz, _, hw⟩ := DataW.trod_int Yba.underlying5 e
  have : ((cs.drop (i * 1)).take 1)[0]? = some u := by
    rw [List.getElem?_take, if_pos (by omega), List.getElem?_drop]; simpa using hi
  rw [hz] at this
  simp only [List.getElem?_cons_zero, Option.some.injEq] at this
  exact ⟨z, this.symm⟩

set_option maxRecDepth 100000 in
theorem open_dg {fuel : Nat} {cs : List Value} {x : DataW H × List MemPlace} (h : DataW.trod enc Yba.prog W base spare held fuel 103 cs = some x) : ∃ d : Dg, cs = d.cells ∧ d.Ok := by
  obtain ⟨y0, y1, n', _, hl, t0, t1⟩ := trod_struct2 Yba.underlying103 h
  rw [cells103] at hl
  match cs, hl with
  | [c0, c1, c2, c3, c4], _ =>
    simp only [cells3, cells101, List.drop_zero, List.take_succ_cons, List.take_zero, List.drop_succ_cons] at t0 t1
    obtain ⟨s, hs, _, _⟩ := DataW.trod_int Yba.underlying3 t0
    obtain ⟨xs, m, _, _, _, hxl, hx⟩ := DataW.trod_array Yba.underlying101 t1
    have each : ∀ i (hi : i < 4), ∃ z : Int, [c1, c2, c3, c4][i]? = some (.int .u64 z) ∧ 0 ≤ z ∧ z ≤ 18446744073709551615 := by
      intro i hi
      have e := hx i hi
      rw [cells22, List.getElem?_eq_getElem (by omega)] at e
      obtain ⟨z, hz, _, hw⟩ := DataW.trod_int Yba.underlying22 e
      refine ⟨z, ?_, (bounds_u64 hw).1, (bounds_u64 hw).2⟩
      have : (([c1, c2, c3, c4].drop (i * 1)).take 1)[0]? = some (.int .u64 z) := by rw [hz]; rfl
      rw [List.getElem?_take, if_pos (by omega), List.getElem?_drop] at this
      simpa using this
    obtain ⟨z1, e1, a1, b1⟩ := each 0 (by decide)
    obtain ⟨z2, e2, a2, b2⟩ := each 1 (by decide)
    obtain ⟨z3, e3, a3, b3⟩ := each 2 (by decide)
    obtain ⟨z4, e4, a4, b4⟩ := each 3 (by decide)
    simp at e1 e2 e3 e4 hs
    subst e1 e2 e3 e4 hs
    exact ⟨⟨s, z1, z2, z3, z4⟩, rfl, ⟨a1, b1, a2, b2, a3, b3, a4, b4⟩⟩

theorem one_of {l : List Value} {u : Value} (h : l = [u]) : l[0]? = some u := by rw [h]; rfl

theorem piece {cs : List Value} {o : Nat} {u : Value} (h : (cs.drop o).take 1 = [u]) : cs[o]? = some u := by
  have := one_of h
  rw [List.getElem?_take, if_pos (by omega), List.getElem?_drop] at this
  simpa using this

set_option maxRecDepth 100000 in
theorem open_sm {fuel : Nat} {cs : List Value} {x : DataW H × List MemPlace} (h : DataW.trod enc Yba.prog W base spare held fuel 118 cs = some x) : ∃ d : Sm, cs = d.cells ∧ d.Ok := by
  obtain ⟨xs, n, _, _, hl, hxl, hx⟩ := DataW.trod_struct Yba.underlying118 h
  rw [cells118] at hl
  have t0 : DataW.trod enc Yba.prog W base spare held n 25 ((cs.drop 0).take (Yba.prog.cellsOf 25)) = xs[0]? := hx 0 _ rfl
  have t1 : DataW.trod enc Yba.prog W base spare held n 22 ((cs.drop 20).take (Yba.prog.cellsOf 22)) = xs[1]? := hx 1 _ rfl
  have t2 : DataW.trod enc Yba.prog W base spare held n 25 ((cs.drop 21).take (Yba.prog.cellsOf 25)) = xs[2]? := hx 2 _ rfl
  have t3 : DataW.trod enc Yba.prog W base spare held n 4 ((cs.drop 41).take (Yba.prog.cellsOf 4)) = xs[3]? := hx 3 _ rfl
  have t4 : DataW.trod enc Yba.prog W base spare held n 3 ((cs.drop 42).take (Yba.prog.cellsOf 3)) = xs[4]? := hx 4 _ rfl
  have h5 : xs.length = 5 := hxl
  rw [List.getElem?_eq_getElem (show 0 < xs.length by omega), cells25] at t0
  rw [List.getElem?_eq_getElem (show 1 < xs.length by omega), cells22] at t1
  rw [List.getElem?_eq_getElem (show 2 < xs.length by omega), cells25] at t2
  rw [List.getElem?_eq_getElem (show 3 < xs.length by omega), cells4] at t3
  rw [List.getElem?_eq_getElem (show 4 < xs.length by omega), cells3] at t4
  have i0 := open_id t0
  obtain ⟨t, ht, _, hw⟩ := DataW.trod_int Yba.underlying22 t1
  have i2 := open_id t2
  obtain ⟨b, hb, _⟩ := DataW.trod_bool Yba.underlying4 t3
  obtain ⟨s, hs, _, _⟩ := DataW.trod_int Yba.underlying3 t4
  have e20 := piece ht
  have e41 := piece hb
  have e42 := piece hs
  refine ⟨⟨(cs.drop 0).take 20, t, (cs.drop 21).take 20, b, s⟩, ?_, ⟨i0, i2, (bounds_u64 hw).1, (bounds_u64 hw).2⟩⟩
  refine List.ext_getElem? fun i => ?_
  simp only [Sm.cells]
  by_cases h1 : i < 20
  · rw [List.getElem?_append_left (by rw [i0.len]; omega), List.getElem?_take, if_pos h1, List.getElem?_drop, Nat.zero_add]
  · rw [List.getElem?_append_right (by rw [i0.len]; omega), i0.len]
    by_cases h2 : i = 20
    · subst h2; simpa using e20
    · obtain ⟨k, rfl⟩ : ∃ k, i = 21 + k := ⟨i - 21, by omega⟩
      rw [show 21 + k - 20 = k + 1 by omega, List.getElem?_cons_succ]
      by_cases h3 : k < 20
      · rw [List.getElem?_append_left (by rw [i2.len]; omega), List.getElem?_take, if_pos h3, List.getElem?_drop]
      · rw [List.getElem?_append_right (by rw [i2.len]; omega), i2.len]
        by_cases h4 : k = 20
        · subst h4; simpa using e41
        · by_cases h5 : k = 21
          · subst h5; simpa using e42
          · rw [List.getElem?_eq_none (by omega), List.getElem?_eq_none (by simp; omega)]

/-- A SLICE OF STRUCTS, opened. -/
theorem open_list {α : Type} [Inhabited α] {T e : TypeId} {size : Nat} (hT : Yba.prog.underlying T = some (.slice e)) (hs : Yba.prog.cellsOf e = size) (hs0 : 0 < size) {R : α → List Value → Prop} {Ok : α → Prop}
    (ho : ∀ fuel cs x, DataW.trod enc Yba.prog W base spare held fuel e cs = some x → ∃ d, R d cs ∧ Ok d) {fuel : Nat} {c : Value} {x : DataW H × List MemPlace} (h : DataW.trod enc Yba.prog W base spare held fuel T [c] = some x) :
    ∃ (a : Option Addr) (L : List α) (cap : Nat), c = .slice a L.length cap ∧ L.length ≤ maxLen ∧ (∀ d ∈ L, Ok d) ∧ (a = none → L = [] ∧ cap = 0) ∧ (L ≠ [] → ∃ b o, a = some ⟨b, o, none⟩ ∧ b < W.heap.size ∧ ∀ i d, L[i]? = some d → ∃ cs, R d cs ∧ W.rangeAt b (o + i * size) cs) := by
  rcases open_slice hT h with ⟨hcs, _⟩ | ⟨y, l, c', m, n, D, Pl, hcs, _, hl, hm, hmm, _, hcell⟩
  · simp only [List.cons.injEq, and_true] at hcs
    exact ⟨none, [], 0, hcs, Nat.zero_le _, by simp, fun _ => ⟨rfl, rfl⟩, fun hh => absurd rfl hh⟩
  · simp only [List.cons.injEq, and_true] at hcs
    subst hcs
    have hlm : l ≤ m := by rw [hmm]; split <;> omega
    have each : ∀ i, i < l → ∃ q : α × List Value, R q.1 q.2 ∧ Ok q.1 ∧ q.2.length = size ∧ ∀ j u, q.2[j]? = some u → W.cell? (y.add (i * size + j)) = some u := by
      intro i hi
      obtain ⟨cs', h1, h2⟩ := hcell i (by omega)
      rw [hs] at h1
      obtain ⟨_, hlen, hc⟩ := World.cells?_some h1
      obtain ⟨d, hd1, hd2⟩ := ho _ _ _ h2
      refine ⟨(d, cs'), hd1, hd2, hlen, fun j u hu => ?_⟩
      have hj := (List.getElem?_eq_some_iff.1 hu).1
      have := hc j (by simp only at hj; omega)
      rw [add_add] at this
      simp only at hu
      rw [this, ← hu]
    obtain ⟨F, hF⟩ := choose_lt (α := α × List Value) each
    refine ⟨some y, (List.range l).map (fun i => (F i).1), c', by simp, by simp; omega, ?_, fun h0 => (by cases h0), fun hne => ?_⟩
    · intro d hd
      obtain ⟨i, hi, rfl⟩ := List.mem_map.1 hd
      exact (hF i (List.mem_range.1 hi)).2.1
    · have hl0 : 0 < l := by
        rcases Nat.eq_zero_or_pos l with h0 | h0
        · subst h0; exact absurd rfl hne
        · exact h0
      obtain ⟨b, o, spot⟩ := y
      have c0 : W.cell? ((⟨b, o, spot⟩ : Addr).add 0) = some (F 0).2[0]! := by
        obtain ⟨_, _, hln, hc⟩ := hF 0 hl0
        have := hc 0 (F 0).2[0]! (by rw [List.getElem?_eq_getElem (by omega)]; simp [List.getElem!_eq_getElem?_getD, List.getElem?_eq_getElem (show 0 < (F 0).2.length by omega)])
        simpa using this
      have hspot : spot = none := by simpa [Addr.add] using World.cell?_spot c0
      subst hspot
      refine ⟨b, o, rfl, ?_, fun i d hi => ?_⟩
      · have := World.block_lt_of_cell? _ _ c0
        simpa [Addr.add] using this
      · simp only [List.getElem?_map] at hi
        obtain ⟨k, hk, rfl⟩ := Option.map_eq_some_iff.1 hi
        have hik : i = k ∧ i < l := by
          have := List.getElem?_eq_some_iff.1 hk
          simp at this
          omega
        obtain ⟨rfl, hil⟩ := hik
        obtain ⟨r1, _, _, r3⟩ := hF i hil
        exact ⟨(F i).2, r1, fun j u hu => by rw [Nat.add_assoc, ← add_plain]; exact r3 j u hu⟩
end
end Go.Proofs.Ybulkdfdc
