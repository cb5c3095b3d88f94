import Derived.Test.YbulkdfeeGreatDoorMain
import Derived.OpenShut
import Derived.ChangeOld
import Derived.Below
import Derived.Deep.Slices
import Derived.Deep.Strs
namespace Go.Proofs.YbulkdfeeGreatDoor
open Go.ChangeShapes Go.WideShapes Go.ChangeAt Go.RowKit Go.Deep
set_option linter.unusedVariables false
set_option linter.unusedSimpArgs false

theorem cells3 : Ybaz.prog.cellsOf 3 = 1 := by kernel_rfl
theorem cells4 : Ybaz.prog.cellsOf 4 = 1 := by kernel_rfl
theorem cells5 : Ybaz.prog.cellsOf 5 = 1 := by kernel_rfl
theorem cells24 : Ybaz.prog.cellsOf 24 = 1 := by kernel_rfl
theorem cells26 : Ybaz.prog.cellsOf 26 = 3 := by kernel_rfl
theorem cells37 : Ybaz.prog.cellsOf 37 = 1 := by kernel_rfl

section
variable {H : Type} {enc : TypeId × Value → H} {W : World} {base : Nat} {spare : Nat → Bool} {held : Bool}

/-- A SLICE OF STRUCTS, opened. -/
theorem open_list {α : Type} [Inhabited α] {T e : TypeId} {size : Nat} (hT : Ybaz.prog.underlying T = some (.slice e)) (hs : Ybaz.prog.cellsOf e = size) (hs0 : 0 < size) {R : α → List Value → Prop} {Ok : α → Prop}
    (ho : ∀ fuel cs x, DataW.trod enc Ybaz.prog W base spare held fuel e cs = some x → ∃ d, R d cs ∧ Ok d) {fuel : Nat} {c : Value} {x : DataW H × List MemPlace} (h : DataW.trod enc Ybaz.prog W base spare held fuel T [c] = some x) :
    ∃ (a : Option Addr) (L : List α) (cap : Nat), c = .slice a L.length cap ∧ L.length ≤ maxLen ∧ (∀ d ∈ L, Ok d) ∧ (a = none → L = [] ∧ cap = 0) ∧ (L ≠ [] → ∃ b o, a = some ⟨b, o, none⟩ ∧ b < W.heap.size ∧ ∀ i d, L[i]? = some d → ∃ cs, R d cs ∧ W.rangeAt b (o + i * size) cs) := by
  rcases open_slice hT h with ⟨hcs, _⟩ | ⟨y, l, c', m, n, D, Pl, hcs, _, hl, hm, hmm, _, hcell⟩
  · simp only [List.cons.injEq, and_true] at hcs
    exact ⟨none, [], 0, hcs, Nat.zero_le _, by simp, fun _ => ⟨rfl, rfl⟩, fun hh => absurd rfl hh⟩
  · simp only [List.cons.injEq, and_true] at hcs
    subst hcs
    have hlm : l ≤ m := by rw [hmm]; split <;> omega
    have each : ∀ i, i < l → ∃ q : α × List Value, R q.1 q.2 ∧ Ok q.1 ∧ q.2.length = size ∧ ∀ j u, q.2[j]? = some u → W.cell? (y.add (i * size + j)) = some u := by
      intro i hi
      obtain ⟨cs', h1, h2⟩ := hcell i (by omega)
      rw [hs] at h1
      obtain ⟨_, hlen, hc⟩ := World.cells?_some h1
      obtain ⟨d, hd1, hd2⟩ := ho _ _ _ h2
      refine ⟨(d, cs'), hd1, hd2, hlen, fun j u hu => ?_⟩
      have hj := (List.getElem?_eq_some_iff.1 hu).1
      have := hc j (by simp only at hj; omega)
      rw [add_add] at this
      simp only at hu
      rw [this, ← hu]
    obtain ⟨F, hF⟩ := choose_lt (α := α × List Value) each
    refine ⟨some y, (List.range l).map (fun i => (F i).1), c', by simp, by simp; omega, ?_, fun h0 => (by cases h0), fun hne => ?_⟩
    · intro d hd
      obtain ⟨i, hi, rfl⟩ := List.mem_map.1 hd
      exact (hF i (List.mem_range.1 hi)).2.1
    · have hl0 : 0 < l := by
        rcases Nat.eq_zero_or_pos l with h0 | h0
        · subst h0; exact absurd rfl hne
        · exact h0
      obtain ⟨b, o, spot⟩ := y
      have c0 : W.cell? ((⟨b, o, spot⟩ : Addr).add 0) = some (F 0).2[0]! := by
        obtain ⟨_, _, hln, hc⟩ := hF 0 hl0
        have := hc 0 (F 0).2[0]! (by rw [List.getElem?_eq_getElem (by omega)]; simp [List.getElem!_eq_getElem?_getD, List.getElem?_eq_getElem (show 0 < (F 0).2.length by omega)])
        simpa using this
      have hspot : spot = none := by simpa [Addr.add] using World.cell?_spot c0
      subst hspot
      refine ⟨b, o, rfl, ?_, fun i d hi => ?_⟩
      · have := World.block_lt_of_cell? _ _ c0
        simpa [Addr.add] using this
      · simp only [List.getElem?_map] at hi
        obtain ⟨k, hk, rfl⟩ := Option.map_eq_some_iff.1 hi
        have hik : i = k ∧ i < l := by
          have := List.getElem?_eq_some_iff.1 hk
          simp at this
          omega
        obtain ⟨rfl, hil⟩ := hik
        obtain ⟨r1, _, _, r3⟩ := hF i hil
        exact ⟨(F i).2, r1, fun j u hu => by rw [Nat.add_assoc, ← add_plain]; exact r3 j u hu⟩

theorem open_u8s {fuel : Nat} {c : Value} {x : DataW H × List MemPlace} (h : DataW.trod enc Ybaz.prog W base spare held fuel 24 [c] = some x) :
    ∃ (a : Option Addr) (rd : List Nat) (cap : Nat), c = .slice a rd.length cap ∧ rd.length ≤ maxLen ∧ (∀ v ∈ rd, v ≤ 255) ∧ RA8 W a rd := by
  obtain ⟨a, rd, cap, e, hl, ho, _, hr⟩ := open_list (α := Nat) (R := fun z cs => cs = [.int .u8 (z : Int)]) (Ok := fun z => z ≤ 255) Ybaz.underlying24 cells5 (by decide) (fun fuel cs x h => by
    obtain ⟨z, hz, _, hw⟩ := DataW.trod_int Ybaz.underlying5 h
    obtain ⟨h0, h1⟩ := bounds_u8 hw
    exact ⟨z.toNat, by rw [hz]; congr 2; omega, by omega⟩) h
  refine ⟨a, rd, cap, e, hl, ho, fun i z hz => ?_⟩
  obtain ⟨b, o, ha, hb, hc⟩ := hr (fun e0 => by rw [e0] at hz; cases hz)
  obtain ⟨cs, rfl, hr2⟩ := hc i z hz
  refine ⟨b, o, ha, hb, ?_⟩
  have := hr2 0 _ rfl
  simpa using this
theorem open_u16s {fuel : Nat} {c : Value} {x : DataW H × List MemPlace} (h : DataW.trod enc Ybaz.prog W base spare held fuel 23 [c] = some x) :
    ∃ (a : Option Addr) (xs : List Nat) (cap : Nat), c = .slice a xs.length cap ∧ xs.length ≤ maxLen ∧ (∀ v ∈ xs, v ≤ 65535) ∧ XA W a xs := by
  obtain ⟨a, rd, cap, e, hl, ho, _, hr⟩ := open_list (α := Nat) (R := fun z cs => cs = [.int .u16 (z : Int)]) (Ok := fun z => z ≤ 65535) Ybaz.underlying23 cells37 (by decide) (fun fuel cs x h => by
    obtain ⟨z, hz, _, hw⟩ := DataW.trod_int Ybaz.underlying37 h
    obtain ⟨h0, h1⟩ := bounds_u16 hw
    exact ⟨z.toNat, by rw [hz]; congr 2; omega, by omega⟩) h
  refine ⟨a, rd, cap, e, hl, ho, fun i z hz => ?_⟩
  obtain ⟨b, o, ha, hb, hc⟩ := hr (fun e0 => by rw [e0] at hz; cases hz)
  obtain ⟨cs, rfl, hr2⟩ := hc i z hz
  refine ⟨b, o, ha, hb, ?_⟩
  have := hr2 0 _ rfl
  simpa using this
structure It.Ok (W : World) (x : It) : Prop where
  wv : x.wv ≤ 255
  rd : ∀ v ∈ x.rd, v ≤ 255
  len : x.rd.length ≤ maxLen
  lies : RA8 W x.ra x.rd
set_option maxRecDepth 100000 in
theorem open_item {fuel : Nat} {cs : List Value} {x : DataW H × List MemPlace} (h : DataW.trod enc Ybaz.prog W base spare held fuel 26 cs = some x) : ∃ y : It, cs = y.cells ∧ y.Ok W := by
  obtain ⟨y0, y1, y2, n', _, hl, t0, t1, t2⟩ := trod_struct3 Ybaz.underlying26 h
  rw [cells26] at hl
  match cs, hl with
  | [c0, c1, c2], _ =>
    simp only [cells4, cells5, cells24, List.drop_zero, List.take_succ_cons, List.take_zero, List.drop_succ_cons] at t0 t1 t2
    obtain ⟨bb, hb, _⟩ := DataW.trod_bool Ybaz.underlying4 t0
    obtain ⟨z, hz, _, hw⟩ := DataW.trod_int Ybaz.underlying5 t1
    obtain ⟨a, rd, cap, e, hl2, ho, hR⟩ := open_u8s t2
    simp only [List.cons.injEq, and_true] at hb hz
    subst hb hz e
    obtain ⟨h0, h1⟩ := bounds_u8 hw
    refine ⟨⟨bb, z.toNat, rd, a, cap⟩, ?_, ⟨by show z.toNat ≤ 255; omega, ho, hl2, hR⟩⟩
    show _ = [Value.bool bb, .int .u8 ((z.toNat : Nat) : Int), .slice a rd.length cap]
    rw [show ((z.toNat : Nat) : Int) = z by omega]
theorem open_items {fuel : Nat} {c : Value} {x : DataW H × List MemPlace} (h : DataW.trod enc Ybaz.prog W base spare held fuel 22 [c] = some x) :
    ∃ (a : Option Addr) (its : List It) (cap : Nat), c = .slice a its.length cap ∧ its.length ≤ maxLen ∧ AllB its ∧ (∀ x ∈ its, x.rd.length ≤ maxLen) ∧ ItsAt W a its := by
  haveI : Inhabited It := ⟨⟨false, 0, [], none, 0⟩⟩
  obtain ⟨a, its, cap, e, hl, ho, _, hr⟩ := open_list (α := It) (R := fun y cs => cs = y.cells) (Ok := It.Ok W) Ybaz.underlying22 cells26 (by decide) (fun fuel cs x h => open_item h) h
  refine ⟨a, its, cap, e, hl, fun x hx => ⟨(ho x hx).wv, (ho x hx).rd⟩, fun x hx => (ho x hx).len, fun i y hy => ⟨?_, (ho y (List.mem_of_getElem? hy)).lies⟩⟩
  obtain ⟨b, o, ha, hb, hc⟩ := hr (fun e0 => by rw [e0] at hy; cases hy)
  obtain ⟨cs, rfl, hr2⟩ := hc i y hy
  exact ⟨b, o, ha, hb, hr2⟩
end
end Go.Proofs.YbulkdfeeGreatDoor
