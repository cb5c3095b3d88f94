import Derived.Test.YbulkdfdcOpen
namespace Go.Proofs.Ybulkdfdc
open Go.ChangeShapes Go.WideShapes Go.ChangeAt Go.RowKit Go.Deep
set_option linter.unusedVariables false
set_option linter.unusedSimpArgs false

structure Pt.Ok0 (p : Pt) : Prop where
  dg : p.dg.Ok
  sp : ∀ x ∈ p.sp, x.Ok
  th : ID20 p.th
  st : ∀ x ∈ p.st, x.Ok

theorem Pt.Ok0.ok {p : Pt} (h : p.Ok0) (h1 : p.sp.length ≤ 1024) (h2 : p.st.length ≤ 1024) : p.Ok := ⟨h.dg, h.sp, h.th, h.st, h1, h2⟩

theorem reads_of {α : Type} {W : World} {a : Option Addr} {size : Nat} {L : List α} {f : α → List Value} (h : L ≠ [] → ∃ b o, a = some ⟨b, o, none⟩ ∧ b < W.heap.size ∧ ∀ i d, L[i]? = some d → ∃ cs, cs = f d ∧ W.rangeAt b (o + i * size) cs) : Reads W.heap.size W a size (L.map f) := fun hL => by
  obtain ⟨b, o, ha, hb, hc⟩ := h (fun e => hL (by rw [e]; rfl))
  refine ⟨b, o, ha, ⟨hb, Or.inl hb⟩, fun i cs hi => ?_⟩
  rw [List.getElem?_map] at hi
  obtain ⟨d, hd, rfl⟩ := Option.map_eq_some_iff.1 hi
  obtain ⟨cs', rfl, hr⟩ := hc i d hd
  exact hr

theorem take_one {cs : List Value} {o : Nat} (h : o < cs.length) : ∃ u, (cs.drop o).take 1 = [u] ∧ cs[o]? = some u := by
  refine ⟨cs[o], ?_, List.getElem?_eq_getElem h⟩
  rw [List.drop_eq_getElem_cons h]; rfl

section
variable {H : Type} {enc : TypeId × Value → H} {W : World} {base : Nat} {spare : Nat → Bool} {held : Bool}

set_option maxRecDepth 100000 in
theorem open_pt {fuel : Nat} {cs : List Value} {x : DataW H × List MemPlace} (h : DataW.trod enc Yba.prog W base spare held fuel 107 cs = some x) : ∃ p : Pt, PtRow W.heap.size W p cs ∧ p.Ok0 := by
  obtain ⟨xs, n, _, _, hl, hxl, hx⟩ := DataW.trod_struct Yba.underlying107 h
  rw [cells107] at hl
  have t0 : DataW.trod enc Yba.prog W base spare held n 4 ((cs.drop 0).take (Yba.prog.cellsOf 4)) = xs[0]? := hx 0 _ rfl
  have t1 : DataW.trod enc Yba.prog W base spare held n 4 ((cs.drop 1).take (Yba.prog.cellsOf 4)) = xs[1]? := hx 1 _ rfl
  have t2 : DataW.trod enc Yba.prog W base spare held n 103 ((cs.drop 2).take (Yba.prog.cellsOf 103)) = xs[2]? := hx 2 _ rfl
  have t3 : DataW.trod enc Yba.prog W base spare held n 104 ((cs.drop 7).take (Yba.prog.cellsOf 104)) = xs[3]? := hx 3 _ rfl
  have t4 : DataW.trod enc Yba.prog W base spare held n 25 ((cs.drop 8).take (Yba.prog.cellsOf 25)) = xs[4]? := hx 4 _ rfl
  have t5 : DataW.trod enc Yba.prog W base spare held n 105 ((cs.drop 28).take (Yba.prog.cellsOf 105)) = xs[5]? := hx 5 _ rfl
  have h6 : xs.length = 6 := hxl
  rw [List.getElem?_eq_getElem (show 0 < xs.length by omega), cells4] at t0
  rw [List.getElem?_eq_getElem (show 1 < xs.length by omega), cells4] at t1
  rw [List.getElem?_eq_getElem (show 2 < xs.length by omega), cells103] at t2
  rw [List.getElem?_eq_getElem (show 3 < xs.length by omega), cells104] at t3
  rw [List.getElem?_eq_getElem (show 4 < xs.length by omega), cells25] at t4
  rw [List.getElem?_eq_getElem (show 5 < xs.length by omega), cells105] at t5
  obtain ⟨b0, hb0, _⟩ := DataW.trod_bool Yba.underlying4 t0
  obtain ⟨b1, hb1, _⟩ := DataW.trod_bool Yba.underlying4 t1
  obtain ⟨d, hd, hdo⟩ := open_dg t2
  have i4 := open_id t4
  obtain ⟨u7, hu7, e7⟩ := take_one (cs := cs) (o := 7) (by omega)
  obtain ⟨u28, hu28, e28⟩ := take_one (cs := cs) (o := 28) (by omega)
  rw [hu7] at t3
  rw [hu28] at t5
  haveI : Inhabited Dg := ⟨⟨0, 0, 0, 0, 0⟩⟩
  haveI : Inhabited Sm := ⟨⟨[], 0, [], false, 0⟩⟩
  obtain ⟨spA, sp, spC, hspv, _, hspo, _, hspr⟩ := open_list (α := Dg) (R := fun d cs => cs = d.cells) (Ok := Dg.Ok) Yba.underlying104 cells103 (by decide) (fun fuel cs x h => open_dg h) t3
  obtain ⟨stA, st, stC, hstv, _, hsto, _, hstr⟩ := open_list (α := Sm) (R := fun d cs => cs = d.cells) (Ok := Sm.Ok) Yba.underlying105 cells118 (by decide) (fun fuel cs x h => open_sm h) t5
  have e0 := piece hb0
  have e1 := piece hb1
  refine ⟨⟨b0, b1, d, sp, (cs.drop 8).take 20, st⟩, ⟨spA, spC, stA, stC, ?_, reads_of hspr, reads_of hstr⟩, ⟨hdo, hspo, i4, hsto⟩⟩
  have hdc : d.cells.length = 5 := rfl
  refine List.ext_getElem? fun i => ?_
  simp only [ptCells]
  by_cases h0 : i = 0
  · subst h0; simpa using e0
  by_cases h1 : i = 1
  · subst h1; simpa using e1
  obtain ⟨k, rfl⟩ : ∃ k, i = k + 2 := ⟨i - 2, by omega⟩
  rw [List.getElem?_cons_succ, List.getElem?_cons_succ]
  by_cases h2 : k < 5
  · rw [List.getElem?_append_left (by omega), ← hd, List.getElem?_take, if_pos h2, List.getElem?_drop, Nat.add_comm]
  · rw [List.getElem?_append_right (by omega), hdc]
    by_cases h3 : k = 5
    · subst h3; rw [e7, hspv]; rfl
    · obtain ⟨j, rfl⟩ : ∃ j, k = j + 6 := ⟨k - 6, by omega⟩
      rw [show j + 6 - 5 = j + 1 by omega, List.getElem?_cons_succ]
      by_cases h4 : j < 20
      · rw [List.getElem?_append_left (by rw [i4.len]; omega), List.getElem?_take, if_pos h4, List.getElem?_drop]
        congr 1; omega
      · rw [List.getElem?_append_right (by rw [i4.len]; omega), i4.len]
        by_cases h5 : j = 20
        · subst h5; rw [e28, hstv]; rfl
        · rw [List.getElem?_eq_none (by omega), List.getElem?_eq_none (by simp; omega)]

/-- THE PARTS, opened. -/
theorem open_pts {fuel : Nat} {c : Value} {x : DataW H × List MemPlace} (h : DataW.trod enc Yba.prog W base spare held fuel 100 [c] = some x) :
    ∃ (a : Option Addr) (ps : List Pt) (cap : Nat), c = .slice a ps.length cap ∧ ps.length ≤ maxLen ∧ (∀ p ∈ ps, p.Ok0) ∧ (a = none → ps = [] ∧ cap = 0) ∧ RowsAt (PtRow W.heap.size) W.heap.size W a 29 ps := by
  haveI : Inhabited Pt := ⟨⟨false, false, ⟨0, 0, 0, 0, 0⟩, [], [], []⟩⟩
  obtain ⟨a, ps, cap, e, hl, ho, hn, hr⟩ := open_list (α := Pt) (R := PtRow W.heap.size W) (Ok := Pt.Ok0) Yba.underlying100 cells107 (by decide) (fun fuel cs x h => open_pt h) h
  refine ⟨a, ps, cap, e, hl, ho, hn, fun hne => ?_⟩
  obtain ⟨b, o, ha, hb, hc⟩ := hr hne
  exact ⟨b, o, ha, ⟨hb, Or.inl hb⟩, hc⟩

/-- THE PREFIX, opened. -/
theorem open_pre {fuel : Nat} {c : Value} {x : DataW H × List MemPlace} (h : DataW.trod enc Yba.prog W base spare held fuel 23 [c] = some x) :
    ∃ (a : Option Addr) (zs : List Int) (cap : Nat), c = .slice a zs.length cap ∧ zs.length ≤ maxLen ∧ PreAt W.heap.size W a zs := by
  obtain ⟨a, zs, cap, e, hl, _, _, hr⟩ := open_list (α := Int) (R := fun z cs => cs = [.int .u8 z]) (Ok := fun _ => True) Yba.underlying23 cells5 (by decide) (fun fuel cs x h => by
    obtain ⟨z, hz, _, _⟩ := DataW.trod_int Yba.underlying5 h
    exact ⟨z, hz, trivial⟩) h
  refine ⟨a, zs, cap, e, hl, fun h0 => ?_⟩
  obtain ⟨b, o, ha, hb, hc⟩ := hr (fun e0 => by rw [e0] at h0; cases h0)
  refine ⟨b, o, ha, hb, fun j u hu => ?_⟩
  rw [zV, List.getElem?_map] at hu
  obtain ⟨z, hz, rfl⟩ := Option.map_eq_some_iff.1 hu
  obtain ⟨cs, rfl, hr2⟩ := hc j z hz
  have := hr2 0 _ rfl
  simpa using this
end
end Go.Proofs.Ybulkdfdc
