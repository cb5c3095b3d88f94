import Derived.Test.YbulkdfdcOpen2
import Derived.Test.YbulkdfdcOwnB
namespace Go.Proofs.Ybulkdfdc
open Go.ChangeShapes Go.WideShapes Go.ChangeAt Go.RowKit Go.Deep
set_option linter.unusedVariables false
set_option linter.unusedSimpArgs false

theorem cells23 : Yba.prog.cellsOf 23 = 1 := by kernel_rfl
theorem cells96 : Yba.prog.cellsOf 96 = 4 := by kernel_rfl
section
variable {H : Type} {enc : TypeId × Value → H} {W : World} {base : Nat} {spare : Nat → Bool} {held : Bool}

theorem open_preC {fuel : Nat} {c : Value} {x : DataW H × List MemPlace} (h : DataW.trod enc Yba.prog W base spare held fuel 23 [c] = some x) :
    ∃ (a : Option Addr) (zs : List Int) (cap : Nat), c = .slice a zs.length cap ∧ zs.length ≤ cap ∧ cap ≤ maxLen ∧ PreAt W.heap.size W a zs := by
  obtain ⟨a, zs, cap, e, hl, hp⟩ := open_pre h
  subst e
  rcases open_slice Yba.underlying23 h with ⟨hcs, _⟩ | ⟨y, l, c', m, n, D, Pl, hcs, _, hl', hm, _⟩
  · simp only [List.cons.injEq, and_true, Value.slice.injEq] at hcs
    exact ⟨a, zs, cap, rfl, by omega, by omega, hp⟩
  · simp only [List.cons.injEq, and_true, Value.slice.injEq] at hcs
    exact ⟨a, zs, cap, rfl, by omega, by omega, hp⟩

set_option maxRecDepth 100000 in
theorem open_hd {fuel : Nat} {cs : List Value} {x : DataW H × List MemPlace} (h : DataW.trod enc Yba.prog W base spare held fuel 96 cs = some x) : ∃ d : Hd, cs = d.cells ∧ d.Ok W := by
  obtain ⟨xs, n, _, _, hl, hxl, hx⟩ := DataW.trod_struct Yba.underlying96 h
  rw [cells96] at hl
  have t0 : DataW.trod enc Yba.prog W base spare held n 5 ((cs.drop 0).take (Yba.prog.cellsOf 5)) = xs[0]? := hx 0 _ rfl
  have t1 : DataW.trod enc Yba.prog W base spare held n 23 ((cs.drop 1).take (Yba.prog.cellsOf 23)) = xs[1]? := hx 1 _ rfl
  have t2 : DataW.trod enc Yba.prog W base spare held n 23 ((cs.drop 2).take (Yba.prog.cellsOf 23)) = xs[2]? := hx 2 _ rfl
  have t3 : DataW.trod enc Yba.prog W base spare held n 4 ((cs.drop 3).take (Yba.prog.cellsOf 4)) = xs[3]? := hx 3 _ rfl
  have h5 : xs.length = 4 := hxl
  rw [List.getElem?_eq_getElem (show 0 < xs.length by omega), cells5] at t0
  rw [List.getElem?_eq_getElem (show 1 < xs.length by omega), cells23] at t1
  rw [List.getElem?_eq_getElem (show 2 < xs.length by omega), cells23] at t2
  rw [List.getElem?_eq_getElem (show 3 < xs.length by omega), cells4] at t3
  match cs, hl with
  | [c0, c1, c2, c3], _ =>
    simp only [List.drop_zero, List.take_succ_cons, List.take_zero, List.drop_succ_cons] at t0 t1 t2 t3
    obtain ⟨z, hz, _, hw⟩ := DataW.trod_int Yba.underlying5 t0
    obtain ⟨ak, zk, ck, e1, k1, k2, pk⟩ := open_preC t1
    obtain ⟨av, zv, cv, e2, v1, v2, pv⟩ := open_preC t2
    obtain ⟨b, hb, _⟩ := DataW.trod_bool Yba.underlying4 t3
    have hb8 := bounds_u8 hw
    simp only [List.cons.injEq, and_true] at hz hb
    subst hz hb e1 e2
    refine ⟨⟨z.toNat, ak, zk.length, ck, av, zv.length, cv, b⟩, ?_, ⟨by show z.toNat ≤ 255; omega, ⟨k1, k2⟩, ⟨v1, v2⟩, ⟨zk, rfl, pk⟩, ⟨zv, rfl, pv⟩⟩⟩
    simp only [Hd.cells]
    rw [Int.toNat_of_nonneg hb8.1]

theorem open_hds {fuel : Nat} {c : Value} {x : DataW H × List MemPlace} (h : DataW.trod enc Yba.prog W base spare held fuel 94 [c] = some x) :
    ∃ (a : Option Addr) (hs : List Hd) (cap : Nat), c = .slice a hs.length cap ∧ hs.length ≤ maxLen ∧ ∀ i d, hs[i]? = some d → d.Ok W ∧ ∃ b o, a = some ⟨b, o, none⟩ ∧ b < W.heap.size ∧ W.rangeAt b (o + i * 4) d.cells := by
  haveI : Inhabited Hd := ⟨⟨0, none, 0, 0, none, 0, 0, false⟩⟩
  obtain ⟨a, hs, cap, e, hl, ho, _, hr⟩ := open_list (α := Hd) (R := fun d cs => cs = d.cells) (Ok := Hd.Ok W) Yba.underlying94 cells96 (by decide) (fun fuel cs x h => open_hd h) h
  refine ⟨a, hs, cap, e, hl, fun i d hi => ⟨ho d (List.mem_of_getElem? hi), ?_⟩⟩
  obtain ⟨b, o, ha, hb, hc⟩ := hr (fun e0 => by rw [e0] at hi; simp at hi)
  obtain ⟨cs, rfl, hr2⟩ := hc i d hi
  exact ⟨b, o, ha, hb, hr2⟩

theorem open_ids {fuel : Nat} {c : Value} {x : DataW H × List MemPlace} (h : DataW.trod enc Yba.prog W base spare held fuel 23 [c] = some x) :
    ∃ (a : Option Addr) (zs : List Nat) (cap : Nat), c = .slice a zs.length cap ∧ zs.length ≤ maxLen ∧ (∀ z ∈ zs, z ≤ 255) ∧ ∀ i z, zs[i]? = some z → ∃ b o, a = some ⟨b, o, none⟩ ∧ b < W.heap.size ∧ W.cell? ⟨b, o + i, none⟩ = some (.int .u8 (z : Nat)) := by
  obtain ⟨a, zs, cap, e, hl, ho, _, hr⟩ := open_list (α := Nat) (R := fun z cs => cs = [.int .u8 (z : Nat)]) (Ok := fun z => z ≤ 255) Yba.underlying23 cells5 (by decide) (fun fuel cs x h => by
    obtain ⟨z, hz, _, hw⟩ := DataW.trod_int Yba.underlying5 h
    have hb8 := bounds_u8 hw
    exact ⟨z.toNat, by rw [hz, Int.toNat_of_nonneg hb8.1], by omega⟩) h
  refine ⟨a, zs, cap, e, hl, ho, fun i z hi => ?_⟩
  obtain ⟨b, o, ha, hb, hc⟩ := hr (fun e0 => by rw [e0] at hi; simp at hi)
  obtain ⟨cs, rfl, hr2⟩ := hc i z hi
  have := hr2 0 _ rfl
  exact ⟨b, o, ha, hb, by simpa using this⟩
end

set_option maxRecDepth 40000 in
theorem main_long4 (a0 : Option Addr) (n0 cap0 : Nat) (a2 : Option Addr) (n cap2 : Nat) (w : World) (hl : 1024 < n0 ∨ 1024 < n) (hm0 : n0 ≤ maxLen) (hm : n ≤ maxLen) :
    Calls Yba.prog 4 #[.slice a0 n0 cap0, .slice a2 n cap2] w fun e w' => e = .returned (.bool true) ∧ Below w.heap.size w w' := by
  unfold maxLen at hm0 hm
  by_cases h : 1024 < n0
  · go_enter Yba.func4, Yba.ntmps4
    go_wp2_with fail
    go_ret
    exact ⟨rfl, Below.refl _ _⟩
  · have h1 : 1024 < n := by omega
    have hd : decide ((1024 : Int) < (n0 : Int)) = false := decide_eq_false (by omega)
    go_enter Yba.func4, Yba.ntmps4
    go_wp2_with fail
    go_ret
    exact ⟨rfl, Below.refl _ _⟩
end Go.Proofs.Ybulkdfdc
