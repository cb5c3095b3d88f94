import Derived.Test.YbulkdfgwPeer
import Derived.Maps.AppendAt
import Derived.Lib.SliceRun
namespace Go.Proofs.Ybulkdfgw
open Go.ChangeShapes Go.WideShapes Go.ChangeAt Go.RowKit
set_option linter.unusedVariables false
set_option linter.unusedSimpArgs false

/-- A slice's address at which the numbers 'ns' lie. -/
def NumsAt (w : World) (a : Option Addr) (ns : List Int) : Prop := ∀ i z, ns[i]? = some z → ∃ g o, a = some ⟨g, o, none⟩ ∧ g < w.heap.size ∧ w.cell? ⟨g, o + i, none⟩ = some (.int .u64 z)
theorem NumsAt.below {w w' : World} {a : Option Addr} {ns : List Int} (h : NumsAt w a ns) (hB : Below w.heap.size w w') : NumsAt w' a ns := fun i z hz => by
  obtain ⟨g, o, ha, hg, hc⟩ := h i z hz
  exact ⟨g, o, ha, Nat.lt_of_lt_of_le hg hB.size, by rw [hB.cell hg]; exact hc⟩

theorem index28 (a : Option Addr) (ns : List Int) (cap : Nat) (z : Int) (hn : ns.length ≤ 1024) (w : World) (h : NumsAt w a ns) :
    Calls Yba.prog 28 #[.slice a ns.length cap, .int .u64 z] w fun e w' => (∃ k : Int, e = .returned (.int .i64 k) ∧ (0 ≤ k ↔ z ∈ ns)) ∧ w' = w := by
  obtain ⟨n, hne⟩ : ∃ n, ns.length = n := ⟨_, rfl⟩
  have HN : Hid _ := hne
  have HA : Hid (NumsAt w a ns) := h
  rw [hne] at hn ⊢
  clear h hne
  go_enter Yba.func28, Yba.ntmps28
  go_wp2_with fail
  go_loopw [8] (fun v8 wr => ∃ (i : Nat), i ≤ n ∧ v8 = .int .i64 i ∧ z ∉ ns.take i ∧ wr = w) (fun v8 _ => n - (intOf v8).toNat)
  case atStart => exact ⟨0, by omega, rfl, by simp, rfl⟩
  case round =>
    obtain ⟨i, hi, rfl, hni, rfl⟩ := hrel
    have HNI : Hid _ := hni
    clear hni
    by_cases hil : i < n
    · have hil' : (i : Int) < (n : Int) := by omega
      obtain ⟨y, hy⟩ : ∃ y, ns[i]? = some y := ⟨ns[i]'(by have := HN.out; omega), List.getElem?_eq_getElem _⟩
      obtain ⟨g, o, rfl, hg, hc⟩ := HA.out i y hy
      have HY : Hid _ := hy
      clear hy hg
      by_cases hyz : z = y
      · subst hyz
        go_wp2_with fail
        go_ret
        exact ⟨⟨_, rfl, fun _ => List.mem_of_getElem? HY.out, fun _ => by omega⟩, rfl⟩
      · have hb : (z == y) = false := by simpa using hyz
        go_wp2_with fail
        go_roundw
        case rel => exact ⟨i + 1, by omega, by simp, by
          rw [List.take_add_one, HY.out]
          intro hm
          rcases List.mem_append.1 hm with hm | hm
          · exact HNI.out hm
          · simp at hm; exact hyz hm, by first | rfl | trivial⟩
        case measure => simp [intOf]; omega
    · obtain rfl : i = n := by omega
      go_wp2_with fail
      go_ret
      refine ⟨⟨_, rfl, fun h0 => absurd h0 (by decide), fun hm => ?_⟩, rfl⟩
      have := HNI.out
      rw [List.take_of_length_le (by have := HN.out; omega)] at this
      exact absurd hm this
theorem contains24 (a : Option Addr) (ns : List Int) (cap : Nat) (z : Int) (hn : ns.length ≤ 1024) (w : World) (h : NumsAt w a ns) :
    Calls Yba.prog 24 #[.slice a ns.length cap, .int .u64 z] w fun e w' => e = .returned (.bool (decide (z ∈ ns))) ∧ w' = w := by
  have HA : Hid (NumsAt w a ns) := h
  clear h
  go_enter Yba.func24, Yba.ntmps24
  go_wp2_with fail
  refine (index28 a ns cap z hn w HA.out).mono ?_
  rintro e w1 ⟨⟨k, rfl, hk⟩, rfl⟩
  have HK : Hid _ := hk
  clear hk
  go_wp2_with fail
  go_ret
  refine ⟨?_, rfl⟩
  by_cases h0 : 0 ≤ k
  · simp [HK.out.1 h0, h0]
  · have : z ∉ ns := fun h => h0 (HK.out.2 h)
    simp [this, h0]

theorem equal18 (a b : Option Addr) (ns : List Int) (c1 c2 : Nat) (hn : ns.length ≤ 1024) (w : World) (h1 : NumsAt w a ns) (h2 : NumsAt w b ns) :
    Calls Yba.prog 18 #[.slice a ns.length c1, .slice b ns.length c2] w fun e w' => e = .returned (.bool true) ∧ Below w.heap.size w w' := by
  obtain ⟨n, hne⟩ : ∃ n, ns.length = n := ⟨_, rfl⟩
  have HN : Hid _ := hne
  have HA : Hid (NumsAt w a ns) := h1
  have HB : Hid (NumsAt w b ns) := h2
  rw [hne] at hn ⊢
  clear h1 h2 hne
  go_enter Yba.func18, Yba.ntmps18
  go_wp2_with fail
  go_loopw [13] (fun v13 wr => ∃ (i : Nat), i ≤ n ∧ v13 = .int .i64 i ∧ Below w.heap.size w wr) (fun v13 _ => n - (intOf v13).toNat)
  case atStart => exact ⟨0, by omega, rfl, Below.refl _ _⟩
  case round =>
    obtain ⟨i, hi, rfl, hbel⟩ := hrel
    have HBL : Hid (Below w.heap.size w wr) := hbel
    clear hbel
    by_cases hil : i < n
    · have hil' : (i : Int) < (n : Int) := by omega
      obtain ⟨y, hy⟩ : ∃ y, ns[i]? = some y := ⟨ns[i]'(by have := HN.out; omega), List.getElem?_eq_getElem _⟩
      obtain ⟨g, o, rfl, hg, hc⟩ := (HA.out.below HBL.out) i y hy
      obtain ⟨g', o', rfl, hg', hc'⟩ := (HB.out.below HBL.out) i y hy
      clear hy hg hg'
      go_wp2_with fail
      go_quiet (fail)
      go_wp2_with fail
      go_roundw
      case rel => exact ⟨i + 1, by omega, by simp, below_drewN HBL.out _⟩
      case measure => simp [intOf]; omega
    · obtain rfl : i = n := by omega
      go_wp2_with fail
      go_ret
      exact ⟨rfl, HBL.out⟩

theorem inf27 : (Yba.prog.info? 27).map (fun i => (i.zero, i.size, i.bytes)) = some (some (.int .u64 0), 1, 8) := by kernel_rfl
set_option maxRecDepth 20000 in
/-- slices.Clone: a new row with the same numbers; nil stays nil. -/
theorem clone14 (a : Option Addr) (ns : List Int) (cap : Nat) (hn : ns.length ≤ 1024) (w : World) (h : NumsAt w a ns) (hnil : a = none → ns = [] ∧ cap = 0) :
    Calls Yba.prog 14 #[.slice a ns.length cap] w fun e w' => ∃ a' cap', e = .returned (.slice a' ns.length cap') ∧ NumsAt w' a' ns ∧ Below w.heap.size w w' ∧ (a' = none ↔ a = none) := by
  have HA : Hid (NumsAt w a ns) := h
  clear h
  rcases a with _ | ad
  · obtain ⟨rfl, rfl⟩ := hnil rfl
    have he : (binOp .eql 75 (.slice none 0 0) (.slice none 0 0)).run Yba.prog w = .ok (.bool true) w := Go.Lib.run_eql_slice_nil w 75 27 none 0 0 0 0 Yba.underlying75
    clear hnil
    go_enter Yba.func14, Yba.ntmps14
    go_wp2_with fail
    go_ret
    exact ⟨none, 0, rfl, HA.out, Below.refl _ _, by simp⟩
  · clear hnil
    obtain ⟨n, hne⟩ : ∃ n, ns.length = n := ⟨_, rfl⟩
    have HN : Hid _ := hne
    rw [hne] at hn ⊢
    clear hne
    have he : (binOp .eql 75 (.slice (some ad) n cap) (.slice none 0 0)).run Yba.prog w = .ok (.bool false) w := Go.Lib.run_eql_slice_nil w 75 27 (some ad) n cap 0 0 Yba.underlying75
    have hbs : (Instr.buildSlice 75 0 #[]).run Yba.prog w = .ok (.slice (some ⟨w.heap.size, 0, none⟩) 0 0) (w.alloc (.cells #[] 27)) := by kernel_rfl
    obtain ⟨i27, hi27, h27a, h27b, h27c⟩ := info_parts inf27
    have HOW : Hid ((w.alloc (.cells #[] 27)).ownsRow w.heap.size 27 1 (.slice (some ⟨w.heap.size, 0, none⟩) 0 0) 0 []) :=
      ⟨rfl, Or.inr ⟨w.heap.size, 0, #[], rfl, Nat.le_refl _, heap_alloc_new _ _, Nat.le_refl _, by unfold maxLen; omega, rfl, rfl⟩⟩
    have HB1 : Hid (Below w.heap.size w (w.alloc (.cells #[] 27))) := (Below.refl _ _).alloc (Nat.le_refl _) _
    have HNW : Hid (∀ j u, (ns.map (Value.int .u64))[j]? = some u → (w.alloc (.cells #[] 27)).cell? (ad.add j) = some u) := by
      intro j u hu
      rw [List.getElem?_map] at hu
      obtain ⟨z, hz, rfl⟩ := Option.map_eq_some_iff.1 hu
      obtain ⟨g, o, ha, hg, hc⟩ := (HA.out.below HB1.out) j z hz
      simp only [Option.some.injEq] at ha
      subst ha
      have e : (⟨g, o, none⟩ : Addr).add j = ⟨g, o + j, none⟩ := by unfold Addr.add; split <;> simp_all
      rw [e]; exact hc
    have H1 : Hid (∀ u ∈ ns.map (Value.int .u64), u.oneCell' = true) := by intro u hu; obtain ⟨z, _, rfl⟩ := List.mem_map.1 hu; rfl
    go_enter Yba.func14, Yba.ntmps14
    go_wp2_with (refine gate (some 7) rfl ?_; refine wpList_append_own_at (w.alloc (.cells #[] 27)) rfl (.tmp 5) (.tmp 6) 75 rfl w.heap.size 27 i27 (.int .u64 0) 1 8 Yba.underlying75 hi27 h27a h27b h27c rfl (by decide) (.slice (some ⟨w.heap.size, 0, none⟩) 0 0) 0 [] rfl HOW.out ad n cap (ns.map (Value.int .u64)) rfl (by rw [List.length_map, HN.out]; omega) HNW.out H1.out (by unfold maxLen; omega) (by omega) (by simp) ?_)
    intro v5 w5 hO5 hG5 hne5 hL5
    obtain ⟨g5, cap5, rfl, hcells⟩ : ∃ g5 cap5, v5 = .slice (some ⟨g5, 0, none⟩) n cap5 ∧ (g5 < w5.heap.size ∧ ∀ j u, (ns.map (Value.int .u64))[j]? = some u → w5.cell? ⟨g5, j, none⟩ = some u) := by
      rcases hO5.2 with ⟨h0, _⟩ | ⟨g, c, cur, h0, hr⟩
      · exact absurd h0 hne5
      · refine ⟨g, c, h0, ?_⟩
        subst h0
        refine ⟨(Array.getElem?_eq_some_iff.1 hr.2.1).1, fun j u hu => ?_⟩
        have := World.ownsRow.cells hO5 (g := g) rfl j u hu
        have e : (⟨g, 0, none⟩ : Addr).add j = ⟨g, j, none⟩ := by unfold Addr.add; split <;> simp_all
        rw [e] at this; exact this
    have HC : Hid _ := hcells
    have HBF : Hid (Below w.heap.size w w5) := HB1.out.grown hG5 (by simp) (fun q hq => by simp [Value.ownBlock] at hq; omega)
    clear hO5 hG5 hne5 hL5 hcells
    go_wp2_with fail
    go_ret
    refine ⟨_, _, rfl, fun i z hz => ⟨g5, 0, rfl, HC.out.1, ?_⟩, HBF.out, by simp⟩
    have := HC.out.2 i (.int .u64 z) (by rw [List.getElem?_map, hz]; rfl)
    simpa using this
end Go.Proofs.Ybulkdfgw
