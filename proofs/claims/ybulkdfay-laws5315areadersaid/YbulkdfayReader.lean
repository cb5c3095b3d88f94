import Derived.Test.YbulkdfayWalks
import Derived.WalkSmall
namespace Go.Proofs.Ybulkdfay
open Go.ChangeShapes Go.WideShapes Go.ChangeAt Go.RowKit
set_option linter.unusedVariables false
set_option linter.unusedSimpArgs false

theorem bcell {W w1 : World} (hb : Below W.heap.size W w1) : (∀ b o, b < W.heap.size → w1.cell? ⟨b, o, none⟩ = W.cell? ⟨b, o, none⟩) ∧ (∀ b o, b < W.heap.size → w1.frozen? ⟨b, o, none⟩ = W.frozen? ⟨b, o, none⟩) :=
  ⟨fun b o h => hb.cell (p := ⟨b, o, none⟩) h, fun b o h => hb.frozen (p := ⟨b, o, none⟩) h⟩

/-- '(*Message).reader' where 'offsetIn' says no. -/
theorem mreader_no (gm : Nat) (ma : Option Addr) (ml mc : Nat) (pa : Option Addr) (pl pc : Nat) (w : World) (hlt : gm < w.heap.size) (hm : w.cell? ⟨gm, 4, none⟩ = some (.slice ma ml mc))
    (hoff : ∀ W, Below w.heap.size w W → Calls Yba.prog 9 #[.slice ma ml mc, .slice pa pl pc] W fun e w' => e = .returned (.tuple #[.int .i64 0, .bool false]) ∧ ∃ nq, w' = W.drewN nq) :
    Calls Yba.prog 8 #[.pointer (some ⟨gm, 0, none⟩), .slice pa pl pc] w fun e w' => e = .returned (.agg #[.slice pa pl pc, .slice none 0 0, .int .i64 0, .int .i64 0, .int .i64 0]) ∧ Below w.heap.size w w' := by
  have H : Hid _ := hoff
  clear hoff
  go_enter Yba.func8, Yba.ntmps8
  go_wp2_with fail
  refine (H.out _ ?_).mono ?_
  · exact ((Below.refl _ _).alloc (Nat.le_refl _) _).alloc (by simp) _
  rintro e w1 ⟨rfl, nq, rfl⟩
  go_wp2
  refine bodyPost_ret (v := .agg #[.slice pa pl pc, .slice none 0 0, .int .i64 0, .int .i64 0, .int .i64 0]) (by simp [results, Yba.results8, go_sem]) rfl ⟨rfl, ?_⟩
  repeat (refine Below.setCell ?_ (by simp) _)
  refine below_drewN ?_ _
  exact ((Below.refl _ _).alloc (Nat.le_refl _) _).alloc (by simp) _

theorem mreader_yes (gm : Nat) (ma : Option Addr) (ml mc : Nat) (pa : Option Addr) (pl pc : Nat) (i : Int) (w : World) (hlt : gm < w.heap.size) (hm : w.cell? ⟨gm, 4, none⟩ = some (.slice ma ml mc))
    (hoff : ∀ W, Below w.heap.size w W → Calls Yba.prog 9 #[.slice ma ml mc, .slice pa pl pc] W fun e w' => e = .returned (.tuple #[.int .i64 i, .bool true]) ∧ ∃ nq, w' = W.drewN nq) :
    Calls Yba.prog 8 #[.pointer (some ⟨gm, 0, none⟩), .slice pa pl pc] w fun e w' => e = .returned (.agg #[.slice pa pl pc, .slice ma ml mc, .int .i64 i, .int .i64 0, .int .i64 0]) ∧ Below w.heap.size w w' := by
  have H : Hid _ := hoff
  clear hoff
  go_enter Yba.func8, Yba.ntmps8
  go_wp2_with fail
  refine (H.out _ ?_).mono ?_
  · exact ((Below.refl _ _).alloc (Nat.le_refl _) _).alloc (by simp) _
  rintro e w1 ⟨rfl, nq, rfl⟩
  go_wp2
  refine bodyPost_ret (v := .agg #[.slice pa pl pc, .slice ma ml mc, .int .i64 i, .int .i64 0, .int .i64 0]) (by simp [results, Yba.results8, go_sem]) rfl ⟨rfl, ?_⟩
  repeat (refine Below.setCell ?_ (by simp) _)
  refine below_drewN ?_ _
  exact ((Below.refl _ _).alloc (Nat.le_refl _) _).alloc (by simp) _

/-- 'Text.reader' of a text of no message. -/
theorem treader_nil (hd : Bool) (ra : Option Addr) (rl rc : Nat) (pa : Option Addr) (pl pc : Nat) (w : World) :
    Calls Yba.prog 6 #[.agg #[.pointer none, .bool hd, .slice ra rl rc], .slice pa pl pc] w fun e w' => e = .returned (.agg #[.slice pa pl pc, .slice none 0 0, .int .i64 0, .int .i64 0, .int .i64 0]) ∧ Below w.heap.size w w' := by
  go_enter Yba.func6, Yba.ntmps6
  go_wp2_with fail
  refine bodyPost_ret (v := .agg #[.slice pa pl pc, .slice none 0 0, .int .i64 0, .int .i64 0, .int .i64 0]) (by simp [results, Yba.results6, go_sem]) rfl ⟨rfl, ?_⟩
  repeat (refine Below.setCell ?_ (by simp) _)
  exact ((Below.refl _ _).alloc (Nat.le_refl _) _).alloc (by simp) _

/-- 'Text.reader' of a text of a message: what the message's reader says. -/
theorem treader_some (g : Nat) (hd : Bool) (ra : Option Addr) (rl rc : Nat) (pa : Option Addr) (pl pc : Nat) (ma : Option Addr) (ml mc : Nat) (i : Int) (w : World)
    (hr : ∀ W, Below w.heap.size w W → Calls Yba.prog 8 #[.pointer (some ⟨g, 0, none⟩), .slice pa pl pc] W fun e w' => e = .returned (.agg #[.slice pa pl pc, .slice ma ml mc, .int .i64 i, .int .i64 0, .int .i64 0]) ∧ Below W.heap.size W w') :
    Calls Yba.prog 6 #[.agg #[.pointer (some ⟨g, 0, none⟩), .bool hd, .slice ra rl rc], .slice pa pl pc] w fun e w' => e = .returned (.agg #[.slice pa pl pc, .slice ma ml mc, .int .i64 i, .int .i64 0, .int .i64 0]) ∧ Below w.heap.size w w' := by
  have H : Hid _ := hr
  clear hr
  go_enter Yba.func6, Yba.ntmps6
  go_wp2_with fail
  refine (H.out _ ?_).mono ?_
  · exact ((Below.refl _ _).alloc (Nat.le_refl _) _).alloc (by simp) _
  rintro e w1 ⟨rfl, hb⟩
  obtain ⟨hc, hf⟩ := bcell hb
  have hz : w.heap.size + 1 < w1.heap.size := by have := hb.size; simp at this; omega
  have HB : Hid _ := hb
  clear hb
  go_wp2_with fail
  refine bodyPost_ret (v := .agg #[.slice pa pl pc, .slice ma ml mc, .int .i64 i, .int .i64 0, .int .i64 0]) (by simp [results, Yba.results6, go_sem, hc, hz]) rfl ⟨rfl, ?_⟩
  repeat (refine Below.setCell ?_ (by simp) _)
  exact (((Below.refl _ _).alloc (Nat.le_refl _) _).alloc (by simp) _).trans (HB.out.mono (by simp; omega))
end Go.Proofs.Ybulkdfay
