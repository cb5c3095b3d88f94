import Derived.Test.YbulkdfeeGreatDoorGroup
namespace Go.Proofs.YbulkdfeeGreatDoor
open Go.ChangeShapes Go.WideShapes Go.ChangeAt Go.RowKit
set_option linter.unusedVariables false
set_option linter.unusedSimpArgs false

/-- The starts, summed up to 'i'. -/
def cf (ks : List Nat) (i j : Nat) : Int := if j ≤ i then (pre ks j : Int) else ((ks.count (j - 1) : Nat) : Int)
theorem cf_le (ks : List Nat) (i j : Nat) : 0 ≤ cf ks i j ∧ cf ks i j ≤ ks.length := by
  unfold cf
  have h1 := pre_le ks j
  have h2 := count_le ks (j - 1)
  split <;> constructor <;> omega
theorem cf_step (ks : List Nat) (i : Nat) : cf ks i (i + 1) + cf ks i i = (pre ks (i + 1) : Int) := by
  unfold cf
  rw [if_neg (by omega), if_pos (Nat.le_refl _), pre_succ, Nat.add_sub_cancel]; omega
theorem cf_succ (ks : List Nat) (i j : Nat) : (if j = i + 1 then (pre ks (i + 1) : Int) else cf ks i j) = cf ks (i + 1) j := by
  unfold cf
  by_cases e : j = i + 1
  · subst e; simp
  · rw [if_neg e]
    by_cases h : j ≤ i
    · rw [if_pos h, if_pos (by omega)]
    · rw [if_neg h, if_neg (by omega)]

theorem size_set_drew (w : World) (a : Addr) (v : Value) : (w.setCell a v).drew.heap.size = w.heap.size := by simp

structure GS (B : Nat) (w : World) (gg gs T : Nat) (nx : Value) (f : Nat → Int) (wq : World) : Prop where
  bel : Below B w wq
  row : CB wq gg 71 [.slice (some ⟨gs, 0, none⟩) (T + 1) (T + 1), nx]
  st : FB wq gs (T + 1) f
  keep : ∀ k, k < w.heap.size → k ≠ gg → k ≠ gs → wq.heap[k]? = w.heap[k]?
theorem heap_set_ne (w : World) {g i k : Nat} (v : Value) (h : g ≠ k) : (w.setCell ⟨g, i, none⟩ v).heap[k]? = w.heap[k]? := by
  simp [World.setCell, Array.getElem?_modify, h]

set_option maxHeartbeats 1000000 in
set_option maxRecDepth 20000 in
theorem counted18 (B gg gs T : Nat) (hT : 1 ≤ T ∧ T ≤ 16) (ks : List Nat) (hk : ∀ k ∈ ks, k < T) (hl : ks.length ≤ 77100) (w : World) (hB : B ≤ w.heap.size) (hgg : B ≤ gg) (hgs : B ≤ gs)
    (hg : CB w gg 71 [.slice (some ⟨gs, 0, none⟩) (T + 1) (T + 1), .slice none 0 0]) (hs : FB w gs (T + 1) (cf ks 0)) :
    Calls Ybaz.prog 18 #[.pointer (some ⟨gg, 0, none⟩)] w fun e w' => e = .returned (.int .i64 ks.length) ∧ ∃ gn cap, GS B w gg gs T (.slice (some ⟨gn, 0, none⟩) T cap) (fun j => (pre ks j : Int)) w' ∧ PB w' gn T (fun j => (pre ks j : Int)) ∧ w.heap.size ≤ gn := by
  obtain ⟨T1, T2⟩ := hT
  have hne : gs ≠ gg := CB.apart hs hg (by decide)
  have S0 : Hid (GS B w gg gs T (.slice none 0 0) (cf ks 0) w) := ⟨Below.refl _ _, hg, hs, fun _ _ _ _ => rfl⟩
  clear hg hs
  have c0 : w.cell? ⟨gg, 0, none⟩ = some (.slice (some ⟨gs, 0, none⟩) (T + 1) (T + 1)) := S0.out.row.cell rfl
  go_enter Ybaz.func18, Ybaz.ntmps18
  go_wp2_with fail
  go_loopw [4, 12] (fun v4 v12 wq => ∃ i : Nat, i ≤ T ∧ v12 = .int .i64 i ∧ GS B w gg gs T (.slice none 0 0) (cf ks i) wq ∧ wq.heap.size = w.heap.size) (fun _ v12 _ => T - (intOf v12).toNat)
  case atStart => exact ⟨0, by omega, rfl, S0.out, rfl⟩
  case round =>
    obtain ⟨i, hi, rfl, hS, hz⟩ := hrel
    have S1 : Hid (GS B w gg gs T (.slice none 0 0) (cf ks i) wr) := hS
    have HZ : Hid (wr.heap.size = w.heap.size) := hz
    clear hS hz
    have c1 : wr.cell? ⟨gg, 0, none⟩ = some (.slice (some ⟨gs, 0, none⟩) (T + 1) (T + 1)) := S1.out.row.cell rfl
    by_cases hil : i < T
    · have hil' : (i : Int) < (T : Int) := by omega
      have d1 : wr.cell? ⟨gs, i, none⟩ = some (.int .i64 (cf ks i i)) := S1.out.st.cell (by omega)
      have d2 : wr.cell? ⟨gs, i + 1, none⟩ = some (.int .i64 (cf ks i (i + 1))) := S1.out.st.cell (by omega)
      have f2 : wr.frozen? ⟨gs, i + 1, none⟩ = false := CB.froz S1.out.st
      obtain ⟨x1, x2⟩ := cf_le ks i i
      obtain ⟨y1, y2⟩ := cf_le ks i (i + 1)
      have h1 : (i : Int) < ((T + 1 : Nat) : Int) := by omega
      have h2 : (i : Int) + 1 < ((T + 1 : Nat) : Int) := by omega
      have S2 : Hid (GS B w gg gs T (.slice none 0 0) (cf ks (i + 1)) (wr.setCell ⟨gs, i + 1, none⟩ (.int .i64 (cf ks i (i + 1) + cf ks i i))).drew) := by
        refine ⟨(S1.out.bel.setCell hgs _).drew, CB.drew (S1.out.row.other hne), CB.drew ?_, fun k hk h1 h2 => (heap_set_ne wr _ (fun e => h2 e.symm)).trans (S1.out.keep k hk h1 h2)⟩
        have h0 := S1.out.st.set (i + 1) (cf ks i (i + 1) + cf ks i i)
        rw [cf_step] at h0 ⊢
        exact h0.congr fun j _ => cf_succ ks i j
      have HZ2 : Hid ((wr.setCell ⟨gs, i + 1, none⟩ (.int .i64 (cf ks i (i + 1) + cf ks i i))).drew.heap.size = w.heap.size) := (size_set_drew _ _ _).trans HZ.out
      go_wp2_with fail
      go_region
      go_wp2_with fail
      go_roundw
      case rel => exact ⟨i + 1, by omega, by simp, S2.out, HZ2.out⟩
      case measure => simp [intOf]; omega
    · obtain rfl : i = T := by omega
      have d1 : wr.cell? ⟨gs, i, none⟩ = some (.int .i64 (cf ks i i)) := S1.out.st.cell (by omega)
      have F1 : Hid (FB wr gs (i + 1) (fun j => (pre ks j : Int))) := S1.out.st.congr fun j hj => by unfold cf; rw [if_pos (by omega)]
      go_wp2_with fail
      refine (clone41 gs i (i + 1) (fun j => (pre ks j : Int)) T2 wr (by obtain ⟨c, h1, h2⟩ := F1.out.pb; exact ⟨c, h1, fun j hj => h2 j (by omega)⟩)).mono ?_
      rintro e w3 ⟨gn, cap, rfl, hP, hgn, hB3⟩
      have hgw : gg < wr.heap.size := S1.out.row.lt
      have R3 : Hid (CB w3 gg 71 [.slice (some ⟨gs, 0, none⟩) (i + 1) (i + 1), .slice none 0 0]) := S1.out.row.below hB3 hgw
      have F3 : Hid (FB w3 gs (i + 1) (fun j => (pre ks j : Int))) := F1.out.below hB3 F1.out.lt
      have P3 : Hid (PB w3 gn i (fun j => (pre ks j : Int))) := hP
      have HGN : Hid (wr.heap.size ≤ gn) := hgn
      have hgne : gg ≠ gn := by omega
      have B3 : Hid (Below B w w3) := S1.out.bel.trans (hB3.mono (by rw [HZ.out]; exact hB))
      have HB3 : Hid (Below wr.heap.size wr w3) := hB3
      clear hP hgn hB3
      have k1 : w3.cell? ⟨gg, 1, none⟩ = some (.slice none 0 0) := R3.out.cell rfl
      have q1 : w3.frozen? ⟨gg, 1, none⟩ = false := R3.out.froz
      have k0 : (w3.setCell ⟨gg, 1, none⟩ (.slice (some ⟨gn, 0, none⟩) i cap)).cell? ⟨gg, 0, none⟩ = some (.slice (some ⟨gs, 0, none⟩) (i + 1) (i + 1)) := (R3.out.set (i := 1)).cell rfl
      have kT : (w3.setCell ⟨gg, 1, none⟩ (.slice (some ⟨gn, 0, none⟩) i cap)).cell? ⟨gs, i, none⟩ = some (.int .i64 (pre ks i : Int)) := (CB.other F3.out hne.symm).cell (get_fcells _ (by omega))
      have HE : Hid (GS B w gg gs i (.slice (some ⟨gn, 0, none⟩) i cap) (fun j => (pre ks j : Int)) (w3.setCell ⟨gg, 1, none⟩ (.slice (some ⟨gn, 0, none⟩) i cap))) := ⟨B3.out.setCell hgg _, R3.out.set (i := 1), CB.other F3.out hne.symm, fun k hk h1 h2 => (heap_set_ne w3 _ (fun e => h1 e.symm)).trans ((HB3.out.block k (by rw [HZ.out]; exact hk)).trans (S1.out.keep k hk h1 h2))⟩
      have HP : Hid (PB (w3.setCell ⟨gg, 1, none⟩ (.slice (some ⟨gn, 0, none⟩) i cap)) gn i (fun j => (pre ks j : Int))) := P3.out.other hgne
      go_wp2_with fail
      go_ret
      exact ⟨by rw [pre_top hk]; rfl, gn, cap, HE.out, HP.out, by rw [← HZ.out]; exact HGN.out⟩

/-! ### groupBy -/
def pos (ks : List Nat) (i : Nat) : Nat := pre ks (ks.getD i 0) + (ks.take i).count (ks.getD i 0)
theorem count_take_lt {ks : List Nat} {i i' k : Nat} (hi : ks[i]? = some k) (h : i < i') : (ks.take i).count k < (ks.take i').count k := by
  have h1 : ks.take (i + 1) = ks.take i ++ [k] := by rw [List.take_add_one, hi]; rfl
  have h2 : (ks.take (i + 1)).count k = (ks.take i).count k + 1 := by rw [h1]; simp
  have h3 : (ks.take (i + 1)).count k ≤ (ks.take i').count k := by
    have : ks.take (i + 1) = (ks.take i').take (i + 1) := by rw [List.take_take, Nat.min_eq_left (by omega)]
    rw [this]
    exact (List.take_sublist _ _).count_le _
  omega
theorem count_take_all {ks : List Nat} {i k : Nat} (hi : ks[i]? = some k) : (ks.take i).count k < ks.count k := by
  have hl : i < ks.length := (List.getElem?_eq_some_iff.1 hi).1
  have := count_take_lt hi hl
  rwa [List.take_length] at this
theorem getD_of {ks : List Nat} {i k : Nat} (hi : ks[i]? = some k) : ks.getD i 0 = k := by simp [List.getD, hi]
theorem pos_eq {ks : List Nat} {i k : Nat} (hi : ks[i]? = some k) : pos ks i = pre ks k + (ks.take i).count k := by unfold pos; rw [getD_of hi]
theorem pos_lt {ks : List Nat} {i k : Nat} (hi : ks[i]? = some k) : pos ks i < pre ks (k + 1) := by
  rw [pos_eq hi, pre_succ]
  have := count_take_all hi
  omega
theorem pos_len {ks : List Nat} {i : Nat} (hi : i < ks.length) : pos ks i < ks.length :=
  Nat.lt_of_lt_of_le (pos_lt (List.getElem?_eq_getElem hi)) (pre_le _ _)
theorem pos_ne {ks : List Nat} {i i' : Nat} (hi : i < i') (hi' : i' < ks.length) : pos ks i ≠ pos ks i' := by
  have e := List.getElem?_eq_getElem (show i < ks.length by omega)
  have e' := List.getElem?_eq_getElem hi'
  have p1 := pos_lt e
  have p2 := pos_lt e'
  rcases Nat.lt_trichotomy ks[i] ks[i'] with h | h | h
  · have := pre_mono (ks := ks) (show ks[i] + 1 ≤ ks[i'] by omega)
    have := pos_eq e'
    omega
  · have q1 := pos_eq e
    have q2 := pos_eq e'
    rw [h] at q1 e
    have := count_take_lt e hi
    omega
  · have := pre_mono (ks := ks) (show ks[i'] + 1 ≤ ks[i] by omega)
    have := pos_eq e
    omega
/-- What next holds once 'p' keys are placed. -/
def nf (ks : List Nat) (p j : Nat) : Int := ((pre ks j + (ks.take p).count j : Nat) : Int)
theorem nf_zero (ks : List Nat) (j : Nat) : nf ks 0 j = (pre ks j : Int) := by simp [nf]
theorem nf_at {ks : List Nat} {p k : Nat} (h : ks[p]? = some k) : nf ks p k = (pos ks p : Int) := by rw [pos_eq h]; rfl
theorem nf_succ {ks : List Nat} {p k : Nat} (h : ks[p]? = some k) (j : Nat) : (if j = k then nf ks p k + 1 else nf ks p j) = nf ks (p + 1) j := by
  unfold nf
  rw [List.take_add_one, h]
  by_cases e : j = k
  · subst e; simp; omega
  · have e' : ¬ k = j := fun h => e h.symm
    rw [if_neg e]; simp [List.count_cons, e']
theorem c0f {ks : List Nat} {p k : Nat} (h : ks[p]? = some k) (j : Nat) : (if j = k + 1 then cf (ks.take p) 0 (k + 1) + 1 else cf (ks.take p) 0 j) = cf (ks.take (p + 1)) 0 j := by
  unfold cf
  by_cases e : j = k + 1
  · subst e
    rw [if_pos rfl, if_neg (by omega), if_neg (by omega), List.take_add_one, h]; simp
  · rw [if_neg e]
    by_cases e0 : j ≤ 0
    · obtain rfl : j = 0 := by omega
      simp [pre_zero]
    · rw [if_neg e0, if_neg e0, List.take_add_one, h]
      have : ¬ k = j - 1 := by omega
      simp [List.count_cons, this]
theorem sz30 : (Ybaz.prog.info? 30).map (·.size) = some 2 := by kernel_rfl

end Go.Proofs.YbulkdfeeGreatDoor
