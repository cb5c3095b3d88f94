import Derived.Test.YbulkdfeeGreatDoorBase
namespace Go.Proofs.YbulkdfeeGreatDoor
open Go.ChangeShapes Go.WideShapes Go.ChangeAt Go.RowKit
set_option linter.unusedVariables false
set_option linter.unusedSimpArgs false

/-! ### zzs5321bfrom -/
def frm (T v : Nat) : Int := if v % (T + 2) = 0 then -2 else if v % (T + 2) = 1 then -1 else ((v % (T + 2) : Nat) : Int) - 2
theorem frm_lo (T v : Nat) : -2 ≤ frm T v := by unfold frm; split; · omega
                                                split <;> omega
theorem frm_hi (T v : Nat) (hT : 1 ≤ T) : frm T v < T := by
  have : v % (T + 2) < T + 2 := Nat.mod_lt _ (by omega)
  unfold frm; split; · omega
  split <;> omega
theorem tmod_nat (a b : Nat) : Int.tmod (a : Int) (b : Int) = ((a % b : Nat) : Int) := rfl
set_option maxHeartbeats 1000000 in
theorem from4 (v T : Nat) (hv : v ≤ 255) (hT : 1 ≤ T ∧ T ≤ 16) (w : World) :
    Calls Ybaz.prog 4 #[.int .u8 v, .int .i64 T] w fun e w' => e = .returned (.int .i64 (frm T v)) ∧ w' = w := by
  obtain ⟨m, hm⟩ : ∃ m, m = v % (T + 2) := ⟨_, rfl⟩
  have hlt : m < T + 2 := by rw [hm]; exact Nat.mod_lt _ (by omega)
  have hf : Hid (frm T v = if m = 0 then -2 else if m = 1 then -1 else (m : Int) - 2) := by
    show frm T v = _
    unfold frm; rw [hm]
  have e1 : Int.tmod (v : Int) ((T : Int) + 2) = (m : Int) := by rw [hm]; exact tmod_nat v (T + 2)
  have hz : ¬ ((T : Int) + 2 = 0) := by omega
  clear hm
  by_cases h0 : m = 0
  · subst h0
    go_enter Ybaz.func4, Ybaz.ntmps4
    go_wp2_with fail
    go_ret
    exact ⟨by rw [hf.out]; simp, rfl⟩
  · have h0' : ((m : Int) == 0) = false := by simpa using h0
    by_cases h1 : m = 1
    · subst h1
      go_enter Ybaz.func4, Ybaz.ntmps4
      go_wp2_with fail
      go_ret
      exact ⟨by rw [hf.out]; simp, rfl⟩
    · have h1' : ((m : Int) == 1) = false := by simp; omega
      go_enter Ybaz.func4, Ybaz.ntmps4
      go_wp2_with fail
      go_ret
      exact ⟨by rw [hf.out, if_neg h0, if_neg h1]; rfl, rfl⟩

/-! ### Sorting nothing -/
theorem ins58 (c : Value) (w : World) : Calls Ybaz.prog 58 #[.slice none 0 0, .int .i64 0, .int .i64 0, c] w fun e w' => e = .returned (.tuple #[]) ∧ w' = w := by
  go_enter Ybaz.func58, Ybaz.ntmps58
  go_wp2_with fail
  go_loopw [8] (fun v8 wq => v8 = .int .i64 1 ∧ wq = w) (fun _ _ => 0)
  case atStart => exact ⟨rfl, rfl⟩
  case round =>
    obtain ⟨rfl, rfl⟩ := hrel
    go_wp2_with fail
    go_end0
    exact ⟨rfl, rfl⟩
set_option maxHeartbeats 1000000 in
theorem stable43 (c : Value) (w : World) : Calls Ybaz.prog 43 #[.slice none 0 0, .int .i64 0, c] w fun e w' => e = .returned (.tuple #[]) ∧ w' = w := by
  go_enter Ybaz.func43, Ybaz.ntmps43
  go_wp2_with fail
  go_loopw [7, 8] (fun v7 v8 wq => v7 = .int .i64 0 ∧ v8 = .int .i64 20 ∧ wq = w) (fun _ _ _ => 0)
  case atStart => exact ⟨rfl, rfl, rfl⟩
  case round =>
    obtain ⟨rfl, rfl, rfl⟩ := hrel
    go_wp2_with fail
    refine (ins58 c wr).mono ?_
    rintro e w1 ⟨rfl, rfl⟩
    go_wp2_with fail
    go_loopw [6] (fun v6 wq => v6 = .int .i64 20 ∧ wq = w1) (fun _ _ => 0)
    case atStart => exact ⟨rfl, rfl⟩
    case round =>
      obtain ⟨rfl, rfl⟩ := hrel
      go_wp2_with fail
      go_end0
      exact ⟨rfl, rfl⟩
theorem sortStable23 (c : Value) (w : World) : Calls Ybaz.prog 23 #[.slice none 0 0, c] w fun e w' => e = .returned (.tuple #[]) ∧ w' = w := by
  go_enter Ybaz.func23, Ybaz.ntmps23
  go_wp2_with fail
  refine (stable43 c w).mono ?_
  rintro e w1 ⟨rfl, rfl⟩
  go_wp2_with fail
  go_end0
  exact ⟨rfl, rfl⟩
theorem ins60 (w : World) : Calls Ybaz.prog 60 #[.slice none 0 0, .int .i64 0, .int .i64 0] w fun e w' => e = .returned (.tuple #[]) ∧ w' = w := by
  go_enter Ybaz.func60, Ybaz.ntmps60
  go_wp2_with fail
  go_loopw [6] (fun v8 wq => v8 = .int .i64 1 ∧ wq = w) (fun _ _ => 0)
  case atStart => exact ⟨rfl, rfl⟩
  case round =>
    obtain ⟨rfl, rfl⟩ := hrel
    go_wp2_with fail
    go_end0
    exact ⟨rfl, rfl⟩
set_option maxHeartbeats 1000000 in
set_option maxRecDepth 20000 in
theorem len70 (w : World) : Calls Ybaz.prog 70 #[.int .u64 0] w fun e w' => e = .returned (.int .i64 0) ∧ w' = w := by
  go_enter Ybaz.func70, Ybaz.ntmps70
  go_wp2_with fail
  go_ret
  exact ⟨by kernel_rfl, rfl⟩
theorem len46 (w : World) : Calls Ybaz.prog 46 #[.int .u64 0] w fun e w' => e = .returned (.int .i64 0) ∧ w' = w := by
  go_enter Ybaz.func46, Ybaz.ntmps46
  go_wp2_with fail
  refine (len70 w).mono ?_
  rintro e w1 ⟨rfl, rfl⟩
  go_wp2_with fail
  go_ret
  exact ⟨rfl, rfl⟩
set_option maxHeartbeats 1000000 in
theorem pdq45 (w : World) : Calls Ybaz.prog 45 #[.slice none 0 0, .int .i64 0, .int .i64 0, .int .i64 0] w fun e w' => e = .returned (.tuple #[]) ∧ w' = w := by
  go_enter Ybaz.func45, Ybaz.ntmps45
  go_wp2_with fail
  go_loopw [1, 2, 3, 8, 9] (fun v1 v2 v3 v8 v9 wq => v1 = .int .i64 0 ∧ v2 = .int .i64 0 ∧ v3 = .int .i64 0 ∧ v8 = .bool true ∧ v9 = .bool true ∧ wq = w) (fun _ _ _ _ _ _ => 0)
  case atStart => exact ⟨rfl, rfl, rfl, rfl, rfl, rfl⟩
  case round =>
    obtain ⟨rfl, rfl, rfl, rfl, rfl, rfl⟩ := hrel
    go_wp2_with fail
    refine (ins60 wr).mono ?_
    rintro e w1 ⟨rfl, rfl⟩
    go_wp2_with fail
    exact bodyPost_ret (results_none rfl _ _ _) rfl ⟨rfl, rfl⟩
theorem sort26 (w : World) : Calls Ybaz.prog 26 #[.slice none 0 0] w fun e w' => e = .returned (.tuple #[]) ∧ w' = w := by
  go_enter Ybaz.func26, Ybaz.ntmps26
  go_wp2_with fail
  refine (len46 w).mono ?_
  rintro e w1 ⟨rfl, rfl⟩
  go_wp2_with fail
  refine (pdq45 w1).mono ?_
  rintro e w2 ⟨rfl, rfl⟩
  go_wp2_with fail
  go_end0
  exact ⟨rfl, rfl⟩

/-! ### The table -/
structure Us where
  a : Int
  b : Int
  c : Int
  d : Int
  e : Int
  f : Int
  r : Int
def Us.cells (u : Us) : List Value := [.int .i64 u.a, .int .i64 u.b, .int .i64 u.c, .int .i64 u.d, .int .i64 u.e, .int .i64 u.f, .int .i64 u.r]
def UA (w : World) (a : Option Addr) (U : List Us) : Prop := ∀ i u, U[i]? = some u → ∃ g o, a = some ⟨g, o, none⟩ ∧ g < w.heap.size ∧ w.rangeAt g (o + i * 7) u.cells
theorem UA.below {w w' : World} {a : Option Addr} {U : List Us} (h : UA w a U) (hB : Below w.heap.size w w') : UA w' a U := fun i u hu => by
  obtain ⟨g, o, ha, hg, hc⟩ := h i u hu
  exact ⟨g, o, ha, Nat.lt_of_lt_of_le hg hB.size, rangeAt_blk (hB.block g hg) hc⟩
/-- A table: 'n' items, 'T' transactions, the uses 'U', where each item's begin, where its writers end. -/
structure TB where
  gt : Nat
  gs : Nat
  gw : Nat
  gst : Nat
  n : Nat
  T : Nat
  U : List Us
  us : Nat → Nat
  we : Nat → Nat
  ua : Option Addr
  uc : Nat
structure TB.Ok (t : TB) : Prop where
  n : t.n ≤ 300
  T : 1 ≤ t.T ∧ t.T ≤ 16
  len : t.U.length ≤ 77100
  cap : t.U.length ≤ t.uc
  us0 : t.us 0 = 0
  usn : t.us t.n = t.U.length
  mono : ∀ i, i < t.n → t.us i ≤ t.us (i + 1)
  top : ∀ i, i ≤ t.n → t.us i ≤ t.U.length
  we : ∀ i, i < t.n → t.us i ≤ t.we i ∧ t.we i ≤ t.us i + 1 ∧ t.we i ≤ t.us (i + 1)
  rf : ∀ u ∈ t.U, -2 ≤ u.r ∧ u.r < t.T
structure TB.At (t : TB) (w : World) : Prop where
  row : CB w t.gt 33 [.slice t.ua t.U.length t.uc, .slice (some ⟨t.gs, 0, none⟩) (t.n + 1) (t.n + 1), .slice (some ⟨t.gw, 0, none⟩) t.n t.n, .slice none 0 0, .slice (some ⟨t.gst, 0, none⟩) (t.T + 1) (t.T + 1)]
  st : FB w t.gs (t.n + 1) (fun i => (t.us i : Int))
  wr : FB w t.gw t.n (fun i => (t.we i : Int))
  uses : UA w t.ua t.U
theorem TB.At.below {t : TB} {w w' : World} (h : t.At w) (hB : Below w.heap.size w w') : t.At w' :=
  ⟨h.row.below hB h.row.lt, CB.below h.st hB (CB.lt h.st), CB.below h.wr hB (CB.lt h.wr), h.uses.below hB⟩

theorem below_drewN (w : World) (k : Nat) : Below w.heap.size w (w.drewN k) := by
  induction k with
  | zero => exact Below.refl _ _
  | succ k ih => exact ih.drew
theorem txns6 (t : TB) (ok : t.Ok) (w : World) (h : t.At w) : Calls Ybaz.prog 6 #[.pointer (some ⟨t.gt, 0, none⟩)] w fun e w' => e = .returned (.int .i64 t.T) ∧ w' = w := by
  obtain ⟨t1, t2⟩ := ok.T
  have c4 : w.cell? ⟨t.gt, 4, none⟩ = some (.slice (some ⟨t.gst, 0, none⟩) (t.T + 1) (t.T + 1)) := h.row.cell rfl
  go_enter Ybaz.func6, Ybaz.ntmps6
  go_wp2_with fail
  go_ret
  exact ⟨by simp, rfl⟩

set_option maxHeartbeats 1000000 in
theorem writers21 (t : TB) (ok : t.Ok) (w : World) (h : t.At w) (i : Nat) (hi : i < t.n) : Calls Ybaz.prog 21 #[.pointer (some ⟨t.gt, 0, none⟩), .int .i64 i] w fun e w' => (∃ a c, e = .returned (.slice a (t.we i - t.us i) c)) ∧ Below w.heap.size w w' := by
  obtain ⟨n1, n2, n3⟩ := ok.we i hi
  have hn := ok.n
  have hl := ok.len
  have hc := ok.cap
  have ht := ok.top (i + 1) (by omega)
  have c0 : w.cell? ⟨t.gt, 0, none⟩ = some (.slice t.ua t.U.length t.uc) := h.row.cell rfl
  have c1 : w.cell? ⟨t.gt, 1, none⟩ = some (.slice (some ⟨t.gs, 0, none⟩) (t.n + 1) (t.n + 1)) := h.row.cell rfl
  have c2 : w.cell? ⟨t.gt, 2, none⟩ = some (.slice (some ⟨t.gw, 0, none⟩) t.n t.n) := h.row.cell rfl
  have d1 : w.cell? ⟨t.gs, i, none⟩ = some (.int .i64 (t.us i)) := h.st.cell (by omega)
  have d2 : w.cell? ⟨t.gw, i, none⟩ = some (.int .i64 (t.we i)) := h.wr.cell (by omega)
  have hi1 : (i : Int) < ((t.n + 1 : Nat) : Int) := by omega
  have hi2 : (i : Int) < ((t.n : Nat) : Int) := by omega
  go_enter Ybaz.func21, Ybaz.ntmps21
  go_wp2_with fail
  go_quiet (fail)
  generalize (if t.uc = t.us i then t.ua else Option.map (fun x => x.add (t.us i * 7)) t.ua) = a
  go_wp2_with fail
  go_ret
  exact ⟨⟨_, _, rfl⟩, below_drewN _ _⟩

/-- A slice's own slice reads the uses from 'l' on. -/
theorem UA.sub {w : World} {a : Option Addr} {U : List Us} (h : UA w a U) (l m cap : Nat) (hc : U.length ≤ cap) : UA w (if cap = l then a else a.map (fun x => x.add (l * 7))) ((U.drop l).take m) := fun i u hu => by
  rw [List.getElem?_take] at hu
  split at hu
  · rw [List.getElem?_drop] at hu
    obtain ⟨g, o, ha, hg, hr⟩ := h _ u hu
    have hlt : l + i < U.length := (List.getElem?_eq_some_iff.1 hu).1
    rw [if_neg (by omega), ha]
    refine ⟨g, o + l * 7, ?_, hg, ?_⟩
    · simp [add_plain]
    · rw [show o + l * 7 + i * 7 = o + (l + i) * 7 by omega]; exact hr
  · cases hu

set_option maxHeartbeats 1000000 in
theorem users8 (t : TB) (ok : t.Ok) (w : World) (h : t.At w) (i : Nat) (hi : i < t.n) : Calls Ybaz.prog 8 #[.pointer (some ⟨t.gt, 0, none⟩), .int .i64 i] w fun e w' => (∃ a c, e = .returned (.slice a (t.us (i + 1) - t.us i) c) ∧ ∀ wz, t.At wz → UA wz a ((t.U.drop (t.us i)).take (t.us (i + 1) - t.us i))) ∧ Below w.heap.size w w' := by
  have n1 := ok.mono i hi
  have hn := ok.n
  have hl := ok.len
  have hc := ok.cap
  have ht := ok.top (i + 1) (by omega)
  have c0 : w.cell? ⟨t.gt, 0, none⟩ = some (.slice t.ua t.U.length t.uc) := h.row.cell rfl
  have c1 : w.cell? ⟨t.gt, 1, none⟩ = some (.slice (some ⟨t.gs, 0, none⟩) (t.n + 1) (t.n + 1)) := h.row.cell rfl
  have d1 : w.cell? ⟨t.gs, i, none⟩ = some (.int .i64 (t.us i)) := h.st.cell (by omega)
  have d2 : w.cell? ⟨t.gs, i + 1, none⟩ = some (.int .i64 (t.us (i + 1))) := h.st.cell (by omega)
  have hi1 : (i : Int) < ((t.n + 1 : Nat) : Int) := by omega
  have hi2 : (i : Int) + 1 < ((t.n + 1 : Nat) : Int) := by omega
  go_enter Ybaz.func8, Ybaz.ntmps8
  go_wp2_with fail
  go_quiet (fail)
  have HA : Hid (∀ wz, t.At wz → UA wz (if t.uc = t.us i then t.ua else Option.map (fun x => x.add (t.us i * 7)) t.ua) ((t.U.drop (t.us i)).take (t.us (i + 1) - t.us i))) := fun wz hz => hz.uses.sub _ _ _ hc
  generalize (if t.uc = t.us i then t.ua else Option.map (fun x => x.add (t.us i * 7)) t.ua) = a at HA ⊢
  go_wp2_with fail
  go_ret
  exact ⟨⟨_, _, rfl, HA.out⟩, below_drewN _ _⟩
end Go.Proofs.YbulkdfeeGreatDoor
