import Derived.Test.YbulkdfgwNote
import Derived.Deep.AppendLies
import Derived.OneCell
namespace Go.Proofs.Ybulkdfgw
open Go.ChangeShapes Go.WideShapes Go.ChangeAt Go.RowKit Go.Maps Go.WideMaps Go.WideElems
set_option linter.unusedVariables false
set_option linter.unusedSimpArgs false

theorem inf67 : (Yba.prog.info? 67).map (fun i => (i.zero, i.size, i.bytes)) = some (some peerZero, 21, 40) := by kernel_rfl
theorem inf9 : (Yba.prog.info? 9).map (fun i => (i.zero, i.size, i.bytes)) = some (some (.string ByteArray.empty), 1, 16) := by kernel_rfl
theorem inf4 : (Yba.prog.info? 4).map (fun i => (i.zero, i.size, i.bytes)) = some (some (.bool false), 1, 1) := by kernel_rfl

/-! ### the peers -/
def peerLit (s : ByteArray) : List Value := [.string s, .int .u8 0, .int .u8 0, .int .u8 0, .int .u8 0, .int .u8 0, .int .u8 0, .int .u8 0, .int .u8 0, .int .u8 0, .int .u8 0, .int .u8 0, .int .u8 0, .int .u8 0, .int .u8 0, .int .u8 0, .int .u8 0, .int .u8 0, .int .u8 0, .int .u8 0, .int .u8 0]
def peersTo (S : Nat → ByteArray) : Nat → List Value
  | 0 => []
  | k + 1 => peersTo S k ++ peerLit (S k)
theorem length_peersTo (S : Nat → ByteArray) : ∀ k, (peersTo S k).length = k * 21
  | 0 => rfl
  | k + 1 => by simp [peersTo, length_peersTo S k, peerLit]; omega
theorem get_peersTo (S : Nat → ByteArray) : ∀ n i, i < n → ∀ j, j < 21 → (peersTo S n)[i * 21 + j]? = (peerLit (S i))[j]?
  | 0, i, h, _, _ => absurd h (Nat.not_lt_zero _)
  | n + 1, i, h, j, hj => by
    rw [peersTo]
    by_cases e : i < n
    · rw [List.getElem?_append_left (by rw [length_peersTo]; omega)]; exact get_peersTo S n i e j hj
    · obtain rfl : i = n := by omega
      rw [List.getElem?_append_right (by rw [length_peersTo]; omega), length_peersTo]
      congr 1; omega
theorem peerLit_one (s : ByteArray) : ∀ v ∈ peerLit s, v.oneCell' = true := by
  intro v hv
  simp only [peerLit, List.mem_cons, List.not_mem_nil, or_false] at hv
  rcases hv with h | h | h | h | h | h | h | h | h | h | h | h | h | h | h | h | h | h | h | h | h <;> subst h <;> rfl

/-- A cell of an owned row. -/
theorem owns_cell {w : World} {base : Nat} {e : TypeId} {size g n cap : Nat} {xs : List Value} (h : w.ownsRow base e size (.slice (some ⟨g, 0, none⟩) n cap) n xs) {j : Nat} {v : Value} (hj : xs[j]? = some v) : w.cell? ⟨g, j, none⟩ = some v := by
  rcases h.2 with ⟨h0, _⟩ | ⟨g', cap', cur, h0, hb, hg, hnc, hcm, hcs, ht⟩
  · cases h0
  · simp only [Value.slice.injEq, Option.some.injEq, Addr.mk.injEq, and_true, true_and] at h0
    obtain ⟨rfl, rfl⟩ := h0
    rw [← ht, List.getElem?_take] at hj
    split at hj
    · simp only [World.cell?, hg]
      simpa using hj
    · cases hj

theorem owns_block {w : World} {base : Nat} {e : TypeId} {size : Nat} {v : Value} {n : Nat} {xs : List Value} (h : w.ownsRow base e size v n xs) {g : Nat} (hg : v.ownBlock = some g) : base ≤ g ∧ ∃ cur, w.heap[g]? = some (.cells cur e (0, 0)) := by
  rcases h.2 with ⟨h0, _⟩ | ⟨g', cap', cur, h0, hb, hg', _⟩
  · subst h0; cases hg
  · subst h0
    simp only [Value.ownBlock, Option.some.injEq] at hg
    subst hg
    exact ⟨hb, cur, hg'⟩

theorem peers_of {w : World} {base g n cap : Nat} {S : Nat → ByteArray} (h : w.ownsRow base 67 21 (.slice (some ⟨g, 0, none⟩) n cap) n (peersTo S n)) : ∀ i, i < n → PeerCells w g (i * 21) (S i) := by
  intro i hi
  refine ⟨peerLit (S i), fun j v hv => ?_, rfl, rfl, peerLit_one _⟩
  have hj : j < 21 := (List.getElem?_eq_some_iff.1 hv).1
  exact owns_cell h (by rw [get_peersTo S n i hi j hj]; exact hv)

/-! ### what is watched, and what is kept of it -/
def strV (s : Key) : Value := .string ⟨s.toArray⟩
theorem strV_data (s : ByteArray) : strV s.data.toList = .string s := by cases s; simp [strV]

/-- THE METRICS AND WHAT THEY LEAD TO. -/
structure St (w : World) (B g gp : Nat) (ks : List Key) (bl : Key → Nat) (σ : Key → Bool) (wr : World) : Prop where
  map : MapOf wr g 512 ks bl
  cells : CellsOf wr ks bl σ
  var : wr.heap[gp]? = some (.cells #[.map (some g)] 55 (0, 0))
  met : ∃ cs, wr.heap[B]? = some (.cells cs 54 (0, 0)) ∧ cs[13]? = some (.pointer (some ⟨gp, 0, none⟩))
  below : Below B w wr
  up : B ≤ g ∧ ∀ s, s ∈ ks → B ≤ bl s

theorem St.c13 {w : World} {B g gp : Nat} {ks : List Key} {bl : Key → Nat} {σ : Key → Bool} {wr : World} (h : St w B g gp ks bl σ wr) : wr.cell? ⟨B, 13, none⟩ = some (.pointer (some ⟨gp, 0, none⟩)) := by
  obtain ⟨cs, h1, h2⟩ := h.met
  simp [World.cell?, h1, h2]

/-- What the call's own rows of strings and bools do to it: nothing. -/
theorem St.grow {w : World} {B g gp : Nat} {ks : List Key} {bl : Key → Nat} {σ : Key → Bool} {wr w' : World} (h : St w B g gp ks bl σ wr) {row : Option Nat} (hg : wr.grownBy w' row) (hB : B ≤ wr.heap.size)
    (hr : ∀ r, row = some r → B ≤ r ∧ ∃ cs t fr, wr.heap[r]? = some (.cells cs t fr) ∧ t ≠ 58 ∧ t ≠ 55 ∧ t ≠ 54) : St w B g gp ks bl σ w' := by
  have other : ∀ {b : Nat} {cs : Array Value} {t : TypeId} {fr : Nat × Nat}, wr.heap[b]? = some (Obj.cells cs t fr) → (t = 58 ∨ t = 55 ∨ t = 54) → w'.heap[b]? = some (Obj.cells cs t fr) := fun {b cs t fr} hb ht => by
    rw [hg.block b (lt_block hb) (fun e => by
      obtain ⟨_, cs', t', fr', h1, h2, h3, h4⟩ := hr b e.symm
      rw [h1] at hb
      simp only [Option.some.injEq, Obj.cells.injEq] at hb
      obtain ⟨_, rfl, _⟩ := hb
      rcases ht with rfl | rfl | rfl
      · exact h2 rfl
      · exact h3 rfl
      · exact h4 rfl)]
    exact hb
  refine ⟨MapOf.kept h.map hg ?_, ⟨fun s hs => other (h.cells.1 s hs) (Or.inl rfl), h.cells.2⟩, other h.var (Or.inr (Or.inl rfl)), ?_, h.below.grown hg hB (fun k hk => (hr k hk).1), h.up⟩
  · intro e
    obtain ⟨_, cs', t', fr', h1, _⟩ := hr g e.symm
    obtain ⟨D, ⟨es, clock, hb, _⟩, _⟩ := h.map
    rw [h1] at hb; cases hb
  · obtain ⟨cs, h1, h2⟩ := h.met
    exact ⟨cs, other h1 (Or.inr (Or.inr rfl)), h2⟩

/-- A note taken: the cell of one key holds the new bit. -/
theorem St.note {w : World} {B g gp : Nat} {ks : List Key} {bl : Key → Nat} {σ : Key → Bool} {wr : World} (h : St w B g gp ks bl σ wr) {s : Key} (hs : s ∈ ks) (x : Bool) :
    St w B g gp ks bl (updBl σ s x) (wr.setCell ⟨bl s, 0, none⟩ (.int .u32 (bitOf x))).drew := by
  have h0 := h.cells.1 s hs
  have hn : ((wr.setCell ⟨bl s, 0, none⟩ (.int .u32 (bitOf x))).drew).heap[bl s]? = some (.cells #[.int .u32 (bitOf x)] 58 (0, 0)) := one_setCell h0
  have gx : wr.grownBy (wr.setCell ⟨bl s, 0, none⟩ (.int .u32 (bitOf x))).drew (some (bl s)) :=
    ⟨rfl, rfl, rfl, by simp [World.setCell, World.drew], fun i _ hi => Below.heap_setCell _ _ _ _ (fun e => hi (by rw [e]))⟩
  have ne : ∀ {b : Nat} {o : Obj}, wr.heap[b]? = some o → (∀ cs fr, o ≠ .cells cs 58 fr) → some b ≠ some (bl s) := fun hb ho e => by
    simp only [Option.some.injEq] at e
    rw [e, h0] at hb
    simp only [Option.some.injEq] at hb
    exact ho _ _ hb.symm
  refine ⟨MapOf.kept h.map gx ?_, ⟨fun t ht => ?_, h.cells.2⟩, ?_, ?_, h.below.trans ((Below.setCell (Below.refl _ _) (h.up.2 s hs) _).drew), h.up⟩
  · obtain ⟨D, ⟨es, clock, hb, _⟩, _⟩ := h.map
    exact ne hb (fun cs fr e => by cases e)
  · by_cases e : t = s
    · subst e; simpa [updBl] using hn
    · have ht0 := h.cells.1 t ht
      rw [gx.block _ (lt_block ht0) (fun h' => e (h.cells.2 t s ht hs (by simpa using h')))]
      simpa [updBl, e] using ht0
  · rw [gx.block _ (lt_block h.var) (ne h.var (fun cs fr e => by simp at e))]; exact h.var
  · obtain ⟨cs, h1, h2⟩ := h.met
    exact ⟨cs, by rw [gx.block _ (lt_block h1) (ne h1 (fun cs fr e => by simp at e))]; exact h1, h2⟩

/-! ### the rows of the distinct addresses and of their states -/
theorem owns_slice {w : World} {base : Nat} {e : TypeId} {size : Nat} {v : Value} {n : Nat} {xs : List Value} (h : w.ownsRow base e size v n xs) : ∃ a cap, v = .slice a n cap ∧ (0 < n → ∃ g, a = some ⟨g, 0, none⟩) := by
  rcases h.2 with ⟨h0, h1⟩ | ⟨g', cap', cur, h0, _⟩
  · subst h1; exact ⟨none, 0, h0, fun h => absurd h (Nat.lt_irrefl _)⟩
  · exact ⟨_, _, h0, fun _ => ⟨g', rfl⟩⟩

theorem own_apart {w w' : World} {base : Nat} {e e' : TypeId} {size size' : Nat} {v v' : Value} {n n' : Nat} {xs xs' : List Value} (h : w.ownsRow base e size v n xs) (h' : w.ownsRow base e' size' v' n' xs') (hne : e ≠ e') (hg : w.grownBy w' v.ownBlock) :
    w'.ownsRow base e' size' v' n' xs' := by
  refine h'.kept hg ?_
  cases hb : v'.ownBlock with
  | none => exact Or.inl rfl
  | some g =>
    right
    intro e0
    obtain ⟨_, cur', h1⟩ := owns_block h' hb
    obtain ⟨_, cur, h2⟩ := owns_block h e0.symm
    rw [h1] at h2
    simp only [Option.some.injEq, Obj.cells.injEq] at h2
    exact hne h2.2.1.symm

theorem St.row {w : World} {B g gp : Nat} {ks : List Key} {bl : Key → Nat} {σ : Key → Bool} {wr w' : World} (h : St w B g gp ks bl σ wr) {e : TypeId} {size : Nat} {v : Value} {n : Nat} {xs : List Value} (ho : wr.ownsRow B e size v n xs) (hg : wr.grownBy w' v.ownBlock) (hB : B ≤ wr.heap.size)
    (h1 : e ≠ 58) (h2 : e ≠ 55) (h3 : e ≠ 54) : St w B g gp ks bl σ w' :=
  h.grow hg hB fun r hr => by
    obtain ⟨hb, cur, hc⟩ := owns_block ho hr
    exact ⟨hb, cur, e, _, hc, h1, h2, h3⟩

theorem St.alloc {w : World} {B g gp : Nat} {ks : List Key} {bl : Key → Nat} {σ : Key → Bool} {wr : World} (h : St w B g gp ks bl σ wr) (hB : B ≤ wr.heap.size) (o : Obj) : St w B g gp ks bl σ (wr.alloc o) :=
  h.grow (World.grownBy_alloc wr o none) hB fun r hr => by cases hr

/-- LOOP 2. -/
def RelD (w : World) (g gp : Nat) (ks : List Key) (bl : Key → Nat) (n : Nat) (S : Nat → ByteArray) (vd vs i : Value) (wr : World) : Prop :=
  ∃ k : Nat, k ≤ n ∧ i = .int .i64 k ∧ St w w.heap.size g gp ks bl (fun _ => true) wr ∧ wr.ownsRow w.heap.size 9 1 vd (ddTo S k).length ((ddTo S k).map strV) ∧
    wr.ownsRow w.heap.size 4 1 vs (ddTo S k).length ((ddTo S k).map fun _ => .bool true)

theorem length_ddTo (S : Nat → ByteArray) : ∀ k, (ddTo S k).length ≤ k
  | 0 => Nat.le_refl _
  | k + 1 => by
    have := length_ddTo S k
    rw [ddTo, insKey]
    split
    · omega
    · simp; omega

theorem relD_step {w : World} {g gp : Nat} {ks : List Key} {bl : Key → Nat} {n k : Nat} {S : Nat → ByteArray} {vd vs v1 v2 : Value} {wr w1 w2 : World} (hk : k + 1 ≤ n) (hnew : ¬ (S k).data.toList ∈ ddTo S k)
    (hS : St w w.heap.size g gp ks bl (fun _ => true) wr) (hd : wr.ownsRow w.heap.size 9 1 vd (ddTo S k).length ((ddTo S k).map strV)) (hs : wr.ownsRow w.heap.size 4 1 vs (ddTo S k).length ((ddTo S k).map fun _ => .bool true)) (o o' : Obj)
    (ho1 : w1.ownsRow w.heap.size 9 1 v1 ((ddTo S k).length + 1) ((ddTo S k).map strV ++ [.string (S k)])) (hg1 : (wr.alloc o).grownBy w1 vd.ownBlock)
    (ho2 : w2.ownsRow w.heap.size 4 1 v2 ((ddTo S k).length + 1) (((ddTo S k).map fun _ => .bool true) ++ [.bool true])) (hg2 : (w1.alloc o').grownBy w2 vs.ownBlock) :
    RelD w g gp ks bl n S v1 v2 (.int .i64 (k + 1)) w2 := by
  have hB := hS.below.size
  have e : ddTo S (k + 1) = ddTo S k ++ [(S k).data.toList] := by rw [ddTo, insKey, if_neg hnew]
  have hs1 : w1.ownsRow w.heap.size 4 1 vs (ddTo S k).length ((ddTo S k).map fun _ => .bool true) := own_apart (hd.alloc o) (hs.alloc o) (by decide) hg1
  have hB1 : w.heap.size ≤ w1.heap.size := by have := hg1.size; simp at this; omega
  refine ⟨k + 1, hk, by simp, ?_, ?_, ?_⟩
  · refine St.row ((St.row (hS.alloc hB o) (hd.alloc o) hg1 (by simp; omega) (by decide) (by decide) (by decide)).alloc hB1 o') (hs1.alloc o') hg2 (by simp; omega) (by decide) (by decide) (by decide)
  · have h := own_apart (hs1.alloc o') (ho1.alloc o') (by decide) hg2
    rw [e]
    simpa [strV_data] using h
  · rw [e]
    simpa using ho2

theorem relD_same {w : World} {g gp : Nat} {ks : List Key} {bl : Key → Nat} {n k : Nat} {S : Nat → ByteArray} {vd vs : Value} {wr : World} (hk : k + 1 ≤ n) (hold : (S k).data.toList ∈ ddTo S k)
    (hS : St w w.heap.size g gp ks bl (fun _ => true) wr) (hd : wr.ownsRow w.heap.size 9 1 vd (ddTo S k).length ((ddTo S k).map strV)) (hs : wr.ownsRow w.heap.size 4 1 vs (ddTo S k).length ((ddTo S k).map fun _ => .bool true)) :
    RelD w g gp ks bl n S vd vs (.int .i64 (k + 1)) wr := by
  have e : ddTo S (k + 1) = ddTo S k := by rw [ddTo, insKey, if_pos hold]
  exact ⟨k + 1, hk, by simp, hS, by rw [e]; exact hd, by rw [e]; exact hs⟩

/-- The strings of a row, as the look for one wants them. -/
def strAt (ks : List Key) (i : Nat) : ByteArray := ⟨(ks.getD i []).toArray⟩
theorem strAt_data (ks : List Key) (i : Nat) : (strAt ks i).data.toList = ks.getD i [] := by simp [strAt]
theorem strAt_get {ks : List Key} {i : Nat} (h : i < ks.length) : (ks.map strV)[i]? = some (.string (strAt ks i)) := by
  simp [strAt, strV, h]

theorem findKey {ks : List Key} {s : Key} (h : s ∈ ks) : ∃ t, t < ks.length ∧ ks.getD t [] = s ∧ ∀ i, i < t → ¬ ks.getD i [] = s := by
  induction ks with
  | nil => cases h
  | cons x r ih =>
    by_cases e : x = s
    · exact ⟨0, by simp, by simpa using e, fun i hi => absurd hi (Nat.not_lt_zero _)⟩
    · obtain ⟨t, h1, h2, h3⟩ := ih (by rcases List.mem_cons.1 h with h | h; exact absurd h.symm e; exact h)
      refine ⟨t + 1, by simpa using h1, by simpa using h2, fun i hi => ?_⟩
      cases i with
      | zero => simpa using e
      | succ j => simpa using h3 j (by omega)

theorem ddTo_nodup (S : Nat → ByteArray) : ∀ k, (ddTo S k).Nodup
  | 0 => List.nodup_nil
  | k + 1 => by
    rw [ddTo, insKey]
    split
    · exact ddTo_nodup S k
    · rename_i h
      rw [List.nodup_append]
      refine ⟨ddTo_nodup S k, by simp, ?_⟩
      intro a ha b hb e
      simp only [List.mem_singleton] at hb
      subst hb; subst e; exact h ha

theorem mem_ddTo (S : Nat → ByteArray) : ∀ n i, i < n → (S i).data.toList ∈ ddTo S n
  | 0, i, h => absurd h (Nat.not_lt_zero _)
  | n + 1, i, h => by
    rw [ddTo, mem_insKey]
    by_cases e : i < n
    · exact Or.inl (mem_ddTo S n i e)
    · exact Or.inr (by rw [show i = n by omega])

theorem set_map {ks : List Key} (hn : ks.Nodup) {t : Nat} (ht : t < ks.length) {s : Key} (hs : ks.getD t [] = s) (σ : Key → Bool) (x : Bool) :
    (ks.map fun k => Value.bool (σ k)).set t (.bool x) = ks.map fun k => Value.bool (updBl σ s x k) := by
  apply List.ext_getElem?
  intro i
  rw [List.getElem?_set]
  have e : ks[t] = s := by simpa [List.getD, ht] using hs
  by_cases h : t = i
  · subst h
    simp [ht, updBl, e]
  · simp only [h, if_false, List.getElem?_map]
    by_cases hi : i < ks.length
    · have hne : ks[i] ≠ s := fun h' => h ((List.getElem_inj hn).1 (e.trans h'.symm))
      simp [hi, updBl, hne]
    · simp [hi]

/-- LOOP 3. -/
def RelN (w : World) (g gp : Nat) (ks : List Key) (bl : Key → Nat) (n1 : Nat) (vd vs i : Value) (wr : World) : Prop :=
  ∃ (k : Nat) (σ : Key → Bool), k ≤ n1 ∧ i = .int .i64 k ∧ St w w.heap.size g gp ks bl σ wr ∧ wr.ownsRow w.heap.size 9 1 vd ks.length (ks.map strV) ∧
    wr.ownsRow w.heap.size 4 1 vs ks.length (ks.map fun s => .bool (σ s))

theorem own_note {w w' : World} {base : Nat} {e : TypeId} {size : Nat} {v : Value} {n : Nat} {xs : List Value} (h : w.ownsRow base e size v n xs) {r : Nat} {cs : Array Value} {t : TypeId} {fr : Nat × Nat} (hr : w.heap[r]? = some (.cells cs t fr)) (hne : e ≠ t)
    (hg : w.grownBy w' (some r)) : w'.ownsRow base e size v n xs := by
  refine h.kept hg ?_
  cases hb : v.ownBlock with
  | none => exact Or.inl rfl
  | some g =>
    right
    intro e0
    obtain ⟨_, cur, h1⟩ := owns_block h hb
    simp only [Option.some.injEq] at e0
    rw [e0, hr] at h1
    simp only [Option.some.injEq, Obj.cells.injEq] at h1
    exact hne h1.2.1.symm

/-- A note taken, the note's own variable laid ahead of it. -/
theorem noted {w : World} {B g gp : Nat} {ks : List Key} {bl : Key → Nat} {σ : Key → Bool} {wr : World} {vd vs : Value} (hS : St w B g gp ks bl σ wr) (hd : wr.ownsRow B 9 1 vd ks.length (ks.map strV)) (hs : wr.ownsRow B 4 1 vs ks.length (ks.map fun s => .bool (σ s)))
    (hB : B ≤ wr.heap.size) {s : Key} (hm : s ∈ ks) (x : Bool) (cl : Array Value) :
    St w B g gp ks bl (updBl σ s x) ((wr.alloc (.cells cl 71)).setCell ⟨bl s, 0, none⟩ (.int .u32 (bitOf x))).drew ∧
    ((wr.alloc (.cells cl 71)).setCell ⟨bl s, 0, none⟩ (.int .u32 (bitOf x))).drew.ownsRow B 9 1 vd ks.length (ks.map strV) ∧
    ((wr.alloc (.cells cl 71)).setCell ⟨bl s, 0, none⟩ (.int .u32 (bitOf x))).drew.ownsRow B 4 1 vs ks.length (ks.map fun s => .bool (σ s)) ∧
    ((wr.alloc (.cells cl 71)).setCell ⟨bl s, 0, none⟩ (.int .u32 (bitOf x))).drew.heap[wr.heap.size]? = some (.cells cl 71 (0, 0)) := by
  have hSa := hS.alloc hB (.cells cl 71)
  have h0 := hSa.cells.1 s hm
  have gx : (wr.alloc (.cells cl 71)).grownBy ((wr.alloc (.cells cl 71)).setCell ⟨bl s, 0, none⟩ (.int .u32 (bitOf x))).drew (some (bl s)) :=
    ⟨rfl, rfl, rfl, by simp [World.setCell, World.drew], fun i _ hi => Below.heap_setCell _ _ _ _ (fun e => hi (by rw [e]))⟩
  refine ⟨hSa.note hm x, own_note (hd.alloc _) h0 (by decide) gx, own_note (hs.alloc _) h0 (by decide) gx, ?_⟩
  have hn := heap_alloc_new wr (.cells cl 71)
  rw [gx.block _ (by simp) (fun e => by
    simp only [Option.some.injEq] at e
    rw [← e, hn] at h0
    simp at h0)]
  exact hn

theorem relN_step {w : World} {g gp : Nat} {ks : List Key} {bl : Key → Nat} {n1 k : Nat} {σ : Key → Bool} {s : Key} {x : Bool} {gd gs capd caps t : Nat} {w3 : World} (hk : k + 1 ≤ n1) (hnd : ks.Nodup) (ht : t < ks.length) (hts : ks.getD t [] = s)
    (hS : St w w.heap.size g gp ks bl (updBl σ s x) w3) (hd : w3.ownsRow w.heap.size 9 1 (.slice (some ⟨gd, 0, none⟩) ks.length capd) ks.length (ks.map strV)) (hs : w3.ownsRow w.heap.size 4 1 (.slice (some ⟨gs, 0, none⟩) ks.length caps) ks.length (ks.map fun s => .bool (σ s))) :
    RelN w g gp ks bl n1 (.slice (some ⟨gd, 0, none⟩) ks.length capd) (.slice (some ⟨gs, 0, none⟩) ks.length caps) (.int .i64 (k + 1)) (w3.setCell ⟨gs, t, none⟩ (.bool x)) := by
  obtain ⟨h1, h2⟩ := hs.stored t (.bool x)
  refine ⟨k + 1, updBl σ s x, hk, by simp, St.row hS hs h2 hS.below.size (by decide) (by decide) (by decide), own_apart hs hd (by decide) h2, ?_⟩
  rw [← set_map hnd ht hts σ x]
  exact h1

theorem key_size {S : Nat → ByteArray} {M : Nat} : ∀ n, (∀ i, i < n → (S i).size ≤ M) → ∀ s, s ∈ ddTo S n → s.length ≤ M
  | 0, _, s, h => absurd h List.not_mem_nil
  | n + 1, hS, s, h => by
    rw [ddTo, mem_insKey] at h
    rcases h with h | rfl
    · exact key_size n (fun i hi => hS i (by omega)) s h
    · exact hS n (by omega)
theorem strAt_size {S : Nat → ByteArray} {M n : Nat} (hS : ∀ i, i < n → (S i).size ≤ M) (j : Nat) (hj : j < (ddTo S n).length) : (strAt (ddTo S n) j).size ≤ M := by
  have h := key_size n hS ((ddTo S n).getD j []) (by simp [hj])
  rw [← strAt_data] at h
  exact h
theorem boolLoad' (gb : Nat) (x : Bool) (w : World) (hc : w.cell? ⟨gb, 0, none⟩ = some (.int .u32 (bitOf x))) :
    Calls Yba.prog 12 #[.pointer (some ⟨gb, 0, none⟩)] w fun e w' => e = .returned (.bool x) ∧ w' = w :=
  (boolLoad gb x w hc).mono fun e w' ⟨h1, h2⟩ => ⟨h1, h2.symm⟩
end Go.Proofs.Ybulkdfgw
