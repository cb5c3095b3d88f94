import Derived.Test.YbulkdfgwStored
import Derived.Maps.Views
import Derived.Maps.OwnSet
namespace Go.Proofs.Ybulkdfgw
open Go.ChangeShapes Go.WideShapes Go.ChangeAt Go.RowKit Go.Maps Go.WideMaps Go.WideElems
set_option linter.unusedVariables false
set_option linter.unusedSimpArgs false

abbrev Key := List UInt8
def keyL (s : Key) : Lit := .string s
def zeroD : DataW Unit := .lit (.int .i64 (-1))
theorem keyL_inj {s t : Key} (h : keyL s = keyL t) : s = t := by
  simpa only [keyL, Lit.string.injEq] using h
theorem keyLit (s : Key) : WideAt.IsKeyLit (keyL s) := trivial
theorem keyOf_S {s : ByteArray} (h : s.size ≤ maxLen) : keyOf Yba.prog 9 (.string s) = some (keyL s.data.toList) := keyOf_string_mk Yba.underlying9 h

/-- THE KEYS AND WHERE EACH LEADS. -/
def Facts (D : DataW Unit) (ks : List Key) (bl : Key → Nat) : Prop :=
  Maps.size D = ks.length ∧ (∀ s, Maps.has D (keyL s) = decide (s ∈ ks)) ∧ ∀ s, s ∈ ks → D.atKey (keyL s) zeroD = .lit (.int .i64 (bl s))

def MapOf (w : World) (g N : Nat) (ks : List Key) (bl : Key → Nat) : Prop :=
  ∃ D, w.ownsMap Yba.prog 9 ptrElem g N D ∧ Facts D ks bl

def insKey (ks : List Key) (s : Key) : List Key := if s ∈ ks then ks else ks ++ [s]
def updBl {α : Type} (bl : Key → α) (s : Key) (x : α)   : Key → α := fun t => if t = s then x else bl t

theorem mem_insKey {ks : List Key} {s t : Key} : t ∈ insKey ks s ↔ t ∈ ks ∨ t = s := by
  unfold insKey; split
  · constructor
    · exact Or.inl
    · rintro (h | rfl) <;> assumption
  · simp

theorem mapOf_made (w : World) (N : Nat) (bl : Key → Nat) : MapOf (w.alloc (.map #[] 0)) w.heap.size N [] bl :=
  ⟨.map [], (World.ownsMap_made (H := Unit) w Yba.prog 9 ptrElem).mono (Nat.zero_le _), rfl, fun s => rfl, fun s h => by cases h⟩

theorem MapOf.kept {w w' : World} {g N : Nat} {ks : List Key} {bl : Key → Nat} {row : Option Nat} (h : MapOf w g N ks bl) (hg : w.grownBy w' row) (hne : some g ≠ row) : MapOf w' g N ks bl := by
  obtain ⟨D, ho, hf⟩ := h; exact ⟨D, World.ownsMap.kept ho hg hne, hf⟩
theorem MapOf.lt {w : World} {g N : Nat} {ks : List Key} {bl : Key → Nat} (h : MapOf w g N ks bl) : g < w.heap.size := by
  obtain ⟨D, ho, hf⟩ := h; exact World.ownsMap.lt ho
theorem MapOf.alloc {w : World} {g N : Nat} {ks : List Key} {bl : Key → Nat} (h : MapOf w g N ks bl) (o : Obj) : MapOf (w.alloc o) g N ks bl := by
  obtain ⟨D, ho, hf⟩ := h; exact ⟨D, World.ownsMap.alloc ho o, hf⟩
theorem MapOf.mono {w : World} {g N M : Nat} {ks : List Key} {bl : Key → Nat} (h : MapOf w g N ks bl) (hn : N ≤ M) : MapOf w g M ks bl := by
  obtain ⟨D, ho, hf⟩ := h; exact ⟨D, World.ownsMap.mono ho hn, hf⟩

/-- A LOOK-UP AT A KEY THAT IS THERE. -/
theorem MapOf.look {w : World} {g N : Nat} {ks : List Key} {bl : Key → Nat} (h : MapOf w g N ks bl) {s : ByteArray} (hs : s.size ≤ maxLen) (hm : s.data.toList ∈ ks) :
    (Instr.lookup 55 (.map (some g)) (.string s) false).run Yba.prog w = .ok (.pointer (some ⟨bl s.data.toList, 0, none⟩)) w := by
  obtain ⟨D, ho, h1, h2, h3⟩ := h
  obtain ⟨v, ps, hrun, hR⟩ := World.ownsMap.lookup ho law Yba.underlying55 (zero57 _) (z := .pointer none) (zd := zeroD) (zp := []) rfl (keyOf_S hs)
  rw [h3 _ hm] at hR
  rcases ptrElem_inv hR with ⟨rfl, hd⟩ | ⟨bb, rfl, hd⟩
  · simp at hd
  · simp at hd
    have : bb = bl s.data.toList := by omega
    rw [hrun, this]

theorem MapOf.len {w : World} {g N : Nat} {ks : List Key} {bl : Key → Nat} (h : MapOf w g N ks bl) : (Builtin.len_ #[55] 3 #[.map (some g)]).run Yba.prog w = .ok (.int .i64 ks.length) w := by
  obtain ⟨D, ho, h1, h2, h3⟩ := h
  rw [World.ownsMap.len ho Yba.underlying55 3, h1]

/-- BETWEEN THE TWO STORES OF A ROUND: the key leads to nil. -/
def MapMid (w : World) (g N : Nat) (ks : List Key) (bl : Key → Nat) (s : Key) : Prop :=
  ∃ D, w.ownsMap Yba.prog 9 ptrElem g N (D.put (keyL s) zeroD) ∧ Tidy D ∧ Facts D ks bl

theorem MapOf.toNil {w : World} {g N : Nat} {ks : List Key} {bl : Key → Nat} (h : MapOf w g N ks bl) (hN : N < maxLen) {s : ByteArray} (hs : s.size ≤ maxLen) :
    ∃ w1, (Instr.mapUpdate 55 (.map (some g)) (.string s) (.pointer none)).run Yba.prog w = .ok () w1 ∧ w.grownBy w1 (some g) ∧ MapMid w1 g (N + 1) ks bl s.data.toList := by
  obtain ⟨D, ho, hf⟩ := h
  obtain ⟨w1, hrun, ho1, hg⟩ := World.ownsMap.update ho law Yba.underlying55 hN (keyOf_S hs) (val := .pointer none) (d := zeroD) (ps := []) rfl
  exact ⟨w1, hrun, hg, D, ho1, World.ownsMap.tidy ho law, hf⟩

theorem MapMid.look {w : World} {g N : Nat} {ks : List Key} {bl : Key → Nat} {s : ByteArray} (h : MapMid w g N ks bl s.data.toList) (hs : s.size ≤ maxLen) :
    (Instr.lookup 55 (.map (some g)) (.string s) false).run Yba.prog w = .ok (.pointer none) w := by
  obtain ⟨D, ho, ht, h1, h2, h3⟩ := h
  obtain ⟨v, ps, hrun, hR⟩ := World.ownsMap.lookup ho law Yba.underlying55 (zero57 _) (z := .pointer none) (zd := zeroD) (zp := []) rfl (keyOf_S hs)
  rw [atKey_put_same ht.isMap (keyLit _)] at hR
  rcases ptrElem_inv hR with ⟨rfl, hd⟩ | ⟨bb, rfl, hd⟩
  · exact hrun
  · simp [zeroD] at hd

theorem MapMid.kept {w w' : World} {g N : Nat} {ks : List Key} {bl : Key → Nat} {s : Key} {row : Option Nat} (h : MapMid w g N ks bl s) (hg : w.grownBy w' row) (hne : some g ≠ row) : MapMid w' g N ks bl s := by
  obtain ⟨D, ho, hf⟩ := h; exact ⟨D, World.ownsMap.kept ho hg hne, hf⟩
theorem MapMid.alloc {w : World} {g N : Nat} {ks : List Key} {bl : Key → Nat} {s : Key} (h : MapMid w g N ks bl s) (o : Obj) : MapMid (w.alloc o) g N ks bl s := by
  obtain ⟨D, ho, hf⟩ := h; exact ⟨D, World.ownsMap.alloc ho o, hf⟩

theorem MapMid.toNew {w : World} {g N : Nat} {ks : List Key} {bl : Key → Nat} {s : ByteArray} (h : MapMid w g N ks bl s.data.toList) (hN : N < maxLen) (hs : s.size ≤ maxLen) (x : Nat) :
    ∃ w1, (Instr.mapUpdate 55 (.map (some g)) (.string s) (.pointer (some ⟨x, 0, none⟩))).run Yba.prog w = .ok () w1 ∧ w.grownBy w1 (some g) ∧ MapOf w1 g (N + 1) (insKey ks s.data.toList) (updBl bl s.data.toList x) := by
  obtain ⟨D, ho, ht, h1, h2, h3⟩ := h
  obtain ⟨w1, hrun, ho1, hg⟩ := World.ownsMap.update ho law Yba.underlying55 hN (keyOf_S hs) (val := .pointer (some ⟨x, 0, none⟩)) (d := .lit (.int .i64 x)) (ps := []) rfl
  refine ⟨w1, hrun, hg, _, ho1, ?_⟩
  generalize s.data.toList = s at *
  clear ho1 ho hs hrun
  refine ⟨?_, ?_, ?_⟩
  · rw [size_put (ht.put (keyLit s) _), has_put_same ht.isMap (keyLit s), if_pos rfl, size_put ht, h2 s, h1]
    unfold insKey
    by_cases hm : s ∈ ks <;> simp [hm]
  · intro t
    by_cases e : t = s
    · subst e
      rw [has_put_same (ht.put (keyLit t) _).isMap (keyLit t)]
      symm; simp [mem_insKey]
    · have hne : keyL t ≠ keyL s := fun h => e (keyL_inj h)
      rw [has_put_other hne, has_put_other hne, h2 t]
      simp [mem_insKey, e]
  · intro t ht'
    by_cases e : t = s
    · subst e
      rw [atKey_put_same (ht.put (keyLit t) _).isMap (keyLit t)]
      simp [updBl]
    · have hne : keyL t ≠ keyL s := fun h => e (keyL_inj h)
      rw [atKey_put_other hne, atKey_put_other hne, h3 t (by rcases mem_insKey.1 ht' with h | h; exact h; exact absurd h e)]
      simp [updBl, e]
end Go.Proofs.Ybulkdfgw
