import Derived.Test.YbulkdfeeGreatDoorGroup3
namespace Go.Proofs.YbulkdfeeGreatDoor
set_option linter.unusedVariables false
set_option linter.unusedSimpArgs false

/-! ### What newViewRule reckons, in plain words -/
def nn (L : List Int) : List Int := L.filter (fun x => decide (0 ≤ x))
def keys (L : List Int) : List Nat := (nn L).map Int.toNat
def idx (L : List Int) (j : Nat) : List Nat := (List.range j).filter (fun q => decide (0 ≤ L.getD q (-2)))
def cnt (L : List Int) (s j : Nat) : Nat := ((L.take j).drop s).count (-1)
theorem take_succ' {L : List Int} {j : Nat} {x : Int} (h : L[j]? = some x) : L.take (j + 1) = L.take j ++ [x] := by rw [List.take_add_one, h]; rfl
theorem getD_at {L : List Int} {j : Nat} {x : Int} (h : L[j]? = some x) : L.getD j (-2) = x := by simp [List.getD, h]
theorem nn_pos {L : List Int} {j : Nat} {x : Int} (h : L[j]? = some x) (hx : 0 ≤ x) : nn (L.take (j + 1)) = nn (L.take j) ++ [x] := by
  rw [take_succ' h]; simp [nn, hx]
theorem nn_neg {L : List Int} {j : Nat} {x : Int} (h : L[j]? = some x) (hx : ¬ 0 ≤ x) : nn (L.take (j + 1)) = nn (L.take j) := by
  rw [take_succ' h]; simp [nn]; omega
theorem idx_pos {L : List Int} {j : Nat} {x : Int} (h : L[j]? = some x) (hx : 0 ≤ x) : idx L (j + 1) = idx L j ++ [j] := by
  unfold idx
  rw [List.range_succ, List.filter_append]
  have := getD_at h
  simp only [List.filter_cons, this, hx, decide_true, if_true, List.filter_nil]
theorem idx_neg {L : List Int} {j : Nat} {x : Int} (h : L[j]? = some x) (hx : ¬ 0 ≤ x) : idx L (j + 1) = idx L j := by
  unfold idx
  rw [List.range_succ, List.filter_append]
  have := getD_at h
  simp only [List.filter_cons, this, hx, decide_false, List.filter_nil, List.append_nil]
  simp
theorem cnt_one {L : List Int} {s j : Nat} (hs : s ≤ j) (h : L[j]? = some (-1)) : cnt L s (j + 1) = cnt L s j + 1 := by
  unfold cnt
  have hl : j < L.length := (List.getElem?_eq_some_iff.1 h).1
  rw [take_succ' h, List.drop_append_of_le_length (by rw [List.length_take]; omega)]
  simp
theorem cnt_no {L : List Int} {s j : Nat} {x : Int} (hs : s ≤ j) (h : L[j]? = some x) (hx : x ≠ -1) : cnt L s (j + 1) = cnt L s j := by
  unfold cnt
  have hl : j < L.length := (List.getElem?_eq_some_iff.1 h).1
  rw [take_succ' h, List.drop_append_of_le_length (by rw [List.length_take]; omega)]
  simp [List.count_cons, hx]
theorem cnt_self (L : List Int) (s : Nat) : cnt L s s = 0 := by
  unfold cnt
  rw [List.drop_of_length_le (by rw [List.length_take]; omega)]; rfl
theorem cnt_le (L : List Int) (s j : Nat) : cnt L s j ≤ L.length := by
  unfold cnt
  refine Nat.le_trans List.count_le_length ?_
  simp; omega
theorem nn_le (L : List Int) (j : Nat) : (nn (L.take j)).length ≤ L.length := by
  unfold nn
  refine Nat.le_trans (List.length_filter_le _ _) ?_
  rw [List.length_take]; omega
theorem idx_le (L : List Int) (j : Nat) : (idx L j).length ≤ j := by
  unfold idx
  refine Nat.le_trans (List.length_filter_le _ _) ?_
  simp
theorem keys_map (L : List Int) : (keys L).map (fun k : Nat => (k : Int)) = nn L := by
  unfold keys
  rw [List.map_map]
  conv => rhs; rw [← List.map_id (nn L)]
  refine List.map_congr_left fun x hx => ?_
  have : 0 ≤ x := by simpa using (List.mem_filter.1 hx).2
  simp; omega
theorem len_keys (L : List Int) : (keys L).length = (nn L).length := by simp [keys]
theorem keys_lt {L : List Int} {T : Nat} (h : ∀ x ∈ L, x < T) : ∀ k ∈ keys L, k < T := fun k hk => by
  obtain ⟨x, hx, rfl⟩ := List.mem_map.1 hk
  have h1 := (List.mem_filter.1 hx)
  have h2 : 0 ≤ x := by simpa using h1.2
  have := h x h1.1
  omega
/-- The read at 'j' is the key numbered 'how many before it'. -/
theorem key_at {L : List Int} {j : Nat} {x : Int} (h : L[j]? = some x) (hx : 0 ≤ x) : (nn L)[(nn (L.take j)).length]? = some x := by
  have hl : j < L.length := (List.getElem?_eq_some_iff.1 h).1
  have e : L = L.take (j + 1) ++ L.drop (j + 1) := (List.take_append_drop _ _).symm
  have : nn L = nn (L.take j) ++ ([x] ++ nn (L.drop (j + 1))) := by
    conv => lhs; rw [e]
    rw [show nn (L.take (j + 1) ++ L.drop (j + 1)) = nn (L.take (j + 1)) ++ nn (L.drop (j + 1)) from List.filter_append .., nn_pos h hx, List.append_assoc]
  rw [this, List.getElem?_append_right (Nat.le_refl _), Nat.sub_self]
  rfl
theorem take_nn {L : List Int} {j : Nat} : (nn L).take (nn (L.take j)).length = nn (L.take j) := by
  have e : L = L.take j ++ L.drop j := (List.take_append_drop _ _).symm
  have : nn L = nn (L.take j) ++ nn (L.drop j) := by
    conv => lhs; rw [e]
    exact List.filter_append ..
  rw [this, List.take_left]
theorem len_idx (L : List Int) : ∀ j, j ≤ L.length → (idx L j).length = (nn (L.take j)).length
  | 0, _ => by simp [idx, nn]
  | j + 1, h => by
    have h0 := List.getElem?_eq_getElem (show j < L.length by omega)
    have ih := len_idx L j (by omega)
    by_cases hx : 0 ≤ L[j]
    · rw [idx_pos h0 hx, nn_pos h0 hx, List.length_append, List.length_append, ih]; rfl
    · rw [idx_neg h0 hx, nn_neg h0 hx, ih]
theorem idx_prefix (L : List Int) : ∀ m j, j ≤ m → m ≤ L.length → ∃ r, idx L m = idx L j ++ r
  | 0, j, h, _ => ⟨[], by obtain rfl : j = 0 := by omega
                          simp⟩
  | m + 1, j, h, hm => by
    by_cases e : j = m + 1
    · exact ⟨[], by rw [e]; simp⟩
    · obtain ⟨r, hr⟩ := idx_prefix L m j (by omega) (by omega)
      have h0 := List.getElem?_eq_getElem (show m < L.length by omega)
      by_cases hx : 0 ≤ L[m]
      · exact ⟨r ++ [m], by rw [idx_pos h0 hx, hr, List.append_assoc]⟩
      · exact ⟨r, by rw [idx_neg h0 hx, hr]⟩
theorem idx_at {L : List Int} {j : Nat} {x : Int} (h : L[j]? = some x) (hx : 0 ≤ x) : (idx L L.length)[(nn (L.take j)).length]? = some j := by
  have hl : j < L.length := (List.getElem?_eq_some_iff.1 h).1
  obtain ⟨r, hr⟩ := idx_prefix L L.length (j + 1) (by omega) (Nat.le_refl _)
  rw [hr, idx_pos h hx, List.append_assoc, List.getElem?_append_right (by rw [len_idx L j (by omega)]; exact Nat.le_refl _), len_idx L j (by omega), Nat.sub_self]
  rfl
theorem count_keys (L : List Int) (s : Nat) : (keys L).count s = L.count (s : Int) := by
  unfold keys nn
  induction L with
  | nil => rfl
  | cons x L ih =>
    rw [List.count_cons, List.filter_cons]
    by_cases hx : 0 ≤ x
    · simp only [hx, decide_true, if_true, List.map_cons, List.count_cons, ih]
      by_cases e : x.toNat = s
      · have : x = (s : Int) := by omega
        simp [e, this]
      · have : ¬ x = (s : Int) := by omega
        simp [e, this]
    · have : ¬ x = (s : Int) := by omega
      simp [hx, this, ih]
/-- The place of the read at 'j' among the readers of 's'. -/
theorem pos_at {L : List Int} {j s : Nat} (h : L[j]? = some (s : Int)) : pos (keys L) (nn (L.take j)).length = pre (keys L) s + (L.take j).count (s : Int) := by
  have h1 : (keys L)[(nn (L.take j)).length]? = some s := by
    unfold keys; rw [List.getElem?_map, key_at h (by omega)]; simp
  rw [pos_eq h1]
  congr 1
  rw [show (keys L).take (nn (L.take j)).length = keys (L.take j) from by unfold keys; rw [← List.map_take, take_nn], count_keys]
/-- The open counts while the item 'i' is being counted. -/
def ofn (L : List Int) (us : Nat → Nat) (i k i' : Nat) : Int := if i' < i then (cnt L (us i') (us (i' + 1)) : Int) else if i' = i then (cnt L (us i) (us i + k) : Int) else 0
theorem ofn_start (L : List Int) (us : Nat → Nat) (i' : Nat) : (0 : Int) = ofn L us 0 0 i' := by
  unfold ofn
  rw [if_neg (by omega), Nat.add_zero, cnt_self]; split <;> rfl
theorem ofn_next {L : List Int} {us : Nat → Nat} {i m : Nat} (h : us i + m = us (i + 1)) (i' : Nat) : ofn L us i m i' = ofn L us (i + 1) 0 i' := by
  unfold ofn
  rcases Nat.lt_trichotomy i' i with h1 | h1 | h1
  · rw [if_pos h1, if_pos (by omega)]
  · subst h1; rw [if_neg (by omega), if_pos rfl, if_pos (by omega), h]
  · rw [if_neg (by omega), if_neg (by omega), if_neg (by omega)]
    split
    · show (0 : Int) = ((cnt L (us (i + 1)) (us (i + 1)) : Nat) : Int)
      rw [cnt_self]; rfl
    · rfl
theorem ofn_inc {L : List Int} {us : Nat → Nat} {i k : Nat} (h : L[us i + k]? = some (-1)) (i' : Nat) : (if i' = i then ofn L us i k i + 1 else ofn L us i k i') = ofn L us i (k + 1) i' := by
  unfold ofn
  by_cases e : i' = i
  · subst e
    have n : ¬ i' < i' := Nat.lt_irrefl _
    have e := cnt_one (show us i' ≤ us i' + k by omega) h
    simp only [n, if_false, if_true]
    rw [show us i' + (k + 1) = us i' + k + 1 by omega, e]; omega
  · rw [if_neg e, if_neg e, if_neg e]
theorem ofn_same {L : List Int} {us : Nat → Nat} {i k : Nat} {x : Int} (h : L[us i + k]? = some x) (hx : x ≠ -1) (i' : Nat) : ofn L us i k i' = ofn L us i (k + 1) i' := by
  unfold ofn
  by_cases e : i' = i
  · subst e
    have n : ¬ i' < i' := Nat.lt_irrefl _
    have e := cnt_no (show us i' ≤ us i' + k by omega) h hx
    simp only [n, if_false, if_true]
    rw [show us i' + (k + 1) = us i' + k + 1 by omega, e]
  · rw [if_neg e, if_neg e]
theorem ofn_le (L : List Int) (us : Nat → Nat) (i k i' : Nat) : 0 ≤ ofn L us i k i' ∧ ofn L us i k i' ≤ L.length := by
  unfold ofn
  have h1 := cnt_le L (us i') (us (i' + 1))
  have h2 := cnt_le L (us i) (us i + k)
  split
  · omega
  · split <;> omega
theorem bnd_succ {L : List Int} {cs : List Nat} {p c s : Nat} (hc : cs[p]? = some c) (hL : L[c]? = some (s : Int)) (j : Nat) : (if j = s then true else (cs.take p).any (fun c => decide (L.getD c (-2) = (j : Int)))) = (cs.take (p + 1)).any (fun c => decide (L.getD c (-2) = (j : Int))) := by
  have e : cs.take (p + 1) = cs.take p ++ [c] := by rw [List.take_add_one, hc]; rfl
  have g := getD_at hL
  rw [e, List.any_append, List.any_cons, List.any_nil, Bool.or_false, g]
  by_cases h : j = s
  · subst h; simp
  · have : ¬ ((s : Int) = (j : Int)) := by omega
    simp [h, this]
end Go.Proofs.YbulkdfeeGreatDoor
