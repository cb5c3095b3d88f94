import Derived.Test.YbulkdfdcLeaf
namespace Go.Proofs.Ybulkdfdc
open Go.ChangeShapes Go.WideShapes Go.ChangeAt Go.RowKit
set_option linter.unusedVariables false
set_option linter.unusedSimpArgs false

set_option maxRecDepth 100000 in
theorem u32_21 (B : Nat) (v : Value) (xs : List Value) (x : Int) (w : World) (hown : w.ownsRow B 5 1 v xs.length xs) (hlen : xs.length ≤ 1099511627776) (hB : B ≤ w.heap.size) (h0 : 0 ≤ x) (h1 : x ≤ 4294967295) :
    Calls Yba.prog 21 #[.agg #[], v, .int .u32 x] w fun e w' => ∃ v', e = .returned v' ∧ App B 5 w v xs w' v' (xs ++ bytesBE 4 x) := by
  obtain ⟨i5, hi5, h5a, h5b, h5c⟩ := info_parts inf5
  have HO : Hid _ := hown
  clear hown
  have e : bytesBE 4 x = [.int .u8 (x / 16777216), .int .u8 (x / 65536 % 256), .int .u8 (x / 256 % 256), .int .u8 (x % 256)] := by
    have : x / 16777216 % 256 = x / 16777216 := by omega
    simp [bytesBE, this]
  have HE : Hid _ := e
  clear e
  go_enter Yba.func21, Yba.ntmps21
  go_wp2_with (at_builtin; refine wpList_append_app _ rfl _ _ 23 rfl B 5 i5 (.int .u8 0) 1 Yba.underlying23 hi5 h5a h5b h5c rfl v xs rfl (World.ownsRow.alloc (World.ownsRow.alloc HO.out _) _) ⟨w.heap.size + 1, 0, none⟩ 4 4 (bytesBE 4 x) rfl rfl (news_at (by simp) _ _ HE.out 5) (one_bytesBE 4 x) (by rw [length_bytesBE]; unfold maxLen; omega) (by rw [length_bytesBE]; omega) (by simp; omega) ?_; intro v1 w1 hA)
  go_ret
  exact ⟨v1, rfl, App.behind HO.out (App.behind (World.ownsRow.alloc HO.out _) hA)⟩

theorem flag26 (B : Nat) (v : Value) (xs : List Value) (f : Bool) (w : World) (hown : w.ownsRow B 5 1 v xs.length xs) (hlen : xs.length ≤ 1099511627776) (hB : B ≤ w.heap.size) :
    Calls Yba.prog 26 #[v, .bool f] w fun e w' => ∃ v', e = .returned v' ∧ App B 5 w v xs w' v' (xs ++ [flagV f]) := by
  obtain ⟨i5, hi5, h5a, h5b, h5c⟩ := info_parts inf5
  have HO : Hid _ := hown
  clear hown
  cases f
  · go_enter Yba.func26, Yba.ntmps26
    go_wp2_with (at_builtin; refine wpList_append_app _ rfl _ _ 23 rfl B 5 i5 (.int .u8 0) 1 Yba.underlying23 hi5 h5a h5b h5c rfl v xs rfl (World.ownsRow.alloc HO.out _) ⟨w.heap.size, 0, none⟩ 1 1 [.int .u8 0] rfl rfl (news_new w [.int .u8 0] 5) (by simp [Value.oneCell']) (by simp only [List.length_cons, List.length_nil]; unfold maxLen; omega) (by simp only [List.length_cons, List.length_nil]; omega) (by simp; omega) ?_; intro v1 w1 hA)
    go_ret
    exact ⟨v1, rfl, App.behind HO.out hA⟩
  · go_enter Yba.func26, Yba.ntmps26
    go_wp2_with (at_builtin; refine wpList_append_app _ rfl _ _ 23 rfl B 5 i5 (.int .u8 0) 1 Yba.underlying23 hi5 h5a h5b h5c rfl v xs rfl (World.ownsRow.alloc HO.out _) ⟨w.heap.size, 0, none⟩ 1 1 [.int .u8 1] rfl rfl (news_new w [.int .u8 1] 5) (by simp [Value.oneCell']) (by simp only [List.length_cons, List.length_nil]; unfold maxLen; omega) (by simp only [List.length_cons, List.length_nil]; omega) (by simp; omega) ?_; intro v1 w1 hA)
    go_ret
    exact ⟨v1, rfl, App.behind HO.out hA⟩

theorem put_step {B : Nat} {w wr w1 : World} {v vv v1 : Value} {xs ys : List Value} {x e : Int} {k n : Nat} {o : Obj} (hown : w.ownsRow B 5 1 v xs.length xs) (hA : App B 5 w v xs wr vv ys) (h1 : App B 5 (wr.alloc o) vv ys w1 v1 (ys ++ [.int .u8 e]))
    (hy : ys ++ bytesBE (k + 1) x = xs ++ bytesBE n x) (he : x / (2 ^ (8 * k) : Nat) % 256 = e) (hk : k + 1 ≤ n) :
    ∃ (k' : Nat) (ys : List Value) (j : Int), k' ≤ n ∧ (Value.int .i64 ((k : Int) - 1)) = .int .i64 j ∧ j = (k' : Int) - 1 ∧ App B 5 w v xs w1 v1 ys ∧ ys ++ bytesBE k' x = xs ++ bytesBE n x := by
  refine ⟨k, ys ++ [.int .u8 e], _, by omega, rfl, rfl, App.trans hown hA (App.behind hA.own h1), ?_⟩
  rw [← hy, ← he]
  simp [bytesBE]

theorem lastByte (x : Int) (h0 : 0 ≤ x) (h1 : x ≤ 18446744073709551615) : x / 72057594037927936 % 256 = x / 72057594037927936 := by omega

/-- THE MODEL's PUT: n bytes, the highest first. -/
theorem put25 (B : Nat) (v : Value) (xs : List Value) (x : Int) (n : Nat) (hn : n = 8 ∨ n = 4) (w : World) (hown : w.ownsRow B 5 1 v xs.length xs) (hlen : xs.length ≤ 1099511627776) (hB : B ≤ w.heap.size) (h0 : 0 ≤ x) (h1 : x ≤ 18446744073709551615) :
    Calls Yba.prog 25 #[v, .int .u64 x, .int .i64 n] w fun e w' => ∃ v', e = .returned v' ∧ App B 5 w v xs w' v' (xs ++ bytesBE n x) := by
  obtain ⟨i5, hi5, h5a, h5b, h5c⟩ := info_parts inf5
  have hn8 : n ≤ 8 := by omega
  have hn0 : 4 ≤ n := by omega
  have HO : Hid _ := hown
  clear hown hn
  go_enter Yba.func25, Yba.ntmps25
  go_wp2_with fail
  go_loopw [0, 7] (fun vv i wr => ∃ (k : Nat) (ys : List Value) (j : Int), k ≤ n ∧ i = .int .i64 j ∧ j = (k : Int) - 1 ∧ App B 5 w v xs wr vv ys ∧ ys ++ bytesBE k x = xs ++ bytesBE n x) (fun _ i _ => (intOf i + 1).toNat)
  case atStart => exact ⟨n, xs, _, Nat.le_refl _, rfl, rfl, App.refl HO.out, rfl⟩
  case round =>
    obtain ⟨k, ys, j, hk, rfl, hj, hA, hys⟩ := hrel
    have HA : Hid _ := hA
    have HY : Hid _ := hys
    have hyl : ys.length + k = xs.length + n := by have := congrArg List.length hys; simpa using this
    have hz := hA.grown.size
    clear hA hys
    rcases k with _ | k
    · obtain rfl : j = -1 := by omega
      clear hj
      go_wp2_with fail
      go_ret
      have := HY.out
      simp only [bytesBE, List.append_nil] at this
      rw [← this]
      exact ⟨u0, rfl, HA.out⟩
    · have hk7 : k = 0 ∨ k = 1 ∨ k = 2 ∨ k = 3 ∨ k = 4 ∨ k = 5 ∨ k = 6 ∨ k = 7 := by omega
      rcases hk7 with rfl | rfl | rfl | rfl | rfl | rfl | rfl | rfl
      · obtain rfl : j = 0 := by omega
        clear hj
        go_wp2_with (at_builtin; refine wpList_append_app _ rfl _ _ 23 rfl B 5 i5 (.int .u8 0) 1 Yba.underlying23 hi5 h5a h5b h5c rfl u0 ys rfl (World.ownsRow.alloc HA.out.own _) ⟨wr.heap.size, 0, none⟩ 1 1 [.int .u8 _] rfl rfl (news_at rfl _ _ rfl 5) (by simp [Value.oneCell']) (by simp only [List.length_cons, List.length_nil]; unfold maxLen; omega) (by simp only [List.length_cons, List.length_nil]; omega) (by simp; omega) ?_; intro v1 w1 hA)
        have R := put_step HO.out HA.out hA HY.out (by simp) hk
        clear hA
        go_roundw
        case rel => exact R
        case measure => simp [intOf]
      · obtain rfl : j = 1 := by omega
        clear hj
        go_wp2_with (at_builtin; refine wpList_append_app _ rfl _ _ 23 rfl B 5 i5 (.int .u8 0) 1 Yba.underlying23 hi5 h5a h5b h5c rfl u0 ys rfl (World.ownsRow.alloc HA.out.own _) ⟨wr.heap.size, 0, none⟩ 1 1 [.int .u8 _] rfl rfl (news_at rfl _ _ rfl 5) (by simp [Value.oneCell']) (by simp only [List.length_cons, List.length_nil]; unfold maxLen; omega) (by simp only [List.length_cons, List.length_nil]; omega) (by simp; omega) ?_; intro v1 w1 hA)
        have R := put_step HO.out HA.out hA HY.out (by simp) hk
        clear hA
        go_roundw
        case rel => exact R
        case measure => simp [intOf]
      · obtain rfl : j = 2 := by omega
        clear hj
        go_wp2_with (at_builtin; refine wpList_append_app _ rfl _ _ 23 rfl B 5 i5 (.int .u8 0) 1 Yba.underlying23 hi5 h5a h5b h5c rfl u0 ys rfl (World.ownsRow.alloc HA.out.own _) ⟨wr.heap.size, 0, none⟩ 1 1 [.int .u8 _] rfl rfl (news_at rfl _ _ rfl 5) (by simp [Value.oneCell']) (by simp only [List.length_cons, List.length_nil]; unfold maxLen; omega) (by simp only [List.length_cons, List.length_nil]; omega) (by simp; omega) ?_; intro v1 w1 hA)
        have R := put_step HO.out HA.out hA HY.out (by simp) hk
        clear hA
        go_roundw
        case rel => exact R
        case measure => simp [intOf]
      · obtain rfl : j = 3 := by omega
        clear hj
        go_wp2_with (at_builtin; refine wpList_append_app _ rfl _ _ 23 rfl B 5 i5 (.int .u8 0) 1 Yba.underlying23 hi5 h5a h5b h5c rfl u0 ys rfl (World.ownsRow.alloc HA.out.own _) ⟨wr.heap.size, 0, none⟩ 1 1 [.int .u8 _] rfl rfl (news_at rfl _ _ rfl 5) (by simp [Value.oneCell']) (by simp only [List.length_cons, List.length_nil]; unfold maxLen; omega) (by simp only [List.length_cons, List.length_nil]; omega) (by simp; omega) ?_; intro v1 w1 hA)
        have R := put_step HO.out HA.out hA HY.out (by simp) hk
        clear hA
        go_roundw
        case rel => exact R
        case measure => simp [intOf]
      · obtain rfl : j = 4 := by omega
        clear hj
        go_wp2_with (at_builtin; refine wpList_append_app _ rfl _ _ 23 rfl B 5 i5 (.int .u8 0) 1 Yba.underlying23 hi5 h5a h5b h5c rfl u0 ys rfl (World.ownsRow.alloc HA.out.own _) ⟨wr.heap.size, 0, none⟩ 1 1 [.int .u8 _] rfl rfl (news_at rfl _ _ rfl 5) (by simp [Value.oneCell']) (by simp only [List.length_cons, List.length_nil]; unfold maxLen; omega) (by simp only [List.length_cons, List.length_nil]; omega) (by simp; omega) ?_; intro v1 w1 hA)
        have R := put_step HO.out HA.out hA HY.out (by simp) hk
        clear hA
        go_roundw
        case rel => exact R
        case measure => simp [intOf]
      · obtain rfl : j = 5 := by omega
        clear hj
        go_wp2_with (at_builtin; refine wpList_append_app _ rfl _ _ 23 rfl B 5 i5 (.int .u8 0) 1 Yba.underlying23 hi5 h5a h5b h5c rfl u0 ys rfl (World.ownsRow.alloc HA.out.own _) ⟨wr.heap.size, 0, none⟩ 1 1 [.int .u8 _] rfl rfl (news_at rfl _ _ rfl 5) (by simp [Value.oneCell']) (by simp only [List.length_cons, List.length_nil]; unfold maxLen; omega) (by simp only [List.length_cons, List.length_nil]; omega) (by simp; omega) ?_; intro v1 w1 hA)
        have R := put_step HO.out HA.out hA HY.out (by simp) hk
        clear hA
        go_roundw
        case rel => exact R
        case measure => simp [intOf]
      · obtain rfl : j = 6 := by omega
        clear hj
        go_wp2_with (at_builtin; refine wpList_append_app _ rfl _ _ 23 rfl B 5 i5 (.int .u8 0) 1 Yba.underlying23 hi5 h5a h5b h5c rfl u0 ys rfl (World.ownsRow.alloc HA.out.own _) ⟨wr.heap.size, 0, none⟩ 1 1 [.int .u8 _] rfl rfl (news_at rfl _ _ rfl 5) (by simp [Value.oneCell']) (by simp only [List.length_cons, List.length_nil]; unfold maxLen; omega) (by simp only [List.length_cons, List.length_nil]; omega) (by simp; omega) ?_; intro v1 w1 hA)
        have R := put_step HO.out HA.out hA HY.out (by simp) hk
        clear hA
        go_roundw
        case rel => exact R
        case measure => simp [intOf]
      · obtain rfl : j = 7 := by omega
        clear hj
        go_wp2_with (at_builtin; refine wpList_append_app _ rfl _ _ 23 rfl B 5 i5 (.int .u8 0) 1 Yba.underlying23 hi5 h5a h5b h5c rfl u0 ys rfl (World.ownsRow.alloc HA.out.own _) ⟨wr.heap.size, 0, none⟩ 1 1 [.int .u8 _] rfl rfl (news_at rfl _ _ rfl 5) (by simp [Value.oneCell']) (by simp only [List.length_cons, List.length_nil]; unfold maxLen; omega) (by simp only [List.length_cons, List.length_nil]; omega) (by simp; omega) ?_; intro v1 w1 hA)
        have R := put_step HO.out HA.out hA HY.out (by simpa using lastByte x h0 h1) hk
        clear hA
        go_roundw
        case rel => exact R
        case measure => simp [intOf]
end Go.Proofs.Ybulkdfdc
