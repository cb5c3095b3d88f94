import Derived.Test.YbulkdfdcApp
namespace Go.Proofs.Ybulkdfdc
open Go.ChangeShapes Go.WideShapes Go.ChangeAt Go.RowKit
set_option linter.unusedVariables false
set_option linter.unusedSimpArgs false

theorem inf5 : (Yba.prog.info? 5).map (fun i => (i.zero, i.size, i.bytes)) = some (some (.int .u8 0), 1, 1) := by kernel_rfl

theorem news_new (w : World) (cs : List Value) (t : TypeId) : ∀ j u, cs[j]? = some u → (w.alloc (.cells cs.toArray t)).cell? ((⟨w.heap.size, 0, none⟩ : Addr).add j) = some u := by
  intro j u h
  rw [Addr.add_mid]
  simpa using h

theorem news_at {w : World} {g : Nat} (hg : w.heap.size = g) (news cs : List Value) (e : news = cs) (t : TypeId) : ∀ j u, news[j]? = some u → (w.alloc (.cells cs.toArray t)).cell? ((⟨g, 0, none⟩ : Addr).add j) = some u := by
  subst e; subst hg; exact news_new w news t

def flagV (f : Bool) : Value := .int .u8 (if f then 1 else 0)

theorem flag22 (B : Nat) (v : Value) (xs : List Value) (f : Bool) (w : World) (hown : w.ownsRow B 5 1 v xs.length xs) (hlen : xs.length ≤ 1099511627776) (hB : B ≤ w.heap.size) :
    Calls Yba.prog 22 #[v, .bool f] w fun e w' => ∃ v', e = .returned v' ∧ App B 5 w v xs w' v' (xs ++ [flagV f]) := by
  obtain ⟨i5, hi5, h5a, h5b, h5c⟩ := info_parts inf5
  have HO : Hid _ := hown
  clear hown
  cases f
  · go_enter Yba.func22, Yba.ntmps22
    go_wp2_with (at_builtin; refine wpList_append_app _ rfl _ _ 23 rfl B 5 i5 (.int .u8 0) 1 Yba.underlying23 hi5 h5a h5b h5c rfl v xs rfl (World.ownsRow.alloc HO.out _) ⟨w.heap.size, 0, none⟩ 1 1 [.int .u8 0] rfl rfl (news_new w [.int .u8 0] 5) (by simp [Value.oneCell']) (by simp only [List.length_cons, List.length_nil]; unfold maxLen; omega) (by simp only [List.length_cons, List.length_nil]; omega) (by simp; omega) ?_; intro v1 w1 hA)
    go_ret
    exact ⟨v1, rfl, App.behind HO.out hA⟩
  · go_enter Yba.func22, Yba.ntmps22
    go_wp2_with (at_builtin; refine wpList_append_app _ rfl _ _ 23 rfl B 5 i5 (.int .u8 0) 1 Yba.underlying23 hi5 h5a h5b h5c rfl v xs rfl (World.ownsRow.alloc HO.out _) ⟨w.heap.size, 0, none⟩ 1 1 [.int .u8 1] rfl rfl (news_new w [.int .u8 1] 5) (by simp [Value.oneCell']) (by simp only [List.length_cons, List.length_nil]; unfold maxLen; omega) (by simp only [List.length_cons, List.length_nil]; omega) (by simp; omega) ?_; intro v1 w1 hA)
    go_ret
    exact ⟨v1, rfl, App.behind HO.out hA⟩

def bytesBE : Nat → Int → List Value
  | 0, _ => []
  | n + 1, x => .int .u8 (x / (2 ^ (8 * n) : Nat) % 256) :: bytesBE n x

@[simp] theorem length_bytesBE (n : Nat) (x : Int) : (bytesBE n x).length = n := by
  induction n with
  | zero => rfl
  | succ n ih => simp [bytesBE, ih]

theorem one_bytesBE (n : Nat) (x : Int) : ∀ u ∈ bytesBE n x, u.oneCell' = true := by
  induction n with
  | zero => intro u h; cases h
  | succ n ih =>
    intro u h
    rcases List.mem_cons.1 h with rfl | h
    · rfl
    · exact ih u h

set_option maxRecDepth 100000 in
theorem u64_20 (B : Nat) (v : Value) (xs : List Value) (x : Int) (w : World) (hown : w.ownsRow B 5 1 v xs.length xs) (hlen : xs.length ≤ 1099511627776) (hB : B ≤ w.heap.size) (h0 : 0 ≤ x) (h1 : x ≤ 18446744073709551615) :
    Calls Yba.prog 20 #[.agg #[], v, .int .u64 x] w fun e w' => ∃ v', e = .returned v' ∧ App B 5 w v xs w' v' (xs ++ bytesBE 8 x) := by
  obtain ⟨i5, hi5, h5a, h5b, h5c⟩ := info_parts inf5
  have HO : Hid _ := hown
  clear hown
  have e : bytesBE 8 x = [.int .u8 (x / 72057594037927936), .int .u8 (x / 281474976710656 % 256), .int .u8 (x / 1099511627776 % 256), .int .u8 (x / 4294967296 % 256), .int .u8 (x / 16777216 % 256), .int .u8 (x / 65536 % 256), .int .u8 (x / 256 % 256), .int .u8 (x % 256)] := by
    have : x / 72057594037927936 % 256 = x / 72057594037927936 := by omega
    simp [bytesBE, this]
  have HE : Hid _ := e
  clear e
  go_enter Yba.func20, Yba.ntmps20
  go_wp2_with (at_builtin; refine wpList_append_app _ rfl _ _ 23 rfl B 5 i5 (.int .u8 0) 1 Yba.underlying23 hi5 h5a h5b h5c rfl v xs rfl (World.ownsRow.alloc (World.ownsRow.alloc HO.out _) _) ⟨w.heap.size + 1, 0, none⟩ 8 8 (bytesBE 8 x) rfl rfl (news_at (by simp) _ _ HE.out 5) (one_bytesBE 8 x) (by rw [length_bytesBE]; unfold maxLen; omega) (by rw [length_bytesBE]; omega) (by simp; omega) ?_; intro v1 w1 hA)
  go_ret
  exact ⟨v1, rfl, App.behind HO.out (App.behind (World.ownsRow.alloc HO.out _) hA)⟩
end Go.Proofs.Ybulkdfdc
