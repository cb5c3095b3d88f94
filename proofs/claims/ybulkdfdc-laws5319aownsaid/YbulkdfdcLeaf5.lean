import Derived.Test.YbulkdfdcLeaf4
namespace Go.Proofs.Ybulkdfdc
open Go.ChangeShapes Go.WideShapes Go.ChangeAt Go.RowKit
set_option linter.unusedVariables false
set_option linter.unusedSimpArgs false

structure Sm where
  id : List Value
  t : Int
  node : List Value
  del : Bool
  size : Int

structure Sm.Ok (x : Sm) : Prop where
  id : ID20 x.id
  node : ID20 x.node
  t0 : 0 ≤ x.t
  t1 : x.t ≤ 18446744073709551615

def Sm.cells (x : Sm) : List Value := x.id ++ (.int .u64 x.t :: (x.node ++ [.bool x.del, .int .i64 x.size]))
def Sm.enc (x : Sm) : List Value := x.id ++ (bytesBE 8 x.t ++ x.node) ++ [flagV x.del] ++ bytesBE 4 (IntKind.u64.wrap x.size)
theorem Sm.Ok.length_enc {x : Sm} (h : x.Ok) : x.enc.length = 53 := by simp [Sm.enc, h.id.len, h.node.len]
theorem Sm.Ok.length_cells {x : Sm} (h : x.Ok) : x.cells.length = 43 := by simp [Sm.cells, h.id.len, h.node.len]
theorem Sm.Ok.one {x : Sm} (h : x.Ok) : ∀ u ∈ x.cells, u.oneCell' = true := by
  intro u hu
  simp only [Sm.cells, List.mem_append, List.mem_cons, List.not_mem_nil, or_false] at hu
  rcases hu with hu | rfl | hu | rfl | rfl
  · exact h.id.one u hu
  · rfl
  · exact h.node.one u hu
  · rfl
  · rfl

theorem news_block {w : World} {g o : Nat} {cs news : List Value} {t : TypeId} {fr : Nat × Nat} (h : w.heap[g]? = some (.cells cs.toArray t fr)) (hn : ∀ j u, news[j]? = some u → cs[o + j]? = some u) : ∀ j u, news[j]? = some u → w.cell? ((⟨g, o, none⟩ : Addr).add j) = some u := by
  intro j u hu
  rw [Addr.add_mid]
  exact cell_of_block h (hn j u hu)

theorem version36 (B : Nat) (v : Value) (xs : List Value) (t : Int) (x : List Value) (hx20 : ID20 x) (h0 : 0 ≤ t) (h1 : t ≤ 18446744073709551615) (w : World) (hown : w.ownsRow B 5 1 v xs.length xs) (hlen : xs.length + 40 ≤ 1099511627776) (hB : B ≤ w.heap.size) :
    Calls Yba.prog 36 #[v, .agg (.int .u64 t :: x).toArray] w fun e w' => ∃ v', e = .returned v' ∧ App B 5 w v xs w' v' (xs ++ (bytesBE 8 t ++ x)) := by
  obtain ⟨i5, hi5, h5a, h5b, h5c⟩ := info_parts inf5
  have HO : Hid _ := hown
  have hx := hx20.len
  have HX : Hid _ := hx20
  clear hown hx20
  have hA0 : Hid (App B 5 w v xs (w.alloc (.cells (.int .u64 t :: x).toArray 32)) v (xs ++ [])) := App.first HO.out _
  have hb0 : (w.alloc (.cells (.int .u64 t :: x).toArray 32)).heap[w.heap.size]? = some (.cells (.int .u64 t :: x).toArray 32 (0, 0)) := heap_alloc_new _ _
  have HB0 : Hid _ := hb0
  clear hb0
  go_enter Yba.func36, Yba.ntmps36
  go_wp2_with fail
  refine (u64_20 B v (xs ++ []) t _ hA0.out.own (by simp; omega) (by simp; omega) h0 h1).mono ?_
  rintro e w1 ⟨v1, rfl, hA⟩
  have H1 : Hid _ := App.next HO.out hA0.out hA
  have HB1 : Hid _ := App.other hA0.out.own hA HB0.out (by decide)
  have hz1 := H1.out.grown.size
  clear hA hA0 HB0
  go_wp2_with (at_builtin; refine wpList_append_app _ rfl _ _ 23 rfl B 5 i5 (.int .u8 0) 1 Yba.underlying23 hi5 h5a h5b h5c rfl v1 _ rfl H1.out.own ⟨w.heap.size, 1, none⟩ 20 20 x rfl hx.symm (news_block HB1.out (fun j u hu => by rw [Nat.add_comm]; exact hu)) HX.out.one (by simp [hx]; unfold maxLen; omega) (by simp [hx]; omega) (by omega) ?_; intro v2 w2 hA2)
  go_ret
  exact ⟨v2, rfl, by simpa using App.next HO.out H1.out hA2⟩

/-- THE MODEL's DIGEST, as the program's own. -/
theorem copy13 (x : Dg) (w : World) : Calls Yba.prog 13 #[.agg x.cells.toArray] w fun e w' => e = .returned (.agg x.cells.toArray) ∧ w' = (w.alloc (.cells x.cells.toArray 103)).alloc (.cells x.cells.toArray 111) := by
  obtain ⟨s, a, b, c, d⟩ := x
  simp only [Dg.cells]
  go_enter Yba.func13, Yba.ntmps13
  go_wp2_with fail
  exact bodyPost_ret (v := .agg #[.int .i64 s, .int .u64 a, .int .u64 b, .int .u64 c, .int .u64 d]) (by simp [results, Yba.results13, go_sem]) rfl ⟨rfl, rfl⟩

/-- THE BUILT-IN append IN A REGION THAT DRAWS. -/
theorem step_append_app {P : Program} {w : World} {ops : Array Oper} {o : Oper} {a : Act} {K : Act → World → Prop} {Q : Exit → Act → World → Prop} {E : Prop} (hgd : o.guard = none) (s x : Operand) (t : TypeId)
    (ho : o.op = .call { callee := .builtin .append, args := #[s, x], argTypes := #[t, t] })
    (B : Nat) (e : TypeId) (i : TypeInfo) (z : Value) (bytes : Nat) (ht : P.underlying t = some (.slice e)) (hi : P.info? e = some i) (hz : i.zero = some z)
    (hsize : i.size = 1) (hby : i.bytes = bytes) (hzs : z.cells.size = 1) (v : Value) (xs : List Value) (hs : a.eval s = v) (hown : w.ownsRow B e 1 v xs.length xs)
    (ad : Addr) (m c : Nat) (news : List Value) (hx : a.eval x = .slice (some ad) m c) (hm : m = news.length) (hnews : ∀ j u, news[j]? = some u → w.cell? (ad.add j) = some u) (h1 : ∀ u ∈ news, u.oneCell' = true)
    (h63 : xs.length + news.length ≤ maxLen) (hbytes : (xs.length + news.length) * bytes ≤ 140737488355328) (hbase : B ≤ w.heap.size)
    (h : ∀ v' w', App B e w v xs w' v' (xs ++ news) → K (a.put o.dst v') w') : if Region.wanted o (yielded ops a.tmps) = true then Oper.wp P o a w K Q else E := by
  have hw : Region.wanted o (yielded ops a.tmps) = true := by simp [Region.wanted, hgd]
  rw [if_pos hw]
  subst hm
  obtain ⟨v', w', hr, hA⟩ := run_append_app (P := P) w B t o.type e i z bytes ht hi hz hsize hby hzs v xs hown ad c news hnews h1 h63 hbytes hbase
  unfold Oper.wp execOp
  simp only [ho, resolve, invoke, builtin, Sem.run_bind, Sem.run_pure, Result.andThen_ok, List.map_toArray, List.map_cons, List.map_nil, hs, hx, hr]
  exact h v' w' hA
end Go.Proofs.Ybulkdfdc
