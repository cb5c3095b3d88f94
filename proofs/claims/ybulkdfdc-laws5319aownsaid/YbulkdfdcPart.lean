import Derived.Test.YbulkdfdcReads
namespace Go.Proofs.Ybulkdfdc
open Go.ChangeShapes Go.WideShapes Go.ChangeAt Go.RowKit
set_option linter.unusedVariables false
set_option linter.unusedSimpArgs false

structure Pt where
  ins : Bool
  has : Bool
  dg : Dg
  sp : List Dg
  th : List Value
  st : List Sm

structure Pt.Ok (p : Pt) : Prop where
  dg : p.dg.Ok
  sp : ∀ x ∈ p.sp, x.Ok
  th : ID20 p.th
  st : ∀ x ∈ p.st, x.Ok
  spn : p.sp.length ≤ 1024
  stn : p.st.length ≤ 1024

/-- What follows the flag of a part. -/
def Pt.body (p : Pt) : List Value :=
  if p.ins then [] else p.dg.enc ++ (if p.has then [flagV true] ++ p.sp.flatMap Dg.enc else [flagV false] ++ (p.th ++ encSms p.st))
def Pt.enc (p : Pt) : List Value := [flagV p.ins] ++ p.body

theorem len_dgs (L : List Dg) : (L.flatMap Dg.enc).length = 40 * L.length := by
  induction L with
  | nil => rfl
  | cons x L ih => simp only [List.flatMap_cons, List.length_append, List.length_cons, ih, Dg.length_enc]; omega

theorem Pt.Ok.len {p : Pt} (h : p.Ok) : p.enc.length ≤ 60000 := by
  have h1 := h.spn
  have h2 := h.stn
  have h3 := len_encs h.st
  have h4 := len_dgs p.sp
  have h5 := h.th.len
  unfold Pt.enc Pt.body encSms
  cases p.ins <;> cases p.has <;> simp [h3, h4, h5] <;> omega

theorem len_pts {L : List Pt} (h : ∀ p ∈ L, p.Ok) : (L.flatMap Pt.enc).length ≤ 60000 * L.length := by
  induction L with
  | nil => simp
  | cons x L ih =>
    have h1 := ih (fun y hy => h y (List.mem_cons_of_mem _ hy))
    have h2 := (h x (List.mem_cons_self)).len
    simp only [List.flatMap_cons, List.length_append, List.length_cons]
    omega

theorem len_pts_take {L : List Pt} (h : ∀ p ∈ L, p.Ok) (k : Nat) : ((L.take k).flatMap Pt.enc).length ≤ 60000 * L.length := by
  have h1 := len_pts (L := L.take k) (fun x hx => h x (List.mem_of_mem_take hx))
  have h2 : (L.take k).length ≤ L.length := by rw [List.length_take]; omega
  omega

theorem len_dgs_take (L : List Dg) (k : Nat) : ((L.take k).flatMap Dg.enc).length ≤ 40 * L.length := by
  rw [len_dgs, List.length_take]; omega

def encAns (room : Int) (ps : List Pt) : List Value := bytesBE 8 (IntKind.u64.wrap room) ++ bytesBE 4 (ps.length : Int) ++ ps.flatMap Pt.enc

/-- The cells of a PartAnswer; of the law's own part. -/
def anCells (p : Pt) (spV stV : Value) : List Value := .bool p.ins :: (p.dg.cells ++ (spV :: (p.th ++ [stV])))
def ptCells (p : Pt) (spV stV : Value) : List Value := .bool p.ins :: .bool p.has :: (p.dg.cells ++ (spV :: (p.th ++ [stV])))

def AnRow (B : Nat) (w : World) (p : Pt) (cs : List Value) : Prop :=
  ∃ spV stA stC, cs = anCells p spV (.slice stA p.st.length stC) ∧ (p.has = true → ∃ ad spC, spV = .slice (some ad) p.sp.length spC ∧ Reads B w (some ad) 5 (p.sp.map Dg.cells)) ∧ (p.has = false → spV = .slice none 0 0) ∧ Reads B w stA 43 (p.st.map Sm.cells)

def PtRow (B : Nat) (w : World) (p : Pt) (cs : List Value) : Prop :=
  ∃ spA spC stA stC, cs = ptCells p (.slice spA p.sp.length spC) (.slice stA p.st.length stC) ∧ Reads B w spA 5 (p.sp.map Dg.cells) ∧ Reads B w stA 43 (p.st.map Sm.cells)

/-- THE PARTS lie at a slice's address. -/
def RowsAt (R : World → Pt → List Value → Prop) (B : Nat) (w : World) (a : Option Addr) (size : Nat) (ps : List Pt) : Prop :=
  ps ≠ [] → ∃ b o, a = some ⟨b, o, none⟩ ∧ Fix B w b ∧ ∀ i p, ps[i]? = some p → ∃ cs, R w p cs ∧ w.rangeAt b (o + i * size) cs

theorem AnRow.app {B : Nat} {w w1 : World} {v v1 : Value} {xs xs1 : List Value} (h0 : w.ownsRow B 5 1 v xs.length xs) (h : App B 5 w v xs w1 v1 xs1) {p : Pt} {cs : List Value} (hr : AnRow B w p cs) : AnRow B w1 p cs := by
  obtain ⟨spV, stA, stC, e, hs, hn, hr⟩ := hr
  exact ⟨spV, stA, stC, e, fun hh => ex_map (hs hh) fun ad => fun ⟨spC, e1, hr1⟩ => ⟨spC, e1, hr1.app h0 h⟩, hn, hr.app h0 h⟩

theorem PtRow.app {B : Nat} {w w1 : World} {v v1 : Value} {xs xs1 : List Value} (h0 : w.ownsRow B 5 1 v xs.length xs) (h : App B 5 w v xs w1 v1 xs1) {p : Pt} {cs : List Value} (hr : PtRow B w p cs) : PtRow B w1 p cs := by
  obtain ⟨spA, spC, stA, stC, e, hs, hr⟩ := hr
  exact ⟨spA, spC, stA, stC, e, hs.app h0 h, hr.app h0 h⟩

theorem RowsAt.app {R : World → Pt → List Value → Prop} {B : Nat} {w w1 : World} {v v1 : Value} {xs xs1 : List Value} {a : Option Addr} {size : Nat} {ps : List Pt} (h0 : w.ownsRow B 5 1 v xs.length xs) (h : App B 5 w v xs w1 v1 xs1)
    (hR : ∀ p cs, R w p cs → R w1 p cs) (hr : RowsAt R B w a size ps) : RowsAt R B w1 a size ps := fun hL => by
  obtain ⟨b, o, ha, hf, hc⟩ := hr hL
  obtain ⟨e, hf1⟩ := Fix.app h0 h hf
  exact ⟨b, o, ha, hf1, fun i p hi => ex_map (hc i p hi) fun cs => fun ⟨h1, h2⟩ => ⟨hR p cs h1, rangeAt_block e h2⟩⟩

theorem len_anCells {p : Pt} (h : p.Ok) (a b : Value) : (anCells p a b).length = 28 := by simp [anCells, Dg.cells, h.th.len]
theorem len_ptCells {p : Pt} (h : p.Ok) (a b : Value) : (ptCells p a b).length = 29 := by simp [ptCells, Dg.cells, h.th.len]
theorem one_anCells {p : Pt} (h : p.Ok) {a b : Value} (ha : a.oneCell' = true) (hb : b.oneCell' = true) : ∀ u ∈ anCells p a b, u.oneCell' = true := by
  intro u hu
  simp only [anCells, Dg.cells, List.mem_append, List.mem_cons, List.not_mem_nil, or_false] at hu
  rcases hu with rfl | (rfl | rfl | rfl | rfl | rfl) | rfl | hu | rfl
  all_goals first | rfl | exact ha | exact hb | exact h.th.one u hu
theorem one_ptCells {p : Pt} (h : p.Ok) {a b : Value} (ha : a.oneCell' = true) (hb : b.oneCell' = true) : ∀ u ∈ ptCells p a b, u.oneCell' = true := by
  intro u hu
  rcases List.mem_cons.1 hu with rfl | hu
  · rfl
  · rcases List.mem_cons.1 hu with rfl | hu
    · rfl
    · exact one_anCells h ha hb u (List.mem_cons_of_mem _ hu)

theorem an_0 (p : Pt) (a b : Value) : (anCells p a b)[0]? = some (.bool p.ins) := rfl
theorem an_6 (p : Pt) (a b : Value) : (anCells p a b)[6]? = some a := rfl
theorem an_dg (p : Pt) (a b : Value) : ∀ j u, p.dg.cells[j]? = some u → (anCells p a b)[1 + j]? = some u := fun j u hu => by
  rw [Nat.add_comm, anCells, List.getElem?_cons_succ, List.getElem?_append_left (List.getElem?_eq_some_iff.1 hu).1]; exact hu
theorem an_th (p : Pt) (a b : Value) : ∀ j u, p.th[j]? = some u → (anCells p a b)[7 + j]? = some u := fun j u hu => by
  have e : anCells p a b = (.bool p.ins :: (p.dg.cells ++ [a])) ++ (p.th ++ [b]) := by simp [anCells]
  rw [e, List.getElem?_append_right (by simp [Dg.cells])]
  have : 7 + j - (Value.bool p.ins :: (p.dg.cells ++ [a])).length = j := by simp [Dg.cells]
  rw [this, List.getElem?_append_left (List.getElem?_eq_some_iff.1 hu).1]; exact hu
theorem an_27 {p : Pt} (h : p.Ok) (a b : Value) : (anCells p a b)[27]? = some b := by
  have e : anCells p a b = (.bool p.ins :: (p.dg.cells ++ [a])) ++ (p.th ++ [b]) := by simp [anCells]
  rw [e, List.getElem?_append_right (by simp [Dg.cells])]
  have : 27 - (Value.bool p.ins :: (p.dg.cells ++ [a])).length = 20 := by simp [Dg.cells]
  rw [this, List.getElem?_append_right (by rw [h.th.len]; omega), h.th.len]; rfl
theorem pt_an (p : Pt) (a b : Value) (j : Nat) : (ptCells p a b)[j + 2]? = (anCells p a b)[j + 1]? := by simp [ptCells, anCells]
theorem range_of_block {w : World} {g o : Nat} {cs news : List Value} {t : TypeId} {fr : Nat × Nat} (h : w.heap[g]? = some (.cells cs.toArray t fr)) (hn : ∀ j u, news[j]? = some u → cs[o + j]? = some u) : w.rangeAt g o news :=
  fun j u hu => cell_of_block h (hn j u hu)

def anZero : Value := .agg #[.bool false, .int .i64 0, .int .u64 0, .int .u64 0, .int .u64 0, .int .u64 0, .slice none 0 0, .int .u8 0, .int .u8 0, .int .u8 0, .int .u8 0, .int .u8 0, .int .u8 0, .int .u8 0, .int .u8 0, .int .u8 0, .int .u8 0, .int .u8 0, .int .u8 0, .int .u8 0, .int .u8 0, .int .u8 0, .int .u8 0, .int .u8 0, .int .u8 0, .int .u8 0, .int .u8 0, .slice none 0 0]
def ptZero : Value := .agg #[.bool false, .bool false, .int .i64 0, .int .u64 0, .int .u64 0, .int .u64 0, .int .u64 0, .slice none 0 0, .int .u8 0, .int .u8 0, .int .u8 0, .int .u8 0, .int .u8 0, .int .u8 0, .int .u8 0, .int .u8 0, .int .u8 0, .int .u8 0, .int .u8 0, .int .u8 0, .int .u8 0, .int .u8 0, .int .u8 0, .int .u8 0, .int .u8 0, .int .u8 0, .int .u8 0, .int .u8 0, .slice none 0 0]
def dgZero : Value := .agg #[.int .i64 0, .int .u64 0, .int .u64 0, .int .u64 0, .int .u64 0]
theorem info116 : (Yba.prog.info? 116).map (fun i => (i.zero, i.size)) = some (some anZero, 28) := by kernel_rfl
theorem info107 : (Yba.prog.info? 107).map (fun i => (i.zero, i.size)) = some (some ptZero, 29) := by kernel_rfl
theorem info111 : (Yba.prog.info? 111).map (fun i => (i.zero, i.size)) = some (some dgZero, 5) := by kernel_rfl
theorem info103 : (Yba.prog.info? 103).map (fun i => (i.zero, i.size)) = some (some dgZero, 5) := by kernel_rfl
theorem info118 : (Yba.prog.info? 118).map (fun i => (i.zero, i.size)) = some (some smZero, 43) := by kernel_rfl
theorem sz116 : (Yba.prog.info? 116).map (·.size) = some 28 := by kernel_rfl
theorem sz107 : (Yba.prog.info? 107).map (·.size) = some 29 := by kernel_rfl
theorem sz111 : (Yba.prog.info? 111).map (·.size) = some 5 := by kernel_rfl
theorem sz103 : (Yba.prog.info? 103).map (·.size) = some 5 := by kernel_rfl
theorem sz118 : (Yba.prog.info? 118).map (·.size) = some 43 := by kernel_rfl
theorem sz25 : (Yba.prog.info? 25).map (·.size) = some 20 := by kernel_rfl
theorem one_dg (x : Dg) : ∀ u ∈ x.cells, u.oneCell' = true := by
  intro u hu
  simp only [Dg.cells, List.mem_cons, List.not_mem_nil, or_false] at hu
  rcases hu with rfl | rfl | rfl | rfl | rfl <;> rfl
end Go.Proofs.Ybulkdfdc
