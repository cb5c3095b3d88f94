import Derived.Test.YbulkdfgwMapLaw
import Derived.Test.YbulkdfgwCells
import Derived.Deep.MidRow
namespace Go.Proofs.Ybulkdfgw
open Go.ChangeShapes Go.WideShapes Go.ChangeAt Go.RowKit Go.Maps Go.WideMaps Go.WideElems
set_option linter.unusedVariables false
set_option linter.unusedSimpArgs false

/-- The distinct keys among the first k, in the order of their first coming. -/
def ddTo (S : Nat → ByteArray) : Nat → List Key
  | 0 => []
  | k + 1 => insKey (ddTo S k) (S k).data.toList

/-- The cells to which the keys lead, no two of them one. -/
def CellsOf (w : World) (ks : List Key) (bl : Key → Nat) (σ : Key → Bool) : Prop :=
  (∀ s, s ∈ ks → w.heap[bl s]? = some (.cells #[.int .u32 (bitOf (σ s))] 58 (0, 0))) ∧ ∀ s t, s ∈ ks → t ∈ ks → bl s = bl t → s = t

/-- WHAT HOLDS AT EVERY ROUND's HEAD of watchFingers. -/
def RelF (w : World) (n : Nat) (S : Nat → ByteArray) (i : Value) (wr : World) : Prop :=
  ∃ (k : Nat) (bl : Key → Nat), k ≤ n ∧ i = .int .i64 k ∧ MapOf wr w.heap.size (2 * k) (ddTo S k) bl ∧ CellsOf wr (ddTo S k) bl (fun _ => true) ∧
    wr.heap[w.heap.size + 1]? = some (.cells #[.map (some w.heap.size)] 55 (0, 0)) ∧ Below w.heap.size w wr ∧ w.heap.size + 1 < wr.heap.size ∧ ∀ s, s ∈ ddTo S k → w.heap.size ≤ bl s

theorem relF_start (w : World) (n : Nat) (S : Nat → ByteArray) : RelF w n S (.int .i64 0) ((w.alloc (.map #[] 0)).alloc (.cells #[.map (some w.heap.size)] 55)) := by
  refine ⟨0, fun _ => 0, Nat.zero_le _, rfl, (mapOf_made w 0 _).alloc _, ⟨fun s h => absurd h List.not_mem_nil, fun s t h => absurd h List.not_mem_nil⟩, ?_, ?_, by simp, fun s h => absurd h List.not_mem_nil⟩
  · have h := heap_alloc_new (w.alloc (.map #[] 0)) (.cells #[.map (some w.heap.size)] 55)
    simpa using h
  · exact ((Below.refl _ _).alloc (Nat.le_refl _) _).alloc (by simp) _

theorem relF_step {w wr w1 w2 : World} {n k : Nat} {S : Nat → ByteArray} {bl : Key → Nat} {o : Obj} (hk : k + 1 ≤ n) (hM : MapOf wr w.heap.size (2 * k) (ddTo S k) bl) (hC : CellsOf wr (ddTo S k) bl (fun _ => true))
    (hp : wr.heap[w.heap.size + 1]? = some (.cells #[.map (some w.heap.size)] 55 (0, 0))) (hB : Below w.heap.size w wr) (hz : w.heap.size + 1 < wr.heap.size) (hup : ∀ s, s ∈ ddTo S k → w.heap.size ≤ bl s)
    (hg1 : (wr.alloc o).grownBy w1 (some w.heap.size)) (hg2 : (w1.alloc (.cells #[.int .u32 0] 58)).grownBy w2 (some w.heap.size)) (hM2 : MapOf w2 w.heap.size (2 * k + 1 + 1) (insKey (ddTo S k) (S k).data.toList) (updBl bl (S k).data.toList w1.heap.size)) :
    RelF w n S (.int .i64 (k + 1)) (w2.setCell ⟨w1.heap.size, 0, none⟩ (.int .u32 1)).drew := by
  have hs1 : wr.heap.size + 1 ≤ w1.heap.size := by have := hg1.size; simpa using this
  have hs2 : w1.heap.size + 1 ≤ w2.heap.size := by have := hg2.size; simpa using this
  have e : ∀ j, j < wr.heap.size → j ≠ w.heap.size → w2.heap[j]? = wr.heap[j]? := fun j hj hne => by
    rw [hg2.block j (by simp; omega) (by simpa using hne), Below.heap_alloc _ _ _ (by omega), hg1.block j (by simp; omega) (by simpa using hne), Below.heap_alloc _ _ _ hj]
  have e3 : ∀ j, j < wr.heap.size → j ≠ w.heap.size → ((w2.setCell ⟨w1.heap.size, 0, none⟩ (.int .u32 1)).drew).heap[j]? = wr.heap[j]? := fun j hj hne => by
    rw [← e j hj hne]; exact Below.heap_setCell _ _ _ _ (by simp; omega)
  have hnew : w2.heap[w1.heap.size]? = some (.cells #[.int .u32 0] 58 (0, 0)) := by
    rw [hg2.block _ (by simp) (by simp; omega)]; exact heap_alloc_new _ _
  have hnew3 : ((w2.setCell ⟨w1.heap.size, 0, none⟩ (.int .u32 1)).drew).heap[w1.heap.size]? = some (.cells #[.int .u32 1] 58 (0, 0)) := one_setCell hnew
  have gx : w2.grownBy (w2.setCell ⟨w1.heap.size, 0, none⟩ (.int .u32 1)).drew (some w1.heap.size) :=
    ⟨rfl, rfl, rfl, by simp [World.setCell, World.drew], fun i _ hi => Below.heap_setCell _ _ _ _ (fun e => hi (by rw [e]))⟩
  refine ⟨k + 1, updBl bl (S k).data.toList w1.heap.size, hk, by simp, ?_, ⟨?_, ?_⟩, ?_, ?_, ?_, ?_⟩
  · exact (MapOf.kept hM2 gx (by simp; omega)).mono (by omega)
  · intro s hs
    by_cases es : s = (S k).data.toList
    · simp only [updBl, es, if_true]; exact hnew3
    · have hm : s ∈ ddTo S k := by rcases mem_insKey.1 hs with h | h; exact h; exact absurd h es
      have hh := hC.1 s hm
      have hlt := lt_block hh
      simp only [updBl, es, if_false]
      rw [e3 _ hlt (fun h => by
        obtain ⟨D, ⟨ms, clock, hb, _⟩, _⟩ := hM
        rw [h, hb] at hh; cases hh)]
      exact hh
  · intro s t hs ht hst
    by_cases es : s = (S k).data.toList <;> by_cases et : t = (S k).data.toList
    · rw [es, et]
    · have hm : t ∈ ddTo S k := by rcases mem_insKey.1 ht with h | h; exact h; exact absurd h et
      have := lt_block (hC.1 t hm)
      simp [updBl, es, et] at hst; omega
    · have hm : s ∈ ddTo S k := by rcases mem_insKey.1 hs with h | h; exact h; exact absurd h es
      have := lt_block (hC.1 s hm)
      simp [updBl, es, et] at hst; omega
    · have hm : s ∈ ddTo S k := by rcases mem_insKey.1 hs with h | h; exact h; exact absurd h es
      have hm' : t ∈ ddTo S k := by rcases mem_insKey.1 ht with h | h; exact h; exact absurd h et
      simp [updBl, es, et] at hst
      exact hC.2 s t hm hm' hst
  · rw [e3 _ hz (by omega)]; exact hp
  · refine ((((hB.alloc hB.size o).grown hg1 (by simp; have := hB.size; omega) (fun j hj => by cases hj; omega)).alloc (by omega) _).grown hg2 (by simp; omega) (fun j hj => by cases hj; omega)).trans ?_
    exact (Below.setCell (Below.refl _ _) (by simp; omega) _).drew
  · show _ < (w2.setCell ⟨w1.heap.size, 0, none⟩ (.int .u32 1)).heap.size
    simp [World.setCell]; omega
  · intro s hs
    by_cases es : s = (S k).data.toList
    · simp only [updBl, es, if_true]; omega
    · have hm : s ∈ ddTo S k := by rcases mem_insKey.1 hs with h | h; exact h; exact absurd h es
      simp only [updBl, es, if_false]; exact hup s hm

def peerZero : Value := .agg #[.string ByteArray.empty, .int .u8 0, .int .u8 0, .int .u8 0, .int .u8 0, .int .u8 0, .int .u8 0, .int .u8 0, .int .u8 0, .int .u8 0, .int .u8 0, .int .u8 0, .int .u8 0, .int .u8 0, .int .u8 0, .int .u8 0, .int .u8 0, .int .u8 0, .int .u8 0, .int .u8 0, .int .u8 0]
theorem info67 : (Yba.prog.info? 67).map (fun i => (i.zero, i.size)) = some (some peerZero, 21) := by kernel_rfl
theorem size67 : (Yba.prog.info? 67).map (·.size) = some 21 := by kernel_rfl

/-- A peer's cells: its address first. -/
def PeerCells (w : World) (g o : Nat) (s : ByteArray) : Prop :=
  ∃ cs : List Value, w.rangeAt g o cs ∧ cs.length = 21 ∧ cs[0]? = some (.string s) ∧ ∀ v ∈ cs, v.oneCell' = true

set_option maxRecDepth 100000 in
set_option maxHeartbeats 1000000 in
/-- 'm.watchFingers(peers)' of a fresh metrics. -/
theorem watchFingers (gm g n cap : Nat) (S : Nat → ByteArray) (w : World) (hn : n ≤ 256) (hSl : ∀ i, i < n → (S i).size ≤ maxLen) (hgm : gm < w.heap.size)
    (ms : Array Value) (hms : w.heap[gm]? = some (.cells ms 54 (0, 0))) (hm13 : ms[13]? = some (.pointer none))
    (h0 : ∀ i, i < n → PeerCells w g (i * 21) (S i)) :
    Calls Yba.prog 9 #[.pointer (some ⟨gm, 0, none⟩), .slice (some ⟨g, 0, none⟩) n cap] w fun e w' => e = .returned (.tuple #[]) ∧ ∃ bl, MapOf w' w.heap.size 512 (ddTo S n) bl ∧ CellsOf w' (ddTo S n) bl (fun _ => true) ∧
      w'.heap[w.heap.size + 1]? = some (.cells #[.map (some w.heap.size)] 55 (0, 0)) ∧ (∃ ms', w'.heap[gm]? = some (.cells ms' 54 (0, 0)) ∧ ms'[13]? = some (.pointer (some ⟨w.heap.size + 1, 0, none⟩))) ∧ (∀ s, s ∈ ddTo S n → w.heap.size ≤ bl s) ∧ w.grownBy w' (some gm) := by
  have c13 : w.cell? ⟨gm, 13, none⟩ = some (.pointer none) := by simp [World.cell?, hms, hm13]
  have f13 : w.frozen? ⟨gm, 13, none⟩ = false := by simp [World.frozen?, hms]
  have HMs : Hid _ := hms
  have HM13 : Hid _ := hm13
  clear hms hm13
  have H0 : Hid _ := h0
  have HL : Hid _ := hSl
  clear h0 hSl
  have hmm : ∀ (x : Int) (w : World), (Instr.makeMap 55 (some (.int .i64 x))).run Yba.prog w = .ok (.map (some w.heap.size)) (w.alloc (.map #[] 0)) := fun x w => by
    simp [Instr.makeMap, run_underlying Yba.underlying55, asInt, asIntOf]
  go_enter Yba.func9, Yba.ntmps9
  go_wp2_with fail
  refine (watched_nil _ _ c13).mono ?_
  rintro e w1 ⟨rfl, rfl⟩
  go_wp2_with fail
  go_loopw [15] (fun i wr => RelF w n S i wr) (fun i _ => n - (intOf i).toNat)
  case atStart => exact relF_start w n S
  case round =>
    obtain ⟨k, bl, hk, rfl, hM, hC, hp, hB, hz, hup⟩ := hrel
    have HUp : Hid _ := hup
    have HM : Hid _ := hM
    have HCs : Hid _ := hC
    have HP : Hid _ := hp
    have HB : Hid _ := hB
    have cp : wr.cell? ⟨w.heap.size + 1, 0, none⟩ = some (.map (some w.heap.size)) := by simp [World.cell?, hp]
    clear hM hC hp hB hup
    by_cases hlt : k < n
    · obtain ⟨cs, hr, hlen, hc0, h1c⟩ := H0.out k hlt
      have HR : Hid (wr.rangeAt g (k * 21) cs) := fun j v hv => cell_later HB.out (hr j v hv)
      have HLn : Hid (cs.toArray.size = 21) := by rw [List.size_toArray]; exact hlen
      have HSz : Hid ((Yba.prog.info? 67).map (·.size) = some cs.length) := by rw [hlen]; exact size67
      have H1 : Hid (cs.toArray.all (·.oneCell') = true) := all_oneCell_toArray h1c
      clear hr hlen h1c
      have hln := fun w => Maps.look_nil (P := Yba.prog) (w := w) false law Yba.underlying55 (zero57 w) (keyOf_S (HL.out k hlt))
      obtain ⟨w1, hrun1, hg1, hmid⟩ := (MapOf.alloc HM.out (.cells cs.toArray 67)).toNil (by unfold maxLen; omega) (HL.out k hlt)
      have hs1 : wr.heap.size + 1 ≤ w1.heap.size := by have := hg1.size; simpa using this
      have hl1 := hmid.look (HL.out k hlt)
      have cp1 : w1.cell? ⟨w.heap.size + 1, 0, none⟩ = some (.map (some w.heap.size)) := by
        rw [World.cell?_of_block (w := wr) (by rw [hg1.block _ (by simp; omega) (by simp), Below.heap_alloc _ _ _ hz])]; exact cp
      have ca1 : w1.cell? ⟨wr.heap.size, 0, none⟩ = some (.string (S k)) := by
        rw [World.cell?_of_block (w := wr.alloc (.cells cs.toArray 67)) (hg1.block _ (by simp) (by simp; omega))]
        simpa using hc0
      obtain ⟨w2, hrun2, hg2, hM2⟩ := (hmid.alloc (.cells #[.int .u32 0] 58)).toNew (by unfold maxLen; omega) (HL.out k hlt) w1.heap.size
      have hs2 : w1.heap.size + 1 ≤ w2.heap.size := by have := hg2.size; simpa using this
      have hl2 := hM2.look (HL.out k hlt) (mem_insKey.2 (Or.inr rfl))
      have eb : updBl bl (S k).data.toList w1.heap.size (S k).data.toList = w1.heap.size := by simp [updBl]
      rw [eb] at hl2
      have cp2 : w2.cell? ⟨w.heap.size + 1, 0, none⟩ = some (.map (some w.heap.size)) := by
        rw [World.cell?_of_block (w := w1) (by rw [hg2.block _ (by simp; omega) (by simp), Below.heap_alloc _ _ _ (by show w.heap.size + 1 < _; omega)])]; exact cp1
      have ca2 : w2.cell? ⟨wr.heap.size, 0, none⟩ = some (.string (S k)) := by
        rw [World.cell?_of_block (w := w1) (by rw [hg2.block _ (by simp; omega) (by simp; omega), Below.heap_alloc _ _ _ (by show wr.heap.size < _; omega)])]; exact ca1
      have hn2 : w2.heap[w1.heap.size]? = some (.cells #[.int .u32 0] 58 (0, 0)) := by
        rw [hg2.block _ (by simp) (by simp; omega)]; exact heap_alloc_new _ _
      have cn2 : w2.cell? ⟨w1.heap.size, 0, none⟩ = some (.int .u32 0) := by simp [World.cell?, hn2]
      have fn2 : w2.frozen? ⟨w1.heap.size, 0, none⟩ = false := by simp [World.frozen?, hn2]
      have R := relF_step (show k + 1 ≤ n by omega) HM.out HCs.out HP.out HB.out hz HUp.out hg1 hg2 hM2
      have HRel : Hid _ := R
      have hq1 : w.heap.size + 1 < w1.heap.size := by omega
      have hq2 : wr.heap.size < w1.heap.size := by omega
      clear R hmid hM2 eb hn2 hg1 hg2
      go_wp2_with (first | (refine wpList_load_mid rfl 67 _ rfl g (k * 21) rfl cs _ HR.out Yba.underlying67 rfl HSz.out ?_) | (refine wpList_alloc_store rfl rfl 67 7 _ rfl rfl rfl rfl peerZero 21 info67 rfl cs.toArray HLn.out H1.out rfl rfl ?_))
      refine (boolStore _ _ _ _ cn2 fn2).mono ?_
      rintro e w3 ⟨rfl, rfl⟩
      go_wp2_with fail
      go_roundw
      case rel => exact HRel.out
      case measure => simp [intOf]; omega
    · have c13r : wr.cell? ⟨gm, 13, none⟩ = some (.pointer none) := cell_later HB.out c13
      have f13r : wr.frozen? ⟨gm, 13, none⟩ = false := by rw [HB.out.frozen (p := ⟨gm, 13, none⟩) hgm]; exact f13
      go_wp2_with fail
      refine (ptrStore gm (w.heap.size + 1) _ _ _ c13r f13r cp).mono ?_
      rintro e w3 ⟨rfl, rfl⟩
      go_wp2_with fail
      go_end0
      obtain rfl : k = n := by omega
      have gx : wr.grownBy (wr.setCell ⟨gm, 13, none⟩ (.pointer (some ⟨w.heap.size + 1, 0, none⟩))) (some gm) :=
        ⟨rfl, rfl, rfl, by simp [World.setCell], fun i _ hi => Below.heap_setCell _ _ _ _ (fun e => hi (by rw [e]))⟩
      refine ⟨rfl, bl, (MapOf.kept HM.out gx (by simp; omega)).mono (by omega), ⟨fun s hs => ?_, HCs.out.2⟩, ?_, ?_, ?_, ?_⟩
      · have hh := HCs.out.1 s hs
        rw [gx.block _ (lt_block hh) (by
          intro h
          have e : bl s = gm := by simpa using h
          rw [e, HB.out.block gm hgm] at hh
          simp [World.cell?, hh] at c13)]
        exact hh
      · rw [gx.block _ hz (by simp; omega)]; exact HP.out
      · have hb : wr.heap[gm]? = some (.cells ms 54 (0, 0)) := by rw [HB.out.block gm hgm]; exact HMs.out
        refine ⟨ms.setIfInBounds 13 (.pointer (some ⟨w.heap.size + 1, 0, none⟩)), ?_, ?_⟩
        · rw [setCell_eq_setRow wr gm 13 ms 54 (0, 0) _ hb]; exact setRow_heap wr gm ms _ 54 _ hb
        · have h13 := (Array.getElem?_eq_some_iff.1 HM13.out).1
          simp [Array.getElem?_setIfInBounds, h13]
      · intro s hs
        exact HUp.out s hs
      · refine ⟨(HB.out.os), HB.out.tape, HB.out.output, by simp [World.setCell]; exact HB.out.size, fun i hi hne => ?_⟩
        rw [Below.heap_setCell _ _ _ _ (fun e => hne (by rw [e]))]
        exact HB.out.block i hi
end Go.Proofs.Ybulkdfgw
