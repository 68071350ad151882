/-
  A Work IN MEMORY: 'WI': the struct's cells, its map, the row of its members' slices, each member's row of spans, and what each span's rows and rates read as. The ghost 'St': which member stands at which place; the runs (first global row, number of rows) that each place holds.
-/
import Derived.Test.Qxb6000061aPartDefs
namespace Go.Proofs.Qxb6000061a
open Go.RowKit

/-! ### the ghost -/
structure St where
  m : ByteArray → Option Nat
  n : Nat
  sp : Nat → List (Nat × Nat)
def St.zero : St := ⟨fun _ => none, 0, fun _ => []⟩
/-- a member that has no place gets the next one -/
def St.place (st : St) (s : ByteArray) : St := if (st.m s).isSome = true then st else ⟨updM st.m s st.n, st.n + 1, fun j => if j = st.n then [] else st.sp j⟩
def St.push (st : St) (i : Nat) (x : Nat × Nat) : St := ⟨st.m, st.n, fun j => if j = i then st.sp j ++ [x] else st.sp j⟩
def St.at (st : St) (s : ByteArray) : Nat := (st.m s).getD 0
def St.add (st : St) (s : ByteArray) (x : Nat × Nat) : St := (st.place s).push ((st.place s).at s) x
/-- behind k runs of a part that begins at the global row gb -/
def runsTo (gb : Nat) (nm : Nat → ByteArray) (ln : Nat → Nat) (st : St) : Nat → St
  | 0 => st
  | k + 1 => (runsTo gb nm ln st k).add (nm k) (gb + sumTo ln k, ln k)

/-! ### a span -/
def cRow (mo : Nat → Int) (n3 G : Nat) : Nat → Value := fun i => if i % 3 = 0 then .int .i32 (mon mo n3 (G + i / 3)) else if i % 3 = 1 then .int .u32 ((G + i / 3 : Nat) : Int) else .int .i64 (((G + i / 3 : Nat) : Int) * 3 + 1)
structure SpanIs (w : World) (Q : Nat → Prop) (rt : Bool) (mo : Nat → Int) (n3 : Nat) (rv tv : Value) (x : Nat × Nat) : Prop where
  rows : ∃ a c, rv = .slice a x.2 c ∧ Rd w Q a x.2 c 3 (cRow mo n3 x.1)
  rates : ∃ a n c, tv = .slice a n c ∧ a.isNone = !rt ∧ n = (if rt = true then x.2 else 0) ∧ Rd w Q a n c 1 (cRs x.1)
theorem SpanIs.keep {w w' : World} {O Q : Nat → Prop} {rt : Bool} {mo : Nat → Int} {n3 : Nat} {rv tv : Value} {x : Nat × Nat} (h : SpanIs w Q rt mo n3 rv tv x) (hk : Keep O w w') (hO : ∀ k, O k → Q k) : SpanIs w' Q rt mo n3 rv tv x := by
  have hq : Keep Q w w' := hk.mono fun i _ e => hO i e
  obtain ⟨a, c, h1, h2⟩ := h.rows
  obtain ⟨b, n, d, h3, h4, h5, h6⟩ := h.rates
  exact ⟨⟨a, c, h1, h2.keep hq⟩, ⟨b, n, d, h3, h4, h5, h6.keep hq⟩⟩
theorem SpanIs.weaken {w : World} {Q Q' : Nat → Prop} {rt : Bool} {mo : Nat → Int} {n3 : Nat} {rv tv : Value} {x : Nat × Nat} (h : SpanIs w Q rt mo n3 rv tv x) (hQ : ∀ k, k < w.heap.size → Q' k → Q k) : SpanIs w Q' rt mo n3 rv tv x := by
  obtain ⟨a, c, h1, h2⟩ := h.rows
  obtain ⟨b, n, d, h3, h4, h5, h6⟩ := h.rates
  exact ⟨⟨a, c, h1, h2.weaken hQ⟩, ⟨b, n, d, h3, h4, h5, h6.weaken hQ⟩⟩

/-! ### the Work -/
structure WData where
  mb : Nat
  sa : Option Addr
  scap : Nat
  va : Nat → Option Addr
  vcap : Nat → Nat
  rv : Nat → Nat → Value
  tv : Nat → Nat → Value

def WData.cell (d : WData) (st : St) (i : Nat) : Value := .slice (d.va i) (st.sp i).length (d.vcap i)
def WData.two (d : WData) (i : Nat) : Nat → Value := fun j => if j % 2 = 0 then d.rv i (j / 2) else d.tv i (j / 2)
def WData.work (d : WData) (st : St) : Array Value := #[.string ⟨#[]⟩, .bool false, .map (some d.mb), .slice d.sa st.n d.scap]

/-- O: the blocks of the structure itself; Q: the blocks that no span's rows or rates lie in -/
structure WI (w : World) (O Q : Nat → Prop) (rt : Bool) (mo : Nat → Int) (n3 wp : Nat) (st : St) (d : WData) : Prop where
  oq : ∀ k, O k → Q k
  lt : ∀ k, Q k → k < w.heap.size
  few : st.n ≤ 1048576
  short : ∀ i, (st.sp i).length ≤ 1048576
  high : ∀ i, st.n ≤ i → st.sp i = []
  mlt : ∀ s i, st.m s = some i → i < st.n
  owp : O wp
  omb : O d.mb
  wpmb : wp ≠ d.mb
  work : w.heap[wp]? = some (.cells (d.work st) 73 (0, 0))
  map : MapAt w d.mb st.n st.m
  spans : w.ownsRow 0 90 1 (.slice d.sa st.n d.scap) st.n (rowOf (d.cell st) st.n)
  sblk : ∀ a, d.sa = some a → O a.block ∧ a.block ≠ wp ∧ a.block ≠ d.mb
  inner : ∀ i, i < st.n → w.ownsRow 0 92 2 (d.cell st i) (st.sp i).length (rowOf (d.two i) ((st.sp i).length * 2))
  iblk : ∀ i, i < st.n → ∀ a, d.va i = some a → O a.block ∧ a.block ≠ wp ∧ a.block ≠ d.mb ∧ ∀ s, d.sa = some s → a.block ≠ s.block
  apart : ∀ i j, i < st.n → j < st.n → i ≠ j → ∀ a b, d.va i = some a → d.va j = some b → a.block ≠ b.block
  span : ∀ i, i < st.n → ∀ k x, (st.sp i)[k]? = some x → SpanIs w Q rt mo n3 (d.rv i k) (d.tv i k) x

variable {w w' : World} {O Q : Nat → Prop} {rt : Bool} {mo : Nat → Int} {n3 wp : Nat} {st : St} {d : WData}

theorem ownBlock_slice {a : Option Addr} {n c k : Nat} (h : (Value.slice a n c).ownBlock = some k) : ∃ x, a = some x ∧ x.block = k := by
  cases a with
  | none => simp [Value.ownBlock] at h
  | some x => exact ⟨x, rfl, by simpa [Value.ownBlock] using h⟩

/-- what turns other blocks leaves the Work as it is -/
theorem WI.keep (h : WI w O Q rt mo n3 wp st d) {O2 : Nat → Prop} (hk : Keep O2 w w') (hQ : ∀ k, O2 k → Q k) (hO : ∀ k, O k → ¬ O2 k) : WI w' O Q rt mo n3 wp st d where
  oq := h.oq
  lt := fun k e => Nat.lt_of_lt_of_le (h.lt k e) hk.size
  few := h.few
  short := h.short
  high := h.high
  mlt := h.mlt
  owp := h.owp
  omb := h.omb
  wpmb := h.wpmb
  work := (hk.block wp (Array.getElem?_eq_some_iff.1 h.work).1 (hO _ h.owp)).trans h.work
  map := h.map.keep hk (hO _ h.omb)
  spans := hk.ownsRow h.spans fun k e => by
    obtain ⟨x, hx, rfl⟩ := ownBlock_slice e
    exact hO _ (h.sblk x hx).1
  sblk := h.sblk
  inner := fun i hi => hk.ownsRow (h.inner i hi) fun k e => by
    obtain ⟨x, hx, rfl⟩ := ownBlock_slice e
    exact hO _ (h.iblk i hi x hx).1
  iblk := h.iblk
  apart := h.apart
  span := fun i hi k x hx => (h.span i hi k x hx).keep hk hQ
theorem WI.below (h : WI w O Q rt mo n3 wp st d) (hb : Below w.heap.size w w') : WI w' O Q rt mo n3 wp st d :=
  h.keep (Keep.of_below (O := noO) hb) (fun _ e => e.elim) (fun _ _ e => e)
theorem WI.weaken (h : WI w O Q rt mo n3 wp st d) {Q' : Nat → Prop} (hQ : ∀ k, Q' k → Q k) (oq : ∀ k, O k → Q' k) : WI w O Q' rt mo n3 wp st d :=
  { h with oq := oq, lt := fun k e => h.lt k (hQ k e), span := fun i hi k x hx => (h.span i hi k x hx).weaken (fun k _ e => hQ k e) }
/-- .. the data keep clear of blocks that are made later, too -/
theorem WI.later (h : WI w O Q rt mo n3 wp st d) {O2 Q' : Nat → Prop} (hk : Keep O2 w w') (hO : ∀ k, O k → ¬ O2 k) (hQ : ∀ k, Q' k → Q k ∨ w.heap.size ≤ k) (hlt : ∀ k, Q' k → k < w'.heap.size) (oq : ∀ k, O k → Q' k) (hO2 : ∀ k, O2 k → Q' k) : WI w' O Q' rt mo n3 wp st d where
  oq := oq
  lt := hlt
  few := h.few
  short := h.short
  high := h.high
  mlt := h.mlt
  owp := h.owp
  omb := h.omb
  wpmb := h.wpmb
  work := (hk.block wp (Array.getElem?_eq_some_iff.1 h.work).1 (hO _ h.owp)).trans h.work
  map := h.map.keep hk (hO _ h.omb)
  spans := hk.ownsRow h.spans fun k e => by
    obtain ⟨x, hx, rfl⟩ := ownBlock_slice e
    exact hO _ (h.sblk x hx).1
  sblk := h.sblk
  inner := fun i hi => hk.ownsRow (h.inner i hi) fun k e => by
    obtain ⟨x, hx, rfl⟩ := ownBlock_slice e
    exact hO _ (h.iblk i hi x hx).1
  iblk := h.iblk
  apart := h.apart
  span := fun i hi k x hx => ((h.span i hi k x hx).weaken (fun j hj e => (hQ j e).elim (fun e => e) (fun e => by omega))).keep hk hO2

/-! ### what the walks read -/
theorem WI.cell2 (h : WI w O Q rt mo n3 wp st d) : w.cell? ⟨wp, 2, none⟩ = some (.map (some d.mb)) := by rw [cell_of_row w wp 2 _ 73 (0, 0) h.work]; rfl
theorem WI.cell3 (h : WI w O Q rt mo n3 wp st d) : w.cell? ⟨wp, 3, none⟩ = some (.slice d.sa st.n d.scap) := by rw [cell_of_row w wp 3 _ 73 (0, 0) h.work]; rfl
theorem WI.frz (h : WI w O Q rt mo n3 wp st d) (j : Nat) : w.frozen? ⟨wp, j, none⟩ = false := frozen_of_row w wp j _ 73 h.work
theorem WI.spansAt (h : WI w O Q rt mo n3 wp st d) (hn : 0 < st.n) : ∃ g, d.sa = some ⟨g, 0, none⟩ ∧ g < w.heap.size ∧ (∀ i, i < st.n → w.cell? ⟨g, i, none⟩ = some (d.cell st i)) ∧ ∀ j, w.frozen? ⟨g, j, none⟩ = false := by
  obtain ⟨g, cap, hv, _, hlt⟩ := h.spans.form hn
  simp only [Value.slice.injEq] at hv
  obtain ⟨h1, _, h2⟩ := hv
  have hs := h.spans
  rw [h1] at hs
  refine ⟨g, h1, hlt, fun i hi => ?_, fun j => hs.frozenAt j⟩
  rw [hs.cellAt i (by omega), rowOf_at hi]
theorem WI.innerAt (h : WI w O Q rt mo n3 wp st d) {i : Nat} (hi : i < st.n) (hn : 0 < (st.sp i).length) : ∃ g, d.va i = some ⟨g, 0, none⟩ ∧ g < w.heap.size ∧ ∀ k, k < (st.sp i).length → w.cell? ⟨g, k * 2, none⟩ = some (d.rv i k) ∧ w.cell? ⟨g, k * 2 + 1, none⟩ = some (d.tv i k) := by
  have hs := h.inner i hi
  obtain ⟨g, cap, hv, _, hlt⟩ := hs.form hn
  unfold WData.cell at hv hs
  simp only [Value.slice.injEq] at hv
  obtain ⟨h1, _, h2⟩ := hv
  rw [h1] at hs
  refine ⟨g, h1, hlt, fun k hk => ⟨?_, ?_⟩⟩
  · rw [hs.cellAt (k * 2) (by omega), rowOf_at (by omega)]
    unfold WData.two
    rw [if_pos (by omega), show k * 2 / 2 = k from by omega]
  · rw [hs.cellAt (k * 2 + 1) (by omega), rowOf_at (by omega)]
    unfold WData.two
    rw [if_neg (by omega), show (k * 2 + 1) / 2 = k from by omega]
end Go.Proofs.Qxb6000061a
