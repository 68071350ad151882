/-
  WHAT THE WALKS OF THIS SEAT SAY OF MEMORY: 'Keep O w w'' (all that was there and is not in O is as it was), 'Rd' (a slice that is only read from here on), 'MapAt' (a map from strings to ints, as a function).
-/
import Derived.Test.Qxb6000061aRows
import Derived.WalkKit
import Derived.Maps.OwnSet
import Derived.Maps.OwnOps
import Derived.Deep.AppendLies
namespace Go.Proofs.Qxb6000061a
open Go.RowKit Go.Maps

theorem Hid.mk' {p : Prop} (h : p) : Hid p := h
theorem ret_int {k : IntKind} {a b : Int} (h : a = b) : Ending.returned (.int k a) = .returned (.int k b) := by rw [h]

/-! ### Keep -/
structure Keep (O : Nat → Prop) (w w' : World) : Prop where
  os : w'.os = w.os
  tape : w'.tape = w.tape
  output : w'.output = w.output
  size : w.heap.size ≤ w'.heap.size
  block : ∀ k, k < w.heap.size → ¬ O k → w'.heap[k]? = w.heap[k]?

def noO : Nat → Prop := fun _ => False

theorem Keep.refl (O : Nat → Prop) (w : World) : Keep O w w := ⟨rfl, rfl, rfl, Nat.le_refl _, fun _ _ _ => rfl⟩
theorem Keep.trans {O O' : Nat → Prop} {a b c : World} (h : Keep O a b) (k : Keep O' b c) (hO : ∀ i, i < a.heap.size → O' i → O i) : Keep O a c :=
  ⟨k.os.trans h.os, k.tape.trans h.tape, k.output.trans h.output, Nat.le_trans h.size k.size,
    fun i hi ho => (k.block i (Nat.lt_of_lt_of_le hi h.size) (fun e => ho (hO i hi e))).trans (h.block i hi ho)⟩
theorem Keep.mono {O O' : Nat → Prop} {a b : World} (h : Keep O a b) (hO : ∀ i, i < a.heap.size → O i → O' i) : Keep O' a b :=
  ⟨h.os, h.tape, h.output, h.size, fun i hi ho => h.block i hi (fun e => ho (hO i hi e))⟩
theorem Keep.of_below {O : Nat → Prop} {w w' : World} (h : Below w.heap.size w w') : Keep O w w' := ⟨h.os, h.tape, h.output, h.size, fun k hk _ => h.block k hk⟩
theorem Keep.below {B : Nat} {O : Nat → Prop} {W w w' : World} (hb : Below B W w) (h : Keep O w w') (hB : B ≤ w.heap.size) (hO : ∀ k, k < B → ¬ O k) : Below B W w' :=
  ⟨h.os.trans hb.os, h.tape.trans hb.tape, h.output.trans hb.output, Nat.le_trans hb.size h.size, fun k hk => (h.block k (by omega) (hO k hk)).trans (hb.block k hk)⟩
theorem Keep.of_grown {w w' : World} {row : Option Nat} (h : w.grownBy w' row) : Keep (fun k => some k = row) w w' := ⟨h.os, h.tape, h.output, h.size, fun k hk ho => h.block k hk ho⟩
theorem Keep.drew {O : Nat → Prop} {a w : World} (h : Keep O a w) : Keep O a w.drew := ⟨h.os, h.tape, h.output, h.size, h.block⟩
theorem Keep.alloc {O : Nat → Prop} {a w : World} (h : Keep O a w) (o : Obj) : Keep O a (w.alloc o) :=
  h.trans (Keep.of_below (O := noO) ((Below.refl _ _).alloc (Nat.le_refl _) o)) (fun _ _ e => e.elim)
theorem Keep.setCell {O : Nat → Prop} {a w : World} (h : Keep O a w) (p : Addr) (u : Value) (hp : p.block < a.heap.size → O p.block) : Keep O a (w.setCell p u) :=
  ⟨h.os, h.tape, h.output, by have := h.size; simpa using this, fun k hk ho => by
    by_cases e : k = p.block
    · subst e; exact absurd (hp hk) ho
    · rw [Below.heap_setCell _ _ _ _ e]; exact h.block k hk ho⟩
theorem Keep.cell {O : Nat → Prop} {w w' : World} (h : Keep O w w') {p : Addr} (hp : p.block < w.heap.size) (ho : ¬ O p.block) : w'.cell? p = w.cell? p := World.cell?_of_block (w := w) (h.block p.block hp ho)
theorem Keep.frozen {O : Nat → Prop} {w w' : World} (h : Keep O w w') {p : Addr} (hp : p.block < w.heap.size) (ho : ¬ O p.block) : w'.frozen? p = w.frozen? p := World.frozen?_of_block (w := w) (h.block p.block hp ho)
theorem Keep.ownsRow {O : Nat → Prop} {w w' : World} (h : Keep O w w') {base : Nat} {e : TypeId} {size : Nat} {v : Value} {n : Nat} {xs : List Value} (ho : w.ownsRow base e size v n xs) (hn : ∀ k, v.ownBlock = some k → ¬ O k) : w'.ownsRow base e size v n xs := by
  refine ⟨ho.1, ?_⟩
  rcases ho.2 with h0 | ⟨g, cap, cur, rfl, hb, hg, r⟩
  · exact .inl h0
  · have hlt : g < w.heap.size := by
      rcases Nat.lt_or_ge g w.heap.size with hlt | hge
      · exact hlt
      · rw [Array.getElem?_eq_none hge] at hg; cases hg
    exact .inr ⟨g, cap, cur, rfl, hb, (h.block g hlt (hn g rfl)).trans hg, r⟩

theorem cell_lt {w : World} {b off : Nat} {v : Value} (h : w.cell? ⟨b, off, none⟩ = some v) : b < w.heap.size := by
  by_cases hb : b < w.heap.size
  · exact hb
  · have hn : w.heap[b]? = none := by simp; omega
    simp [World.cell?, hn] at h

/-! ### Rd -/
structure Rd (w : World) (O : Nat → Prop) (a : Option Addr) (n cap sz : Nat) (c : Nat → Value) : Prop where
  le : n ≤ cap
  room : cap ≤ maxLen
  nil : a = none → n = 0
  cells : n = 0 ∨ ∃ b off, a = some ⟨b, off, none⟩ ∧ b < w.heap.size ∧ ¬ O b ∧ ∀ i, i < n * sz → w.cell? ⟨b, off + i, none⟩ = some (c i)

theorem Rd.keep {w w' : World} {O : Nat → Prop} {a : Option Addr} {n cap sz : Nat} {c : Nat → Value} (h : Rd w O a n cap sz c) (hk : Keep O w w') : Rd w' O a n cap sz c := by
  refine ⟨h.le, h.room, h.nil, ?_⟩
  rcases h.cells with h0 | ⟨b, off, rfl, hlt, ho, hc⟩
  · exact .inl h0
  · exact .inr ⟨b, off, rfl, Nat.lt_of_lt_of_le hlt hk.size, ho, fun i hi => (hk.cell (p := ⟨b, off + i, none⟩) hlt ho).trans (hc i hi)⟩
theorem Rd.below {w w' : World} {O : Nat → Prop} {a : Option Addr} {n cap sz : Nat} {c : Nat → Value} (h : Rd w O a n cap sz c) (hk : Below w.heap.size w w') : Rd w' O a n cap sz c := h.keep (Keep.of_below hk)
theorem Rd.weaken {w : World} {O O' : Nat → Prop} {a : Option Addr} {n cap sz : Nat} {c : Nat → Value} (h : Rd w O a n cap sz c) (hO : ∀ k, k < w.heap.size → O' k → O k) : Rd w O' a n cap sz c := by
  refine ⟨h.le, h.room, h.nil, ?_⟩
  rcases h.cells with h0 | ⟨b, off, rfl, hlt, ho, hc⟩
  · exact .inl h0
  · exact .inr ⟨b, off, rfl, hlt, fun e => ho (hO b hlt e), hc⟩
theorem Rd.congr {w : World} {O : Nat → Prop} {a : Option Addr} {n cap sz : Nat} {c c' : Nat → Value} (h : Rd w O a n cap sz c) (e : ∀ i, i < n * sz → c i = c' i) : Rd w O a n cap sz c' := by
  refine ⟨h.le, h.room, h.nil, ?_⟩
  rcases h.cells with h0 | ⟨b, off, rfl, hlt, ho, hc⟩
  · exact .inl h0
  · exact .inr ⟨b, off, rfl, hlt, ho, fun i hi => e i hi ▸ hc i hi⟩
theorem Rd.empty (w : World) (O : Nat → Prop) (sz : Nat) (c : Nat → Value) : Rd w O none 0 0 sz c := ⟨Nat.le_refl _, Nat.zero_le _, fun _ => rfl, .inl rfl⟩

/-- a row of the call's own, of n one-cell elements -/
def rowOf (h : Nat → Value) (n : Nat) : List Value := (List.range n).map h
theorem rowOf_length (h : Nat → Value) (n : Nat) : (rowOf h n).length = n := by simp [rowOf]
theorem rowOf_zero (z : Value) (n : Nat) : (madeCells #[z] n).toList = rowOf (fun _ => z) n := by
  rw [toList_madeCells_one]
  unfold rowOf
  apply List.ext_getElem?
  intro j
  by_cases hj : j < n <;> simp [hj]
def updV (h : Nat → Value) (j : Nat) (v : Value) : Nat → Value := fun i => if i = j then v else h i
theorem updV_same (h : Nat → Value) (j : Nat) (v : Value) : updV h j v j = v := if_pos rfl
theorem updV_other {h : Nat → Value} {j i : Nat} {v : Value} (hne : ¬ i = j) : updV h j v i = h i := if_neg hne
theorem rowOf_set (h : Nat → Value) (n j : Nat) (v : Value) : (rowOf h n).set j v = rowOf (updV h j v) n := by
  unfold rowOf updV
  apply List.ext_getElem?
  intro i
  rw [List.getElem?_set]
  by_cases hi : i < n
  · by_cases hk : j = i
    · subst hk; simp [hi]
    · have hk' : ¬ i = j := fun e => hk e.symm
      simp [hi, hk, hk']
  · simp [hi]; omega
theorem rowOf_at {h : Nat → Value} {n j : Nat} (hj : j < n) : (rowOf h n)[j]? = some (h j) := by unfold rowOf; simp [hj]
theorem rowOf_congr {h g : Nat → Value} {n : Nat} (e : ∀ i, i < n → h i = g i) : rowOf h n = rowOf g n := by
  unfold rowOf
  exact List.map_congr_left fun i hi => e i (by simpa using hi)
theorem rowOf_succ (h : Nat → Value) (n : Nat) : rowOf h (n + 1) = rowOf h n ++ [h n] := by unfold rowOf; rw [List.range_succ, List.map_append]; rfl

theorem Rd.of_own {w : World} {O : Nat → Prop} {base g n sz : Nat} {e : TypeId} {h : Nat → Value} (ho : w.ownsRow base e sz (.slice (some ⟨g, 0, none⟩) n n) n (rowOf h (n * sz))) (hm : n ≤ maxLen) (hO : ¬ O g) :
    Rd w O (some ⟨g, 0, none⟩) n n sz h := by
  refine ⟨Nat.le_refl _, hm, (by intro e; cases e), .inr ⟨g, 0, rfl, (ho.lt g rfl).2, hO, fun i hi => ?_⟩⟩
  rw [Nat.zero_add, ho.cellAt i hi, rowOf_at hi]

/-! ### MapAt -/
theorem law : Keyed Try.prog 9 := string_keyed Try.underlying9
theorem zeroE (w : World) : (zeroValue 3).run Try.prog w = .ok (.int .i64 0) w := by kernel_rfl
def keyL (s : ByteArray) : Lit := .string s.data.toList
theorem keyL_inj {s t : ByteArray} (h : keyL s = keyL t) : s = t := by
  unfold keyL at h
  simp only [Lit.string.injEq] at h
  cases s; cases t
  simp at h
  rw [h]

theorem keyS {s : ByteArray} (hs : s.size ≤ maxLen) : keyOf Try.prog 9 (.string s) = some (keyL s) := WideMaps.keyOf_string_mk Try.underlying9 hs
theorem keyL_key (s : ByteArray) : WideAt.IsKeyLit (keyL s) := trivial

/-- block b is a map of at most n entries: at each string (of a length that there can be) it holds m's number -/
def MapAt (w : World) (b n : Nat) (m : ByteArray → Option Nat) : Prop :=
  ∃ D : DataW Unit, w.ownsMap Try.prog 9 (plainElem Try.prog 3) b n D ∧
    ∀ s : ByteArray, s.size ≤ maxLen → Maps.has D (keyL s) = (m s).isSome ∧ D.atKey (keyL s) (.lit (.int .i64 0)) = .lit (.int .i64 (((m s).getD 0 : Nat) : Int))

theorem MapAt.lt {w : World} {b n : Nat} {m : ByteArray → Option Nat} (h : MapAt w b n m) : b < w.heap.size := by obtain ⟨D, h, _⟩ := h; exact h.lt
theorem MapAt.mono {w : World} {b n n' : Nat} {m : ByteArray → Option Nat} (h : MapAt w b n m) (hn : n ≤ n') : MapAt w b n' m := by obtain ⟨D, h, r⟩ := h; exact ⟨D, h.mono hn, r⟩
theorem MapAt.keep {O : Nat → Prop} {w w' : World} {b n : Nat} {m : ByteArray → Option Nat} (h : MapAt w b n m) (hk : Keep O w w') (ho : ¬ O b) : MapAt w' b n m := by
  obtain ⟨D, ⟨es, clock, hb, r⟩, hm⟩ := h
  have hlt : b < w.heap.size := (Array.getElem?_eq_some_iff.1 hb).1
  exact ⟨D, ⟨es, clock, (hk.block b hlt ho).trans hb, r⟩, hm⟩
theorem MapAt.made (w : World) : MapAt (w.alloc (.map #[] 0)) w.heap.size 0 (fun _ => none) :=
  ⟨.map [], World.ownsMap_made w _ _ _, fun _ _ => ⟨rfl, rfl⟩⟩

theorem MapAt.look_ok {w : World} {b n : Nat} {m : ByteArray → Option Nat} (h : MapAt w b n m) (s : ByteArray) (hs : s.size ≤ maxLen) :
    (Instr.lookup 49 (.map (some b)) (.string s) true).run Try.prog w = .ok (.tuple #[.int .i64 (((m s).getD 0 : Nat) : Int), .bool (m s).isSome]) w := by
  obtain ⟨D, ho, hm⟩ := h
  obtain ⟨v, ps, hrun, hv⟩ := ho.look_ok law Try.underlying49 (zeroE w) (plainElem_int Try.underlying3 (by decide)) (keyS hs)
  obtain ⟨c, rfl, hc, _⟩ := plainElem_int_inv Try.underlying3 hv
  simp only [Prod.mk.injEq] at hc
  have h1 := (hm s hs).1
  have h2 := (hm s hs).2
  rw [h2] at hc
  have hcc : (((m s).getD 0 : Nat) : Int) = c := by
    have := hc.1
    simpa using this
  rw [hrun, h1, hcc]
theorem MapAt.look {w : World} {b n : Nat} {m : ByteArray → Option Nat} (h : MapAt w b n m) (s : ByteArray) (hs : s.size ≤ maxLen) :
    (Instr.lookup 49 (.map (some b)) (.string s) false).run Try.prog w = .ok (.int .i64 (((m s).getD 0 : Nat) : Int)) w := by
  obtain ⟨D, ho, hm⟩ := h
  obtain ⟨c, hrun, hat, _⟩ := ho.lookup_int law Try.underlying49 Try.underlying3 (zeroE w) (keyS hs)
  have h2 := (hm s hs).2
  rw [h2] at hat
  have hcc : (((m s).getD 0 : Nat) : Int) = c := by simpa using hat
  rw [hrun, hcc]

def updM (m : ByteArray → Option Nat) (s : ByteArray) (v : Nat) : ByteArray → Option Nat := fun t => if t = s then some v else m t
theorem MapAt.update {w : World} {b n : Nat} {m : ByteArray → Option Nat} (h : MapAt w b n m) (s : ByteArray) (hs : s.size ≤ maxLen) (v : Nat) (hv : v ≤ 4611686018427387904) (hn : n ≤ 4611686018427387904) :
    ∃ w', (Instr.mapUpdate 49 (.map (some b)) (.string s) (.int .i64 (v : Int))).run Try.prog w = .ok () w' ∧ MapAt w' b (n + 1) (updM m s v) ∧ Keep (fun k => k = b) w w' := by
  obtain ⟨D, ho, hm⟩ := h
  obtain ⟨w', hrun, ho', hg⟩ := ho.update (t := 49) law Try.underlying49 (by unfold maxLen; omega) (keyS hs) (plainElem_int Try.underlying3 (show (Lit.int .i64 (v : Int)).wf = true from WalkArith.wf_i64 (by omega)))
  refine ⟨w', hrun, ⟨_, ho', fun t ht => ?_⟩, (Keep.of_grown hg).mono (fun i _ e => by simpa using e)⟩
  by_cases e : t = s
  · subst e
    unfold updM
    rw [if_pos rfl]
    exact ⟨has_put_same ho.isMap (keyL_key _) _, atKey_put_same ho.isMap (keyL_key _) _ _⟩
  · unfold updM
    rw [if_neg e]
    have hne : keyL t ≠ keyL s := fun h => e (keyL_inj h)
    rw [has_put_other hne, atKey_put_other hne]
    exact hm t ht
end Go.Proofs.Qxb6000061a
