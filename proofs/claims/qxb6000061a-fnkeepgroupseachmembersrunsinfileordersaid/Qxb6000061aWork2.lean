/-
  A Work IN MEMORY, TURNED: made; a new member; a new run.
-/
import Derived.Test.Qxb6000061aWork
namespace Go.Proofs.Qxb6000061a
open Go.RowKit

variable {w w' : World} {O Q : Nat → Prop} {rt : Bool} {mo : Nat → Int} {n3 wp : Nat} {st : St} {d : WData}

def upd {α : Type} (f : Nat → α) (i : Nat) (v : α) : Nat → α := fun j => if j = i then v else f j
theorem upd_same {α : Type} (f : Nat → α) (i : Nat) (v : α) : upd f i v i = v := if_pos rfl
theorem upd_other {α : Type} {f : Nat → α} {i j : Nat} {v : α} (h : ¬ j = i) : upd f i v j = f j := if_neg h
/-- O and the block g -/
def plus (O : Nat → Prop) (g : Nat) : Nat → Prop := fun k => O k ∨ k = g

theorem WI.wplt (h : WI w O Q rt mo n3 wp st d) : wp < w.heap.size := (Array.getElem?_eq_some_iff.1 h.work).1
theorem WI.mblt (h : WI w O Q rt mo n3 wp st d) : d.mb < w.heap.size := h.map.lt
theorem WI.salt (h : WI w O Q rt mo n3 wp st d) {a : Addr} (ha : d.sa = some a) : a.block < w.heap.size := by
  have := h.spans.lt a.block (by rw [ha]; rfl)
  exact this.2
theorem WI.valt (h : WI w O Q rt mo n3 wp st d) {i : Nat} (hi : i < st.n) {a : Addr} (ha : d.va i = some a) : a.block < w.heap.size := by
  have := (h.inner i hi).lt a.block (by unfold WData.cell; rw [ha]; rfl)
  exact this.2

/-- ZZNewWork's -/
def WData.fresh (mb : Nat) : WData := ⟨mb, none, 0, fun _ => none, fun _ => 0, fun _ _ => .bool false, fun _ _ => .bool false⟩
theorem WI.fresh (w : World) (Q : Nat → Prop) (rt : Bool) (mo : Nat → Int) (n3 : Nat) (hQ : ∀ k, k = w.heap.size ∨ k = w.heap.size + 1 → Q k) (hlt : ∀ k, Q k → k < w.heap.size + 2) :
    WI ((w.alloc (.map #[] 0)).alloc (.cells #[.string ⟨#[]⟩, .bool false, .map (some w.heap.size), .slice none 0 0] 73)) (fun k => k = w.heap.size ∨ k = w.heap.size + 1) Q rt mo n3 (w.heap.size + 1) St.zero (WData.fresh w.heap.size) where
  oq := hQ
  lt := fun k e => by have := hlt k e; simp; omega
  few := Nat.zero_le _
  short := fun _ => Nat.zero_le _
  high := fun _ _ => rfl
  mlt := fun _ _ h => by cases h
  owp := .inr rfl
  omb := .inl rfl
  wpmb := fun h => absurd h (Nat.succ_ne_self _)
  work := by
    have := heap_alloc_new (w.alloc (.map #[] 0)) (.cells #[.string ⟨#[]⟩, .bool false, .map (some w.heap.size), .slice none 0 0] 73)
    rw [show (w.alloc (.map #[] 0)).heap.size = w.heap.size + 1 from by simp] at this
    exact this
  map := (MapAt.made w).keep (Keep.of_below (O := noO) ((Below.refl _ _).alloc (Nat.le_refl _) _)) (fun e => e)
  spans := World.ownsRow_nil _ _ _ _
  sblk := fun _ h => by cases h
  inner := fun i hi => absurd hi (Nat.not_lt_zero _)
  iblk := fun i hi => absurd hi (Nat.not_lt_zero _)
  apart := fun i _ hi => absurd hi (Nat.not_lt_zero _)
  span := fun i hi => absurd hi (Nat.not_lt_zero _)

theorem place_new {s : ByteArray} (hs : st.m s = none) : st.place s = ⟨updM st.m s st.n, st.n + 1, fun j => if j = st.n then [] else st.sp j⟩ := by
  unfold St.place; rw [if_neg (by rw [hs]; simp)]
theorem place_old {s : ByteArray} {i : Nat} (hs : st.m s = some i) : st.place s = st := by
  unfold St.place; rw [if_pos (by rw [hs]; rfl)]

def WData.grow (d : WData) (n g cap : Nat) : WData := { d with sa := some ⟨g, 0, none⟩, scap := cap, va := upd d.va n none, vcap := upd d.vcap n 0 }

theorem keep_setCell {w : World} {b o : Nat} {u : Value} : Keep (fun k => k = b) w (w.setCell ⟨b, o, none⟩ u) := (Keep.refl _ _).setCell _ _ (fun _ => rfl)

/-- a new member: its entry in the map, a nil slice at the row's end, the row's slice stored back -/
theorem WI.newName (h : WI w O Q rt mo n3 wp st d) {s : ByteArray} (hs : st.m s = none) (hn : st.n < 1048576) {w1 w2 : World} {g cap : Nat} (k1 : Keep (fun k => k = d.mb) w w1) (hm : MapAt w1 d.mb (st.n + 1) (updM st.m s st.n))
    (k2 : Keep (fun k => some k = (Value.slice d.sa st.n d.scap).ownBlock) w1 w2)
    (ho : w2.ownsRow 0 90 1 (.slice (some ⟨g, 0, none⟩) (st.n + 1) cap) (st.n + 1) (rowOf (d.cell st) st.n ++ [.slice none 0 0]))
    (hat : (Value.slice d.sa st.n d.scap).ownBlock = some g ∨ w1.heap.size ≤ g) :
    WI (w2.setCell ⟨wp, 3, none⟩ (.slice (some ⟨g, 0, none⟩) (st.n + 1) cap)) (plus O g) (plus Q g) rt mo n3 wp (st.place s) (d.grow st.n g cap) := by
  rw [place_new hs]
  have k3 := keep_setCell (w := w2) (b := wp) (o := 3) (u := .slice (some ⟨g, 0, none⟩) (st.n + 1) cap)
  have hs1 := k1.size
  have hs2 := k2.size
  have hwp := h.wplt
  have hmb := h.mblt
  -- where the row lies now
  have hg : g ≠ wp ∧ g ≠ d.mb ∧ (∀ i, i < st.n → ∀ a, d.va i = some a → a.block ≠ g) ∧ (∀ b, ¬ Q b → b < w.heap.size → b ≠ g) := by
    rcases hat with e | e
    · obtain ⟨x, hx, rfl⟩ := ownBlock_slice e
      have := h.sblk x hx
      exact ⟨this.2.1, this.2.2, fun i hi a ha => (h.iblk i hi a ha).2.2.2 x hx, fun b hb _ e => hb (e ▸ h.oq _ this.1)⟩
    · exact ⟨by omega, by omega, fun i hi a ha e' => by have := h.valt hi ha; omega, fun b _ hb e' => by omega⟩
  have hnb : ∀ k, (Value.slice d.sa st.n d.scap).ownBlock = some k → O k ∧ k ≠ wp ∧ k ≠ d.mb ∧ ∀ i, i < st.n → ∀ a, d.va i = some a → a.block ≠ k := fun k e => by
    obtain ⟨x, hx, rfl⟩ := ownBlock_slice e
    have := h.sblk x hx
    exact ⟨this.1, this.2.1, this.2.2, fun i hi a ha => (h.iblk i hi a ha).2.2.2 x hx⟩
  have hvn : upd d.va st.n none st.n = none := upd_same _ _ _
  refine { oq := fun k e => e.elim (fun e => .inl (h.oq k e)) .inr, lt := ?_, few := hn, short := ?_, high := ?_, mlt := ?_, owp := .inl h.owp, omb := .inl h.omb, wpmb := h.wpmb, work := ?_, map := ?_, spans := ?_, sblk := ?_, inner := ?_, iblk := ?_, apart := ?_, span := ?_ }
  · intro k e
    have hg2 := (ho.lt g rfl).2
    have hs3 := k3.size
    rcases e with e | e
    · have := h.lt k e; omega
    · omega
  · intro i
    show (if i = st.n then [] else st.sp i).length ≤ _
    by_cases e : i = st.n
    · rw [if_pos e]; exact Nat.zero_le _
    · rw [if_neg e]; exact h.short i
  · intro i hi
    show (if i = st.n then [] else st.sp i) = []
    by_cases e : i = st.n
    · rw [if_pos e]
    · rw [if_neg e]; exact h.high i (by have : st.n + 1 ≤ i := hi; omega)
  · intro t i ht
    show i < st.n + 1
    have ht' : updM st.m s st.n t = some i := ht
    unfold updM at ht'
    by_cases e : t = s
    · rw [if_pos e] at ht'; simp at ht'; omega
    · rw [if_neg e] at ht'; have := h.mlt t i ht'; omega
  · have hw2 : w2.heap[wp]? = some (.cells (d.work st) 73 (0, 0)) := by
      rw [k2.block wp (by omega) (fun e => (hnb wp e.symm).2.1 rfl), k1.block wp hwp h.wpmb]; exact h.work
    rw [heap_setCell_same w2 wp 3 (d.work st) 73 _ hw2]
    rfl
  · refine (hm.keep k2 (fun e => (hnb _ e.symm).2.2.1 rfl)).keep k3 (fun e => h.wpmb e.symm)
  · have := k3.ownsRow ho (fun k e => by simp [Value.ownBlock] at e; subst e; exact hg.1)
    rw [show rowOf (d.cell st) st.n ++ [.slice none 0 0] = rowOf ((d.grow st.n g cap).cell ⟨updM st.m s st.n, st.n + 1, fun j => if j = st.n then [] else st.sp j⟩) (st.n + 1) from ?_] at this
    · exact this
    · rw [rowOf_succ]
      congr 1
      · refine rowOf_congr fun i hi => ?_
        show Value.slice _ _ _ = Value.slice (upd d.va st.n none i) (if i = st.n then [] else st.sp i).length (upd d.vcap st.n 0 i)
        rw [if_neg (by omega), upd_other (by omega), upd_other (by omega)]
      · show _ = [Value.slice (upd d.va st.n none st.n) (if st.n = st.n then [] else st.sp st.n).length (upd d.vcap st.n 0 st.n)]
        rw [if_pos rfl, upd_same, upd_same]; rfl
  · intro a ha
    have : a = ⟨g, 0, none⟩ := by simpa [WData.grow] using ha.symm
    subst this
    exact ⟨.inr rfl, hg.1, hg.2.1⟩
  · intro i hi
    show World.ownsRow _ 0 92 2 (Value.slice (upd d.va st.n none i) (if i = st.n then [] else st.sp i).length (upd d.vcap st.n 0 i)) (if i = st.n then [] else st.sp i).length (rowOf (d.two i) ((if i = st.n then [] else st.sp i).length * 2))
    by_cases e : i = st.n
    · subst e
      rw [if_pos rfl, upd_same, upd_same]
      exact World.ownsRow_nil _ _ _ _
    · have hi' : i < st.n := by have : i < st.n + 1 := hi; omega
      rw [if_neg e, upd_other e, upd_other e]
      have hb : ∀ k, (d.cell st i).ownBlock = some k → O k ∧ k ≠ wp ∧ k ≠ d.mb ∧ ∀ x, (Value.slice d.sa st.n d.scap).ownBlock = some x → k ≠ x := fun k e => by
        obtain ⟨x, hx, rfl⟩ := ownBlock_slice e
        have := h.iblk i hi' x hx
        exact ⟨this.1, this.2.1, this.2.2.1, fun y hy => by obtain ⟨z, hz, rfl⟩ := ownBlock_slice hy; exact this.2.2.2 z hz⟩
      have o1 := k1.ownsRow (h.inner i hi') (fun k e => (hb k e).2.2.1)
      have o2 := k2.ownsRow o1 (fun k e e' => (hb k e).2.2.2 k e'.symm rfl)
      exact k3.ownsRow o2 (fun k e => (hb k e).2.1)
  · intro i hi a ha
    have ha' : upd d.va st.n none i = some a := ha
    by_cases e : i = st.n
    · subst e; rw [hvn] at ha'; cases ha'
    · rw [upd_other e] at ha'
      have hi' : i < st.n := by have : i < st.n + 1 := hi; omega
      have := h.iblk i hi' a ha'
      refine ⟨.inl this.1, this.2.1, this.2.2.1, fun x hx => ?_⟩
      have : x = ⟨g, 0, none⟩ := by simpa [WData.grow] using hx.symm
      subst this
      exact hg.2.2.1 i hi' a ha'
  · intro i j hi hj hij a b ha hb
    have ha' : upd d.va st.n none i = some a := ha
    have hb' : upd d.va st.n none j = some b := hb
    by_cases e : i = st.n
    · subst e; rw [hvn] at ha'; cases ha'
    · by_cases e' : j = st.n
      · subst e'; rw [hvn] at hb'; cases hb'
      · rw [upd_other e] at ha'
        rw [upd_other e'] at hb'
        exact h.apart i j (by have : i < st.n + 1 := hi; omega) (by have : j < st.n + 1 := hj; omega) hij a b ha' hb'
  · intro i hi k x hx
    have hx' : (if i = st.n then [] else st.sp i)[k]? = some x := hx
    by_cases e : i = st.n
    · rw [if_pos e] at hx'; simp at hx'
    · rw [if_neg e] at hx'
      have hi' : i < st.n := by have : i < st.n + 1 := hi; omega
      have S := (h.span i hi' k x hx').weaken (Q' := plus Q g) (fun j hj e => e.elim (fun e => e) (fun e => by
        subst e
        rcases hat with e | e
        · exact h.oq _ (hnb _ e).1
        · omega))
      have S1 := S.keep k1 (fun k e => .inl (e ▸ h.oq _ h.omb))
      have S2 := S1.keep k2 (fun k e => .inl (h.oq _ (hnb k e.symm).1))
      exact S2.keep k3 (fun k e => .inl (e ▸ h.oq _ h.owp))

def WData.put (d : WData) (i k g cap : Nat) (rv tv : Value) : WData := { d with va := upd d.va i (some ⟨g, 0, none⟩), vcap := upd d.vcap i cap, rv := upd d.rv i (upd (d.rv i) k rv), tv := upd d.tv i (upd (d.tv i) k tv) }

theorem two_put (d : WData) (i k g cap : Nat) (rv tv : Value) : rowOf (d.two i) (k * 2) ++ [rv, tv] = rowOf ((d.put i k g cap rv tv).two i) ((k + 1) * 2) := by
  rw [show (k + 1) * 2 = k * 2 + 1 + 1 from by omega, rowOf_succ, rowOf_succ, List.append_assoc]
  congr 1
  · refine rowOf_congr fun j hj => ?_
    show (if j % 2 = 0 then d.rv i (j / 2) else d.tv i (j / 2)) = (if j % 2 = 0 then upd d.rv i (upd (d.rv i) k rv) i (j / 2) else upd d.tv i (upd (d.tv i) k tv) i (j / 2))
    rw [upd_same, upd_same, upd_other (by omega), upd_other (by omega)]
  · show [rv, tv] = [if k * 2 % 2 = 0 then upd d.rv i (upd (d.rv i) k rv) i (k * 2 / 2) else upd d.tv i (upd (d.tv i) k tv) i (k * 2 / 2)] ++ [if (k * 2 + 1) % 2 = 0 then upd d.rv i (upd (d.rv i) k rv) i ((k * 2 + 1) / 2) else upd d.tv i (upd (d.tv i) k tv) i ((k * 2 + 1) / 2)]
    rw [if_pos (by omega), if_neg (by omega), upd_same, upd_same, show k * 2 / 2 = k from by omega, show (k * 2 + 1) / 2 = k from by omega, upd_same, upd_same]
    rfl
theorem two_put_other (d : WData) {i j : Nat} (k g cap : Nat) (rv tv : Value) (h : ¬ j = i) : (d.put i k g cap rv tv).two j = d.two j := by
  funext q
  show (if q % 2 = 0 then upd d.rv i (upd (d.rv i) k rv) j (q / 2) else upd d.tv i (upd (d.tv i) k tv) j (q / 2)) = _
  rw [upd_other h, upd_other h]; rfl

/-- a new run of the member at place i: appended to its row, the slice stored back into the members' row -/
theorem WI.push (h : WI w O Q rt mo n3 wp st d) {i : Nat} (hi : i < st.n) {x : Nat × Nat} {rv tv : Value} (hx : SpanIs w Q rt mo n3 rv tv x) (hsh : (st.sp i).length < 1048576) {w1 : World} {g cap sg : Nat} (hsg : d.sa = some ⟨sg, 0, none⟩)
    (k1 : Keep (fun k => some k = (d.cell st i).ownBlock) w w1)
    (ho : w1.ownsRow 0 92 2 (.slice (some ⟨g, 0, none⟩) ((st.sp i).length + 1) cap) ((st.sp i).length + 1) (rowOf (d.two i) ((st.sp i).length * 2) ++ [rv, tv]))
    (hat : (d.cell st i).ownBlock = some g ∨ w.heap.size ≤ g) :
    WI (w1.setCell ⟨sg, i, none⟩ (.slice (some ⟨g, 0, none⟩) ((st.sp i).length + 1) cap)) (plus O g) (plus Q g) rt mo n3 wp (st.push i x) (d.put i (st.sp i).length g cap rv tv) := by
  have k2 := keep_setCell (w := w1) (b := sg) (o := i) (u := .slice (some ⟨g, 0, none⟩) ((st.sp i).length + 1) cap)
  have hs1 := k1.size
  have hwp := h.wplt
  have hmb := h.mblt
  have hS := h.sblk _ hsg
  have hsl := h.salt hsg
  have hib : ∀ k, (d.cell st i).ownBlock = some k → O k ∧ k ≠ wp ∧ k ≠ d.mb ∧ k ≠ sg ∧ ∀ j, j < st.n → j ≠ i → ∀ a, d.va j = some a → a.block ≠ k := fun k e => by
    obtain ⟨y, hy, rfl⟩ := ownBlock_slice e
    have := h.iblk i hi y hy
    exact ⟨this.1, this.2.1, this.2.2.1, this.2.2.2 _ hsg, fun j hj hji a ha => h.apart j i hj hi hji a y ha hy⟩
  have hg : g ≠ wp ∧ g ≠ d.mb ∧ g ≠ sg ∧ (∀ j, j < st.n → j ≠ i → ∀ a, d.va j = some a → a.block ≠ g) ∧ (g < w.heap.size → Q g) := by
    rcases hat with e | e
    · have := hib g e
      exact ⟨this.2.1, this.2.2.1, this.2.2.2.1, this.2.2.2.2, fun _ => h.oq _ this.1⟩
    · exact ⟨by omega, by omega, by have : sg < w.heap.size := hsl; omega, fun j hj _ a ha e' => by have := h.valt hj ha; omega, fun e' => by omega⟩
  have hlen : ∀ j, ((st.push i x).sp j).length = if j = i then (st.sp i).length + 1 else (st.sp j).length := fun j => by
    show (if j = i then st.sp j ++ [x] else st.sp j).length = _
    by_cases e : j = i
    · subst e; rw [if_pos rfl, if_pos rfl, List.length_append]; rfl
    · rw [if_neg e, if_neg e]
  refine { oq := fun k e => e.elim (fun e => .inl (h.oq k e)) .inr, lt := ?_, few := h.few, short := ?_, high := ?_, mlt := h.mlt, owp := .inl h.owp, omb := .inl h.omb, wpmb := h.wpmb, work := ?_, map := ?_, spans := ?_, sblk := ?_, inner := ?_, iblk := ?_, apart := ?_, span := ?_ }
  · intro k e
    have hg2 := (ho.lt g rfl).2
    have hs2 := k2.size
    rcases e with e | e
    · have := h.lt k e; omega
    · omega
  · intro j
    rw [hlen]
    by_cases e : j = i
    · rw [if_pos e]; omega
    · rw [if_neg e]; exact h.short j
  · intro j hj
    show (if j = i then st.sp j ++ [x] else st.sp j) = []
    have hj' : st.n ≤ j := hj
    rw [if_neg (by omega)]; exact h.high j hj'
  · rw [k2.block wp (by omega) (fun e => hS.2.1 e.symm), k1.block wp hwp (fun e => (hib wp e.symm).2.1 rfl)]; exact h.work
  · exact (h.map.keep k1 (fun e => (hib _ e.symm).2.2.1 rfl)).keep k2 (fun e => hS.2.2 e.symm)
  · have o1 := k1.ownsRow h.spans (fun k e e' => by
      obtain ⟨y, hy, rfl⟩ := ownBlock_slice e
      rw [hsg] at hy
      simp only [Option.some.injEq] at hy
      subst hy
      exact (hib _ e'.symm).2.2.2.1 rfl)
    rw [hsg] at o1
    have o2 := (o1.stored i (.slice (some ⟨g, 0, none⟩) ((st.sp i).length + 1) cap)).1
    rw [rowOf_set] at o2
    show World.ownsRow _ 0 90 1 (.slice d.sa st.n d.scap) st.n _
    rw [hsg]
    rw [rowOf_congr (g := (d.put i (st.sp i).length g cap rv tv).cell (st.push i x)) (fun j _ => ?_)] at o2
    · exact o2
    · show updV (d.cell st) i _ j = Value.slice (upd d.va i (some ⟨g, 0, none⟩) j) ((st.push i x).sp j).length (upd d.vcap i cap j)
      rw [hlen]
      by_cases e : j = i
      · subst e; rw [updV_same, upd_same, upd_same, if_pos rfl]
      · rw [updV_other e, upd_other e, upd_other e, if_neg e]; rfl
  · intro a ha
    have := h.sblk a ha
    exact ⟨.inl this.1, this.2⟩
  · intro j hj
    have hj' : j < st.n := hj
    show World.ownsRow _ 0 92 2 (Value.slice (upd d.va i (some ⟨g, 0, none⟩) j) ((st.push i x).sp j).length (upd d.vcap i cap j)) _ _
    rw [hlen]
    by_cases e : j = i
    · subst e
      rw [upd_same, upd_same, if_pos rfl, ← two_put]
      exact k2.ownsRow ho (fun k e => by simp [Value.ownBlock] at e; subst e; exact hg.2.2.1)
    · rw [upd_other e, upd_other e, if_neg e, two_put_other d _ _ _ _ _ e]
      have hb : ∀ k, (d.cell st j).ownBlock = some k → k ≠ sg ∧ ∀ y, (d.cell st i).ownBlock = some y → k ≠ y := fun k e1 => by
        obtain ⟨y, hy, rfl⟩ := ownBlock_slice e1
        exact ⟨(h.iblk j hj' y hy).2.2.2 _ hsg, fun z hz => (hib z hz).2.2.2.2 j hj' e y hy⟩
      have o1 := k1.ownsRow (h.inner j hj') (fun k e1 e2 => (hb k e1).2 k e2.symm rfl)
      exact k2.ownsRow o1 (fun k e1 => (hb k e1).1)
  · intro j hj a ha
    have hj' : j < st.n := hj
    have ha' : upd d.va i (some ⟨g, 0, none⟩) j = some a := ha
    by_cases e : j = i
    · subst e
      rw [upd_same] at ha'
      simp only [Option.some.injEq] at ha'
      subst ha'
      refine ⟨.inr rfl, hg.1, hg.2.1, fun y hy => ?_⟩
      have hy' : d.sa = some y := hy
      rw [hsg] at hy'
      simp only [Option.some.injEq] at hy'
      subst hy'
      exact hg.2.2.1
    · rw [upd_other e] at ha'
      have := h.iblk j hj' a ha'
      exact ⟨.inl this.1, this.2.1, this.2.2.1, this.2.2.2⟩
  · intro j k hj hk hjk a b ha hb
    have ha' : upd d.va i (some ⟨g, 0, none⟩) j = some a := ha
    have hb' : upd d.va i (some ⟨g, 0, none⟩) k = some b := hb
    by_cases e : j = i
    · subst e
      rw [upd_same] at ha'
      simp only [Option.some.injEq] at ha'
      subst ha'
      rw [upd_other (fun e => hjk e.symm)] at hb'
      exact fun e => hg.2.2.2.1 k hk (fun e => hjk e.symm) b hb' e.symm
    · rw [upd_other e] at ha'
      by_cases e' : k = i
      · subst e'
        rw [upd_same] at hb'
        simp only [Option.some.injEq] at hb'
        subst hb'
        exact hg.2.2.2.1 j hj e a ha'
      · rw [upd_other e'] at hb'
        exact h.apart j k hj hk hjk a b ha' hb'
  · intro j hj k y hy
    have hj' : j < st.n := hj
    have hy' : (if j = i then st.sp j ++ [x] else st.sp j)[k]? = some y := hy
    show SpanIs _ (plus Q g) rt mo n3 (upd d.rv i (upd (d.rv i) (st.sp i).length rv) j k) (upd d.tv i (upd (d.tv i) (st.sp i).length tv) j k) y
    have fin : ∀ {r t : Value} {z : Nat × Nat}, SpanIs w Q rt mo n3 r t z → SpanIs (w1.setCell ⟨sg, i, none⟩ (.slice (some ⟨g, 0, none⟩) ((st.sp i).length + 1) cap)) (plus Q g) rt mo n3 r t z := fun S => by
      have S0 := S.weaken (Q' := plus Q g) (fun q hq e => e.elim (fun e => e) (fun e => by subst e; exact hg.2.2.2.2 hq))
      exact (S0.keep k1 (fun q e => .inl (h.oq _ (hib q e.symm).1))).keep k2 (fun q e => .inl (e ▸ h.oq _ hS.1))
    by_cases e : j = i
    · subst e
      rw [if_pos rfl] at hy'
      rw [upd_same, upd_same]
      by_cases ek : k = (st.sp j).length
      · subst ek
        rw [upd_same, upd_same]
        rw [List.getElem?_append_right (Nat.le_refl _), Nat.sub_self] at hy'
        simp only [List.getElem?_cons_zero, Option.some.injEq] at hy'
        subst hy'
        exact fin hx
      · rw [upd_other ek, upd_other ek]
        have hk : k < (st.sp j).length := by
          have := (List.getElem?_eq_some_iff.1 hy').1
          rw [List.length_append] at this
          simp at this
          omega
        rw [List.getElem?_append_left hk] at hy'
        exact fin (h.span j hj' k y hy')
    · rw [if_neg e] at hy'
      rw [upd_other e, upd_other e]
      exact fin (h.span j hj' k y hy')
end Go.Proofs.Qxb6000061a
