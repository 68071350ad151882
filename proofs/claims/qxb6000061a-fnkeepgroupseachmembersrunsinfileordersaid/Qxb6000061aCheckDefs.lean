/-
  keepCheckRuns (23): WHAT ITS WALK SPEAKS OF: the place and count maps and the order of the names, against the ghost of the Work.
-/
import Derived.Test.Qxb6000061aKeepDefs
namespace Go.Proofs.Qxb6000061a
open Go.RowKit

structure Good (s : St) : Prop where
  mlt : ∀ t i, s.m t = some i → i < s.n
  high : ∀ i, s.n ≤ i → s.sp i = []
  inj : ∀ t u i, s.m t = some i → s.m u = some i → t = u
theorem Good.zero : Good St.zero := ⟨fun _ _ h => (by cases h), fun _ _ => rfl, fun _ _ _ h => (by cases h)⟩
theorem updM_same (m : ByteArray → Option Nat) (s : ByteArray) (v : Nat) : updM m s v s = some v := if_pos rfl
theorem updM_other {m : ByteArray → Option Nat} {s t : ByteArray} {v : Nat} (h : ¬ t = s) : updM m s v t = m t := if_neg h

theorem Good.place {s : St} (h : Good s) (u : ByteArray) : Good (s.place u) := by
  cases hu : s.m u with
  | some i => rw [place_old hu]; exact h
  | none =>
    rw [place_new hu]
    refine ⟨fun t i e => ?_, fun i e => ?_, fun t v i e1 e2 => ?_⟩
    · show i < s.n + 1
      have e' : updM s.m u s.n t = some i := e
      by_cases ht : t = u
      · subst ht; rw [updM_same] at e'; cases e'; exact Nat.lt_succ_self _
      · rw [updM_other ht] at e'; exact Nat.lt_succ_of_lt (h.mlt t i e')
    · have e' : s.n + 1 ≤ i := e
      show (if i = s.n then [] else s.sp i) = []
      rw [if_neg (by omega)]
      exact h.high i (by omega)
    · have e1' : updM s.m u s.n t = some i := e1
      have e2' : updM s.m u s.n v = some i := e2
      by_cases ht : t = u
      · by_cases hv : v = u
        · rw [ht, hv]
        · subst ht
          rw [updM_same] at e1'; cases e1'
          rw [updM_other hv] at e2'
          exact absurd (h.mlt _ _ e2') (Nat.lt_irrefl _)
      · by_cases hv : v = u
        · subst hv
          rw [updM_same] at e2'; cases e2'
          rw [updM_other ht] at e1'
          exact absurd (h.mlt _ _ e1') (Nat.lt_irrefl _)
        · rw [updM_other ht] at e1'; rw [updM_other hv] at e2'
          exact h.inj t v i e1' e2'
theorem Good.push {s : St} (h : Good s) {p : Nat} (hp : p < s.n) (x : Nat × Nat) : Good (s.push p x) := by
  refine ⟨h.mlt, fun i e => ?_, h.inj⟩
  have e' : s.n ≤ i := e
  show (if i = p then s.sp i ++ [x] else s.sp i) = []
  rw [if_neg (by omega)]
  exact h.high i e'
theorem Good.add {s : St} (h : Good s) (u : ByteArray) (x : Nat × Nat) : Good (s.add u x) := (h.place u).push (at_lt h.mlt u) x
theorem Good.runs {s : St} (h : Good s) (gb : Nat) (nm : Nat → ByteArray) (ln : Nat → Nat) : ∀ k, Good (runsTo gb nm ln s k)
  | 0 => h
  | k + 1 => (Good.runs h gb nm ln k).add _ _

structure Pre (s F : St) : Prop where
  m : ∀ t i, s.m t = some i → F.m t = some i
  n : s.n ≤ F.n
  sp : ∀ (p k : Nat) (x : Nat × Nat), (s.sp p)[k]? = some x → (F.sp p)[k]? = some x
theorem Pre.refl (s : St) : Pre s s := ⟨fun _ _ h => h, Nat.le_refl _, fun _ _ _ h => h⟩
theorem Pre.trans {a b c : St} (h : Pre a b) (k : Pre b c) : Pre a c := ⟨fun t i e => k.m t i (h.m t i e), Nat.le_trans h.n k.n, fun p j x e => k.sp p j x (h.sp p j x e)⟩
theorem Pre.place {s : St} (h : Good s) (u : ByteArray) : Pre s (s.place u) := by
  cases hu : s.m u with
  | some i => rw [place_old hu]; exact Pre.refl s
  | none =>
    rw [place_new hu]
    refine ⟨fun t i e => ?_, Nat.le_succ _, fun p k x e => ?_⟩
    · show updM s.m u s.n t = some i
      have ht : ¬ t = u := fun e' => by subst e'; rw [hu] at e; cases e
      rw [updM_other ht]; exact e
    · show (if p = s.n then [] else s.sp p)[k]? = some x
      by_cases hp : p = s.n
      · rw [hp, h.high s.n (Nat.le_refl _)] at e; cases e
      · rw [if_neg hp]; exact e
theorem Pre.push (s : St) (p : Nat) (x : Nat × Nat) : Pre s (s.push p x) := by
  refine ⟨fun _ _ h => h, Nat.le_refl _, fun q k y e => ?_⟩
  show (if q = p then s.sp q ++ [x] else s.sp q)[k]? = some y
  by_cases hq : q = p
  · rw [if_pos hq, List.getElem?_append_left (List.getElem?_eq_some_iff.1 e).1]; exact e
  · rw [if_neg hq]; exact e
theorem Pre.runs {s : St} (h : Good s) (gb : Nat) (nm : Nat → ByteArray) (ln : Nat → Nat) (k : Nat) : ∀ j, Pre (runsTo gb nm ln s k) (runsTo gb nm ln s (k + j))
  | 0 => Pre.refl _
  | j + 1 => (Pre.runs h gb nm ln k j).trans ((Pre.place (h.runs gb nm ln (k + j)) _).trans (Pre.push _ _ _))

def cntOf (s : St) (t : ByteArray) : Nat := match s.m t with
  | some i => (s.sp i).length
  | none => 0
theorem cntOf_some {s : St} {t : ByteArray} {i : Nat} (h : s.m t = some i) : cntOf s t = (s.sp i).length := by unfold cntOf; rw [h]
theorem cntOf_none {s : St} {t : ByteArray} (h : s.m t = none) : cntOf s t = 0 := by unfold cntOf; rw [h]
theorem cntOf_place {s : St} (h : Good s) (u t : ByteArray) : cntOf (s.place u) t = cntOf s t := by
  cases hu : s.m u with
  | some i => rw [place_old hu]
  | none =>
    rw [place_new hu]
    by_cases ht : t = u
    · subst ht
      rw [cntOf_none hu, cntOf_some (i := s.n) (updM_same _ _ _)]
      show (if s.n = s.n then [] else s.sp s.n).length = 0
      rw [if_pos rfl]; rfl
    · cases hm : s.m t with
      | none => rw [cntOf_none hm, cntOf_none]; exact (updM_other ht).trans hm
      | some i =>
        rw [cntOf_some hm, cntOf_some (i := i) ((updM_other ht).trans hm)]
        have := h.mlt t i hm
        show (if i = s.n then [] else s.sp i).length = _
        rw [if_neg (by omega)]
theorem cntOf_push {s : St} (h : Good s) {u : ByteArray} {p : Nat} (hp : s.m u = some p) (x : Nat × Nat) (t : ByteArray) : cntOf (s.push p x) t = if t = u then cntOf s u + 1 else cntOf s t := by
  by_cases ht : t = u
  · subst ht
    rw [if_pos rfl, cntOf_some (s := s.push p x) (i := p) hp, cntOf_some hp]
    show (if p = p then s.sp p ++ [x] else s.sp p).length = _
    rw [if_pos rfl]; simp
  · rw [if_neg ht]
    cases hm : s.m t with
    | none => rw [cntOf_none hm, cntOf_none (s := s.push p x) hm]
    | some i =>
      rw [cntOf_some hm, cntOf_some (s := s.push p x) (i := i) hm]
      have hne : ¬ i = p := fun e => ht (h.inj t u p (e ▸ hm) hp)
      show (if i = p then s.sp i ++ [x] else s.sp i).length = _
      rw [if_neg hne]

theorem at_some {s : St} (u : ByteArray) : (s.place u).m u = some ((s.place u).at u) := by
  cases hu : s.m u with
  | some i => rw [at_old hu, place_old hu]; exact hu
  | none => rw [at_new hu, place_new hu]; exact updM_same _ _ _

/-! ### the three pieces of memory -/
structure Chk (W0 w : World) (pb cb : Nat) (ao : Option Addr) (co r : Nat) (s : St) (cm : ByteArray → Option Nat) (ord : Nat → ByteArray) : Prop where
  bel : Below W0.heap.size W0 w
  pq : W0.heap.size ≤ pb
  cq : W0.heap.size ≤ cb
  ne : pb ≠ cb
  pm : MapAt w pb r s.m
  cmap : MapAt w cb r cm
  row : w.ownsRow 0 9 1 (.slice ao s.n co) s.n (rowOf (cNm ord) s.n)
  oblk : ∀ x, ao = some x → W0.heap.size ≤ x.block ∧ x.block ≠ pb ∧ x.block ≠ cb
  osz : ∀ i, i < s.n → (ord i).size ≤ maxLen
  ord : ∀ i, i < s.n → s.m (ord i) = some i
  cnt : ∀ t, (cm t).getD 0 = cntOf s t

section
variable {W0 w : World} {pb cb : Nat} {ao : Option Addr} {co r : Nat} {s : St} {cm : ByteArray → Option Nat} {ord : Nat → ByteArray}
theorem Chk.below {w' : World} (h : Chk W0 w pb cb ao co r s cm ord) (hb : Below w.heap.size w w') : Chk W0 w' pb cb ao co r s cm ord := by
  have k : Keep noO w w' := Keep.of_below hb
  exact ⟨h.bel.trans (hb.mono h.bel.size), h.pq, h.cq, h.ne, h.pm.keep k (fun e => e), h.cmap.keep k (fun e => e), k.ownsRow h.row (fun _ _ e => e), h.oblk, h.osz, h.ord, h.cnt⟩
theorem Chk.old (h : Chk W0 w pb cb ao co r s cm ord) {u : ByteArray} {i : Nat} (hu : s.m u = some i) : Chk W0 w pb cb ao co (r + 1) (s.place u) cm ord := by
  rw [place_old hu]
  exact { h with pm := h.pm.mono (Nat.le_succ _), cmap := h.cmap.mono (Nat.le_succ _) }
def ordPut (ord : Nat → ByteArray) (n : Nat) (u : ByteArray) : Nat → ByteArray := fun j => if j = n then u else ord j
theorem Chk.new (h : Chk W0 w pb cb ao co r s cm ord) (hg : Good s) {u : ByteArray} (hu : s.m u = none) (hsz : u.size ≤ maxLen) {w1 w2 : World} {g cap : Nat} {o : Obj} (k1 : Keep (fun k => k = pb) w w1) (hm1 : MapAt w1 pb (r + 1) (updM s.m u s.n))
    (hgrow : (w1.alloc o).grownBy w2 (Value.slice ao s.n co).ownBlock) (hown : w2.ownsRow 0 9 1 (.slice (some ⟨g, 0, none⟩) (s.n + 1) cap) (s.n + 1) (rowOf (cNm ord) s.n ++ [.string u]))
    (hat : (Value.slice ao s.n co).ownBlock = some g ∨ g = w1.heap.size + 1) : Chk W0 w2 pb cb (some ⟨g, 0, none⟩) cap (r + 1) (s.place u) cm (ordPut ord s.n u) := by
  have k2 : Keep (fun k => some k = (Value.slice ao s.n co).ownBlock) w1 w2 := ((Keep.refl _ w1).alloc o).trans (Keep.of_grown hgrow) (fun _ _ e => e)
  have hob : ∀ k, some k = (Value.slice ao s.n co).ownBlock → W0.heap.size ≤ k ∧ k ≠ pb ∧ k ≠ cb := fun k e => by
    obtain ⟨x, hx, rfl⟩ := ownBlock_slice e.symm
    exact h.oblk x hx
  have hs0 := h.bel.size
  have b1 : Below W0.heap.size W0 w1 := Keep.below h.bel k1 hs0 (fun k hk e => by have := h.pq; omega)
  have hpl := h.pm.lt
  have hcl := h.cmap.lt
  have hs1 := k1.size
  rw [place_new hu]
  refine ⟨Keep.below b1 k2 b1.size (fun k hk e => by have := (hob k e).1; omega), h.pq, h.cq, h.ne, hm1.keep k2 (fun e => (hob pb e).2.1 rfl), ((h.cmap.keep k1 (fun e => h.ne e.symm)).keep k2 (fun e => (hob cb e).2.2 rfl)).mono (Nat.le_succ _), ?_, ?_, ?_, ?_, ?_⟩
  · show w2.ownsRow 0 9 1 (.slice (some ⟨g, 0, none⟩) (s.n + 1) cap) (s.n + 1) (rowOf (cNm (ordPut ord s.n u)) (s.n + 1))
    have e : rowOf (cNm (ordPut ord s.n u)) (s.n + 1) = rowOf (cNm ord) s.n ++ [.string u] := by
      unfold rowOf
      rw [List.range_succ, List.map_append]
      congr 1
      · refine List.map_congr_left fun j hj => ?_
        have hj' := List.mem_range.1 hj
        unfold cNm ordPut
        rw [if_neg (by omega)]
      · simp [cNm, ordPut]
    rw [e]; exact hown
  · intro x hx
    cases hx
    rcases hat with e | e
    · exact hob g e.symm
    · have h1 := b1.size
      exact ⟨by show W0.heap.size ≤ g; omega, by show g ≠ pb; omega, by show g ≠ cb; omega⟩
  · intro i hi
    have hi' : i < s.n + 1 := hi
    unfold ordPut
    by_cases e : i = s.n
    · rw [if_pos e]; exact hsz
    · rw [if_neg e]; exact h.osz i (by omega)
  · intro i hi
    have hi' : i < s.n + 1 := hi
    show updM s.m u s.n (ordPut ord s.n u i) = some i
    unfold ordPut
    by_cases e : i = s.n
    · rw [if_pos e, updM_same, e]
    · rw [if_neg e, updM_other]
      · exact h.ord i (by omega)
      · intro e'
        have := h.ord i (by omega)
        rw [e', hu] at this
        cases this
  · intro t
    rw [h.cnt t, ← cntOf_place hg u t, place_new hu]
theorem Chk.count (h : Chk W0 w pb cb ao co r s cm ord) (hg : Good s) {u : ByteArray} {p : Nat} (hp : s.m u = some p) (x : Nat × Nat) {w1 : World} (k1 : Keep (fun k => k = cb) w w1) (hm1 : MapAt w1 cb (r + 1) (updM cm u ((cm u).getD 0 + 1))) :
    Chk W0 w1 pb cb ao co (r + 1) (s.push p x) (updM cm u ((cm u).getD 0 + 1)) ord := by
  refine ⟨Keep.below h.bel k1 h.bel.size (fun k hk e => by have := h.cq; omega), h.pq, h.cq, h.ne, (h.pm.keep k1 (fun e => h.ne e)).mono (Nat.le_succ _), hm1, ?_, h.oblk, h.osz, h.ord, fun t => ?_⟩
  · exact k1.ownsRow h.row (fun k e => by obtain ⟨y, hy, rfl⟩ := ownBlock_slice e; exact (h.oblk y hy).2.2)
  · rw [cntOf_push hg hp]
    unfold updM
    by_cases e : t = u
    · rw [if_pos e, if_pos e, h.cnt u]; rfl
    · rw [if_neg e, if_neg e, h.cnt t]
end

/-- what the k-th run of a name is, in the end -/
theorem run_at {s F : St} (hg : Good s) {u : ByteArray} {x : Nat × Nat} (h : Pre (s.add u x) F) : F.m u = some ((s.place u).at u) ∧ (s.place u).at u < F.n ∧ cntOf s u < (F.sp ((s.place u).at u)).length ∧ (F.sp ((s.place u).at u))[cntOf s u]? = some x := by
  have h1 : (s.add u x).m u = some ((s.place u).at u) := at_some u
  have h2 : (s.place u).at u < (s.place u).n := at_lt hg.mlt u
  have h3 : cntOf s u = ((s.place u).sp ((s.place u).at u)).length := by rw [← cntOf_place hg u u, cntOf_some (at_some u)]
  have h4 : ((s.add u x).sp ((s.place u).at u))[cntOf s u]? = some x := by
    show (if (s.place u).at u = (s.place u).at u then (s.place u).sp ((s.place u).at u) ++ [x] else (s.place u).sp ((s.place u).at u))[cntOf s u]? = some x
    rw [if_pos rfl, h3]
    simp
  have h5 := h.sp _ _ _ h4
  exact ⟨h.m u _ h1, Nat.lt_of_lt_of_le h2 h.n, (List.getElem?_eq_some_iff.1 h5).1, h5⟩
end Go.Proofs.Qxb6000061a
