/-
  A ROW OF BYTES THAT THE CALL ITSELF MAKES AND WRITES AT WHATEVER PLACES.
-/
import Derived.Test.Qxb6600349aBytes
namespace Go.Proofs.Qxb6600349a
open Go.RowKit

/-! ### a row of bytes that the call itself makes, written at whatever places -/
def rowOf (h : Nat → Int) (n : Nat) : List Value := (List.range n).map fun i => Value.int .u8 (h i)
def upd (h : Nat → Int) (j : Nat) (v : Int) : Nat → Int := fun i => if i = j then v else h i
theorem rowOf_zero (n : Nat) : (madeCells #[Value.int .u8 0] n).toList = rowOf (fun _ => 0) n := by
  rw [toList_madeCells_one]
  unfold rowOf
  apply List.ext_getElem?
  intro j
  by_cases hj : j < n <;> simp [hj]
theorem rowOf_set (h : Nat → Int) (n j : Nat) (v : Int) : (rowOf h n).set j (.int .u8 v) = rowOf (upd h j v) n := by
  unfold rowOf upd
  apply List.ext_getElem?
  intro i
  rw [List.getElem?_set]
  by_cases hi : i < n
  · by_cases hk : j = i
    · subst hk
      simp [hi]
    · have hk' : ¬ i = j := fun e => hk e.symm
      simp [hi, hk, hk']
  · simp [hi]; omega
theorem rowOf_at {h : Nat → Int} {n j : Nat} (hj : j < n) : (rowOf h n)[j]? = some (.int .u8 (h j)) := by
  unfold rowOf; simp [hj]
theorem upd_same (h : Nat → Int) (j : Nat) (v : Int) : upd h j v j = v := if_pos rfl
theorem upd_other {h : Nat → Int} {j i : Nat} {v : Int} (hne : ¬ i = j) : upd h j v i = h i := if_neg hne
theorem Bs.of_rowOf {w : World} {base g n : Nat} {h : Nat → Int} (ho : w.ownsRow base 5 1 (.slice (some ⟨g, 0, none⟩) n n) n (rowOf h n)) (hm : n ≤ maxLen) (hr : ∀ i, i < n → 0 ≤ h i ∧ h i ≤ 255) :
    Bs w (some ⟨g, 0, none⟩) n n h := by
  refine ⟨Nat.le_refl _, hm, hr, .inr ⟨g, 0, rfl, (ho.lt g rfl).2, fun i hi => ?_⟩⟩
  rw [Nat.zero_add, ho.cellAt i (by omega), rowOf_at hi]

end Go.Proofs.Qxb6600349a
