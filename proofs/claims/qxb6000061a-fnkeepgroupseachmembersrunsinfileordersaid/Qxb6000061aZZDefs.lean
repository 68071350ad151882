/-
  ZZKeep (22): WHAT ITS WALK SPEAKS OF: a row of elements of several cells that is being filled.
-/
import Derived.Test.Qxb6000061aKeepDefs
namespace Go.Proofs.Qxb6000061a
open Go.RowKit

def ptN (c z : Nat → Value) (K : Nat) : Nat → Value := fun i => if i < K then c i else z i
theorem ptN_at (c z : Nat → Value) {K i : Nat} (h : K ≤ i) : ptN c z K i = z i := if_neg (by omega)
theorem ptN_step (c z : Nat → Value) (K M : Nat) : (rowOf (ptN c z K) M).set K (c K) = rowOf (ptN c z (K + 1)) M := by
  rw [rowOf_set]
  refine rowOf_congr fun i _ => ?_
  unfold updV ptN
  by_cases e : i = K
  · subst e; rw [if_pos rfl, if_pos (by omega)]
  · rw [if_neg e]
    by_cases h : i < K
    · rw [if_pos h, if_pos (by omega)]
    · rw [if_neg h, if_neg (by omega)]
theorem ptN_full (c z : Nat → Value) (M : Nat) : rowOf (ptN c z M) M = rowOf c M := rowOf_congr fun _ hi => if_pos hi

/-- the row at block g, of n elements of sz cells: c's, the first K cells -/
def FillN (w : World) (base g n sz : Nat) (e : TypeId) (c z : Nat → Value) (K : Nat) : Prop :=
  w.ownsRow base e sz (.slice (some ⟨g, 0, none⟩) n n) n (rowOf (ptN c z K) (n * sz))
theorem made_row (zs : Array Value) (M : Nat) (hz : 0 < zs.size) : (madeCells zs M).toList = rowOf (fun i => zs[i % zs.size]?.getD undef) M := by
  apply List.ext_getElem?
  intro j
  by_cases hj : j < M
  · have h1 : j % zs.size < zs.size := Nat.mod_lt _ hz
    simp [madeCells, rowOf, hj, h1]
  · simp [madeCells, rowOf, hj]

variable {w : World} {base g n sz : Nat} {e : TypeId} {c z : Nat → Value} {K : Nat}
theorem FillN.start (h : w.ownsRow base e sz (.slice (some ⟨g, 0, none⟩) n n) n (rowOf z (n * sz))) (c : Nat → Value) : FillN w base g n sz e c z 0 := by
  unfold FillN
  rw [rowOf_congr (g := z) (fun i _ => ptN_at c z (Nat.zero_le i))]
  exact h
theorem FillN.cell (h : FillN w base g n sz e c z K) {j : Nat} (hj : j < n * sz) (hk : K ≤ j) : w.cell? ⟨g, j, none⟩ = some (z j) := by
  rw [World.ownsRow.cellAt h j hj, rowOf_at hj, ptN_at c z hk]
theorem FillN.frozen (h : FillN w base g n sz e c z K) (j : Nat) : w.frozen? ⟨g, j, none⟩ = false := World.ownsRow.frozenAt h j
theorem FillN.put (h : FillN w base g n sz e c z K) {v : Value} (hv : c K = v) : FillN (w.setCell ⟨g, K, none⟩ v) base g n sz e c z (K + 1) := by
  have := (World.ownsRow.stored h K (c K)).1
  rw [ptN_step] at this
  subst hv
  exact this
theorem FillN.keep {O : Nat → Prop} {w' : World} (h : FillN w base g n sz e c z K) (hk : Keep O w w') (ho : ¬ O g) : FillN w' base g n sz e c z K :=
  hk.ownsRow h (fun k e => by simp [Value.ownBlock] at e; subst e; exact ho)
theorem FillN.lt (h : FillN w base g n sz e c z K) : g < w.heap.size := (World.ownsRow.lt h g rfl).2
theorem FillN.rd {O : Nat → Prop} (h : FillN w base g n sz e c z (n * sz)) (hm : n ≤ maxLen) (hO : ¬ O g) : Rd w O (some ⟨g, 0, none⟩) n n sz c := by
  unfold FillN at h
  rw [ptN_full] at h
  exact Rd.of_own h hm hO

def zRow : Nat → Value := fun i => if i % 3 = 0 then .int .i32 0 else if i % 3 = 1 then .int .u32 0 else .int .i64 0
def zRun : Nat → Value := fun i => if i % 4 = 0 then .string ⟨#[]⟩ else if i % 4 = 1 then .int .i64 0 else if i % 4 = 2 then .bool false else .int .i64 0
theorem zRow_made (n : Nat) : (madeCells #[.int .i32 0, .int .u32 0, .int .i64 0] (n * 3)).toList = rowOf zRow (n * 3) := by
  rw [made_row _ _ (by decide)]
  refine rowOf_congr fun i _ => ?_
  have h : i % 3 = 0 ∨ i % 3 = 1 ∨ i % 3 = 2 := by omega
  show (#[Value.int .i32 0, .int .u32 0, .int .i64 0] : Array Value)[i % 3]?.getD undef = zRow i
  unfold zRow
  rcases h with h | h | h <;> rw [h] <;> rfl
theorem zRun_made (n : Nat) : (madeCells #[.string ⟨#[]⟩, .int .i64 0, .bool false, .int .i64 0] (n * 4)).toList = rowOf zRun (n * 4) := by
  rw [made_row _ _ (by decide)]
  refine rowOf_congr fun i _ => ?_
  have h : i % 4 = 0 ∨ i % 4 = 1 ∨ i % 4 = 2 ∨ i % 4 = 3 := by omega
  show (#[Value.string ⟨#[]⟩, .int .i64 0, .bool false, .int .i64 0] : Array Value)[i % 4]?.getD undef = zRun i
  unfold zRun
  rcases h with h | h | h | h <;> rw [h] <;> rfl

/-! ### what the loops lay into each element's cells -/
theorem cRow_0 (mo : Nat → Int) (n3 G j : Nat) : cRow mo n3 G (j * 3) = .int .i32 (mon mo n3 (G + j)) := by unfold cRow; rw [if_pos (by omega), show j * 3 / 3 = j from by omega]
theorem cRow_1 (mo : Nat → Int) (n3 G j : Nat) : cRow mo n3 G (j * 3 + 1) = .int .u32 ((G + j : Nat) : Int) := by unfold cRow; rw [if_neg (by omega), if_pos (by omega), show (j * 3 + 1) / 3 = j from by omega]
theorem cRow_2 (mo : Nat → Int) (n3 G j : Nat) : cRow mo n3 G (j * 3 + 2) = .int .i64 (((G + j : Nat) : Int) * 3 + 1) := by unfold cRow; rw [if_neg (by omega), if_neg (by omega), show (j * 3 + 2) / 3 = j from by omega]
theorem put3 {v0 v1 v2 : Value} {k : Nat} (h : FillN w base g n 3 e c z (k * 3)) (h0 : c (k * 3) = v0) (h1 : c (k * 3 + 1) = v1) (h2 : c (k * 3 + 2) = v2) :
    FillN (((w.setCell ⟨g, k * 3, none⟩ v0).setCell ⟨g, k * 3 + 1, none⟩ v1).setCell ⟨g, k * 3 + 2, none⟩ v2) base g n 3 e c z ((k + 1) * 3) := by
  rw [show (k + 1) * 3 = k * 3 + 1 + 1 + 1 from by omega]
  exact ((h.put h0).put h1).put h2
theorem put4 {v0 v1 v2 v3 : Value} {k : Nat} (h : FillN w base g n 4 e c z (k * 4)) (h0 : c (k * 4) = v0) (h1 : c (k * 4 + 1) = v1) (h2 : c (k * 4 + 2) = v2) (h3 : c (k * 4 + 3) = v3) :
    FillN ((((w.setCell ⟨g, k * 4, none⟩ v0).setCell ⟨g, k * 4 + 1, none⟩ v1).setCell ⟨g, k * 4 + 2, none⟩ v2).setCell ⟨g, k * 4 + 3, none⟩ v3) base g n 4 e c z ((k + 1) * 4) := by
  rw [show (k + 1) * 4 = k * 4 + 1 + 1 + 1 + 1 from by omega]
  exact (((h.put h0).put h1).put h2).put h3
end Go.Proofs.Qxb6000061a
