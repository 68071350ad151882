/-
  A SLICE OF BYTES, AS THE WALKS OF THIS SEAT SPEAK OF IT: 'Bs w a n cap f': the slice value '.slice a n cap' holds, in the world w, the bytes f 0 .. f (n - 1).
-/
import Derived.WalkKit
import Derived.OpenShut
namespace Go.Proofs.Qxb6600349a
open Go.RowKit

structure Bs (w : World) (a : Option Addr) (n cap : Nat) (f : Nat → Int) : Prop where
  le : n ≤ cap
  room : cap ≤ maxLen
  rng : ∀ i, i < n → 0 ≤ f i ∧ f i ≤ 255
  cells : n = 0 ∨ ∃ b off, a = some ⟨b, off, none⟩ ∧ b < w.heap.size ∧ ∀ i, i < n → w.cell? ⟨b, off + i, none⟩ = some (.int .u8 (f i))

theorem cell_lt {w : World} {b off : Nat} {v : Value} (h : w.cell? ⟨b, off, none⟩ = some v) : b < w.heap.size := by
  by_cases hb : b < w.heap.size
  · exact hb
  · have hn : w.heap[b]? = none := by simp; omega
    simp [World.cell?, hn] at h

/-- out of the reading of an argument -/
theorem Bs.of_row {w : World} {a : Option Addr} {len cap : Nat} {zs : List Int}
    (h : (a = none ∧ len = 0 ∧ cap = 0 ∧ zs = []) ∨
      ∃ x, a = some x ∧ len ≤ cap ∧ cap ≤ maxLen ∧ zs.length = cap ∧ (∀ i, i < zs.length → w.cell? (x.add i) = some (.int .u8 (zs.getD i 0))) ∧ ∀ n ∈ zs, (Lit.int .u8 n).wf = true) :
    Bs w a len cap (fun i => zs.getD i 0) := by
  rcases h with ⟨rfl, rfl, rfl, rfl⟩ | ⟨x, rfl, hl, hm, hz, hc, hw⟩
  · exact ⟨Nat.le_refl _, Nat.zero_le _, fun i hi => absurd hi (Nat.not_lt_zero _), .inl rfl⟩
  · refine ⟨hl, hm, fun i hi => ?_, ?_⟩
    · have hm : zs.getD i 0 ∈ zs := by
        rw [List.getD_eq_getElem?_getD, List.getElem?_eq_getElem (by omega), Option.getD_some]
        exact List.getElem_mem _
      exact bounds_u8 (hw _ hm)
    · by_cases h0 : len = 0
      · exact .inl h0
      · right
        obtain ⟨b, off, spot⟩ := x
        have hc0 := hc 0 (by omega)
        have hspot : spot = none := by simpa [Addr.add] using World.cell?_spot hc0
        subst hspot
        refine ⟨b, off, rfl, ?_, fun i hi => ?_⟩
        · exact cell_lt (by simpa [Addr.add] using hc0)
        · have := hc i (by omega)
          rw [show (⟨b, off, none⟩ : Addr).add i = ⟨b, off + i, none⟩ from by by_cases h : i = 0 <;> simp [Addr.add, h]] at this
          exact this

theorem Bs.later {w w' : World} {a : Option Addr} {n cap : Nat} {f : Nat → Int} (h : Bs w a n cap f) (hb : Below w.heap.size w w') : Bs w' a n cap f := by
  refine ⟨h.le, h.room, h.rng, ?_⟩
  rcases h.cells with h0 | ⟨b, off, rfl, hlt, hc⟩
  · exact .inl h0
  · exact .inr ⟨b, off, rfl, Nat.lt_of_lt_of_le hlt hb.size, fun i hi => (hb.cell (p := ⟨b, off + i, none⟩) hlt).trans (hc i hi)⟩

/-- its first m bytes -/
theorem Bs.take {w : World} {a : Option Addr} {n cap : Nat} {f : Nat → Int} (h : Bs w a n cap f) {m : Nat} (hm : m ≤ n) : Bs w a m cap f := by
  refine ⟨Nat.le_trans hm h.le, h.room, fun i hi => h.rng i (by omega), ?_⟩
  rcases h.cells with h0 | ⟨b, off, rfl, hlt, hc⟩
  · exact .inl (by omega)
  · exact .inr ⟨b, off, rfl, hlt, fun i hi => hc i (by omega)⟩

/-- other names for the same bytes -/
theorem Bs.congr {w : World} {a : Option Addr} {n cap : Nat} {f g : Nat → Int} (h : Bs w a n cap f) (e : ∀ i, i < n → f i = g i) : Bs w a n cap g := by
  refine ⟨h.le, h.room, fun i hi => e i hi ▸ h.rng i hi, ?_⟩
  rcases h.cells with h0 | ⟨b, off, rfl, hlt, hc⟩
  · exact .inl h0
  · exact .inr ⟨b, off, rfl, hlt, fun i hi => e i hi ▸ hc i hi⟩

/-! ### a row of bytes that the call itself makes: the first k are f's, the rest zero -/
def part (f : Nat → Int) (k n : Nat) : List Value := (List.range n).map fun i => Value.int .u8 (if i < k then f i else 0)

theorem part_zero (f : Nat → Int) (n : Nat) : (madeCells #[Value.int .u8 0] n).toList = part f 0 n := by
  rw [toList_madeCells_one]
  unfold part
  apply List.ext_getElem?
  intro j
  by_cases hj : j < n <;> simp [hj]

theorem part_set (f : Nat → Int) (k n : Nat) : (part f k n).set k (.int .u8 (f k)) = part f (k + 1) n := by
  unfold part
  apply List.ext_getElem?
  intro j
  rw [List.getElem?_set]
  by_cases hj : j < n
  · by_cases hk : k = j
    · subst hk
      simp [hj]
    · have : (j < k + 1) = (j < k) := by apply propext; omega
      simp [hj, hk, this]
  · simp [hj]; omega

theorem part_at {f : Nat → Int} {k n j : Nat} (hj : j < n) (hk : j < k) : (part f k n)[j]? = some (.int .u8 (f j)) := by
  unfold part; simp [hj, hk]
theorem part_some {f : Nat → Int} {k n j : Nat} (hj : j < n) : ∃ v, (part f k n)[j]? = some (.int .u8 v) := by
  unfold part; simp [hj]

theorem part_congr {f g : Nat → Int} {k n : Nat} (h : ∀ i, i < k → f i = g i) : part f k n = part g k n := by
  unfold part
  apply List.map_congr_left
  intro i _
  by_cases hi : i < k
  · rw [if_pos hi, if_pos hi, h i hi]
  · rw [if_neg hi, if_neg hi]

/-- a whole row of the call's own is such a slice -/
theorem Bs.of_own {w : World} {base g n : Nat} {f : Nat → Int} (h : w.ownsRow base 5 1 (.slice (some ⟨g, 0, none⟩) n n) n (part f n n)) (hm : n ≤ maxLen) (hr : ∀ i, i < n → 0 ≤ f i ∧ f i ≤ 255) :
    Bs w (some ⟨g, 0, none⟩) n n f := by
  refine ⟨Nat.le_refl _, hm, hr, .inr ⟨g, 0, rfl, (h.lt g rfl).2, fun i hi => ?_⟩⟩
  rw [Nat.zero_add, h.cellAt i (by omega), part_at hi hi]

/-- two rows, one behind the other -/
def jn (f : Nat → Int) (m : Nat) (g : Nat → Int) : Nat → Int := fun i => if i < m then f i else g (i - m)
theorem jn_lo {f g : Nat → Int} {m i : Nat} (h : i < m) : jn f m g i = f i := if_pos h
theorem jn_hi (f g : Nat → Int) (m j : Nat) : jn f m g (m + j) = g j := by unfold jn; rw [if_neg (by omega), Nat.add_sub_cancel_left]
theorem jn_rng {f g : Nat → Int} {m n : Nat} (hf : ∀ i, i < m → 0 ≤ f i ∧ f i ≤ 255) (hg : ∀ i, i < n → 0 ≤ g i ∧ g i ≤ 255) : ∀ i, i < m + n → 0 ≤ jn f m g i ∧ jn f m g i ≤ 255 := by
  intro i hi
  unfold jn
  by_cases h : i < m
  · rw [if_pos h]; exact hf i h
  · rw [if_neg h]; exact hg _ (by omega)
end Go.Proofs.Qxb6600349a
