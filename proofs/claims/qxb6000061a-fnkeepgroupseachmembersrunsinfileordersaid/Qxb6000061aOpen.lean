/-
  WHAT IS READ OFF THE ARGUMENTS THAT COME IN, AS ROWS.
-/
import Derived.Test.Qxb6000061aMem
import Derived.OpenShut
namespace Go.Proofs.Qxb6000061a
open Go.RowKit

def IsRow (k : IntKind) (w : World) (a : Option Addr) (len cap : Nat) (zs : List Int) : Prop :=
  (a = none ∧ len = 0 ∧ cap = 0 ∧ zs = []) ∨
  ∃ x, a = some x ∧ len ≤ cap ∧ cap ≤ maxLen ∧ zs.length = cap ∧ (∀ i, i < zs.length → w.cell? (x.add i) = some (.int k (zs.getD i 0))) ∧ ∀ n ∈ zs, (Lit.int k n).wf = true
def IsStrs (w : World) (a : Option Addr) (len cap : Nat) (ss : List ByteArray) : Prop :=
  (a = none ∧ len = 0 ∧ cap = 0 ∧ ss = []) ∨
  ∃ x, a = some x ∧ len ≤ cap ∧ cap ≤ maxLen ∧ ss.length = cap ∧ (∀ i, i < ss.length → w.cell? (x.add i) = some (.string (ss.getD i ByteArray.empty))) ∧ ∀ s ∈ ss, s.size ≤ maxLen

theorem Rd.of_cells {w : World} {x : Addr} {len cap : Nat} {f : Nat → Value} (hl : len ≤ cap) (hm : cap ≤ maxLen) (hc : ∀ i, i < len → w.cell? (x.add i) = some (f i)) : Rd w noO (some x) len cap 1 f := by
  refine ⟨hl, hm, (by intro e; cases e), ?_⟩
  by_cases h0 : len = 0
  · exact .inl h0
  · right
    obtain ⟨b, off, spot⟩ := x
    have hc0 := hc 0 (by omega)
    have hspot : spot = none := by simpa [Addr.add] using World.cell?_spot hc0
    subst hspot
    refine ⟨b, off, rfl, ?_, (fun e => e), fun i hi => ?_⟩
    · exact cell_lt (by simpa [Addr.add] using hc0)
    · have := hc i (by omega)
      rw [show (⟨b, off, none⟩ : Addr).add i = ⟨b, off + i, none⟩ from by by_cases h : i = 0 <;> simp [Addr.add, h]] at this
      exact this
theorem IsStrs.rd {w : World} {a : Option Addr} {len cap : Nat} {ss : List ByteArray} (h : IsStrs w a len cap ss) : Rd w noO a len cap 1 (fun i => .string (ss.getD i ByteArray.empty)) ∧ ∀ i, i < len → (ss.getD i ByteArray.empty).size ≤ maxLen := by
  rcases h with ⟨rfl, rfl, rfl, rfl⟩ | ⟨x, rfl, hl, hm, hz, hc, hw⟩
  · exact ⟨Rd.empty _ _ _ _, fun i hi => absurd hi (Nat.not_lt_zero _)⟩
  · refine ⟨Rd.of_cells hl hm (fun i hi => hc i (by omega)), fun i hi => hw _ ?_⟩
    rw [List.getD_eq_getElem?_getD, List.getElem?_eq_getElem (by omega), Option.getD_some]
    exact List.getElem_mem _
theorem IsRow.rd {k : IntKind} {w : World} {a : Option Addr} {len cap : Nat} {zs : List Int} (h : IsRow k w a len cap zs) : Rd w noO a len cap 1 (fun i => .int k (zs.getD i 0)) := by
  rcases h with ⟨rfl, rfl, rfl, rfl⟩ | ⟨x, rfl, hl, hm, hz, hc, hw⟩
  · exact Rd.empty _ _ _ _
  · exact Rd.of_cells hl hm (fun i hi => hc i (by omega))
theorem IsRow.wf {k : IntKind} {w : World} {a : Option Addr} {len cap : Nat} {zs : List Int} (h : IsRow k w a len cap zs) {i : Nat} (hi : i < len) : (Lit.int k (zs.getD i 0)).wf = true := by
  rcases h with ⟨rfl, rfl, rfl, rfl⟩ | ⟨x, rfl, hl, hm, hz, hc, hw⟩
  · exact absurd hi (Nat.not_lt_zero _)
  · refine hw _ ?_
    rw [List.getD_eq_getElem?_getD, List.getElem?_eq_getElem (by omega), Option.getD_some]
    exact List.getElem_mem _
/-- lengths, as plain numbers -/
theorem IsRow.lens {w : World} {a : Option Addr} {len cap : Nat} {zs : List Int} (h : IsRow .u16 w a len cap zs) : Rd w noO a len cap 1 (fun i => .int .u16 (((zs.getD i 0).toNat : Nat) : Int)) ∧ ∀ i, i < len → (zs.getD i 0).toNat ≤ 65535 := by
  refine ⟨h.rd.congr fun i hi => ?_, fun i hi => ?_⟩
  · have hb := Go.bounds_u16 (h.wf (i := i) (by omega))
    show Value.int .u16 (zs.getD i 0) = .int .u16 _
    rw [Int.toNat_of_nonneg hb.1]
  · have hb := Go.bounds_u16 (h.wf (i := i) hi)
    omega
end Go.Proofs.Qxb6000061a
