/-
  THE CUTS' EQUATIONS FOR THE FIVE SLICE TYPES.
-/
import Derived.Test.Qxb6000061aSplitLaw
import Derived.ChangeKeysEq
namespace Go.Proofs.Qxb6000061a
open Go.RowKit

theorem size_of {t : TypeId} (h : (Try.prog.info? t).map (fun i => i.size) = some 1) (w : World) : (sizeOf t).run Try.prog w = .ok 1 w := by
  cases hi : Try.prog.info? t with
  | none => rw [hi] at h; cases h
  | some i =>
    rw [hi] at h
    have h1 : i.size = 1 := by simpa using h
    simp [sizeOf, run_typeInfo w hi, h1]
theorem und37 : Try.prog.underlying 37 = some (.slice (Try.prog.elem 37)) := by kernel_rfl
theorem und43 : Try.prog.underlying 43 = some (.slice (Try.prog.elem 43)) := by kernel_rfl
theorem und23 : Try.prog.underlying 23 = some (.slice (Try.prog.elem 23)) := by kernel_rfl
theorem und35 : Try.prog.underlying 35 = some (.slice (Try.prog.elem 35)) := by kernel_rfl
theorem und22 : Try.prog.underlying 22 = some (.slice (Try.prog.elem 22)) := by kernel_rfl
theorem siz37 : ∀ w, (sizeOf (Try.prog.elem 37)).run Try.prog w = .ok 1 w := size_of (by kernel_rfl)
theorem siz43 : ∀ w, (sizeOf (Try.prog.elem 43)).run Try.prog w = .ok 1 w := size_of (by kernel_rfl)
theorem siz23 : ∀ w, (sizeOf (Try.prog.elem 23)).run Try.prog w = .ok 1 w := size_of (by kernel_rfl)
theorem siz35 : ∀ w, (sizeOf (Try.prog.elem 35)).run Try.prog w = .ok 1 w := size_of (by kernel_rfl)
theorem siz22 : ∀ w, (sizeOf (Try.prog.elem 22)).run Try.prog w = .ok 1 w := size_of (by kernel_rfl)
end Go.Proofs.Qxb6000061a
