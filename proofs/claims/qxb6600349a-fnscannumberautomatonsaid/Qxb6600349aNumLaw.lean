/-
  THE PLAIN FUNCTION OF scanNumber, and its laws: no Go text in it.
-/
import Derived.Test.Qxb6600349aBytes
namespace Go.Proofs.Qxb6600349a

def dig (c : Int) : Bool := decide (48 ≤ c) && decide (c ≤ 57)
/-- there is a byte at p, and it is c (c or d) -/
def isB (f : Nat → Int) (n p : Nat) (c : Int) : Bool := decide (p < n) && (f p == c)
def isB2 (f : Nat → Int) (n p : Nat) (c d : Int) : Bool := decide (p < n) && ((f p == c) || (f p == d))
/-- the end of the run of digits from p on -/
def drN (f : Nat → Int) (n : Nat) : Nat → Nat → Nat
  | 0, p => p
  | m + 1, p => if p < n ∧ dig (f p) = true then drN f n m (p + 1) else p
def dr (f : Nat → Int) (n p : Nat) : Nat := drN f n (n - p) p
def sd (f : Nat → Int) (n p : Nat) : Int := if dr f n p = p then -1 else (dr f n p : Int)
def s1 (f : Nat → Int) (n p : Nat) : Nat := if isB f n p 45 = true then p + 1 else p
def s2 (f : Nat → Int) (n p : Nat) : Int := if isB f n p 48 = true then (p : Int) + 1 else sd f n p
def s3 (f : Nat → Int) (n p : Nat) : Int := if isB f n p 46 = true then sd f n (p + 1) else (p : Int)
def s4a (f : Nat → Int) (n p : Nat) : Nat := if isB2 f n p 43 45 = true then p + 1 else p
def s4 (f : Nat → Int) (n p : Nat) : Int := if isB2 f n p 101 69 = true then sd f n (s4a f n (p + 1)) else (p : Int)
def tail3 (f : Nat → Int) (n : Nat) (b : Int) : Int := if b < 0 then -1 else s4 f n b.toNat
def tail2 (f : Nat → Int) (n : Nat) (a : Int) : Int := if a < 0 then -1 else tail3 f n (s3 f n a.toNat)
def num (f : Nat → Int) (n p : Nat) : Int := tail2 f n (s2 f n (s1 f n p))

theorem isB_end {f : Nat → Int} {n p : Nat} {c : Int} (h : n ≤ p) : isB f n p c = false := by unfold isB; simp; omega
theorem isB_at {f : Nat → Int} {n p : Nat} {c : Int} (h : p < n) : isB f n p c = (f p == c) := by unfold isB; simp [h]
theorem isB2_end {f : Nat → Int} {n p : Nat} {c d : Int} (h : n ≤ p) : isB2 f n p c d = false := by unfold isB2; simp; omega
theorem isB2_at {f : Nat → Int} {n p : Nat} {c d : Int} (h : p < n) : isB2 f n p c d = ((f p == c) || (f p == d)) := by unfold isB2; simp [h]
theorem isB_lt {f : Nat → Int} {n p : Nat} {c : Int} (h : isB f n p c = true) : p < n := by
  by_cases hp : p < n
  · exact hp
  · rw [isB_end (by omega)] at h; cases h
theorem isB2_lt {f : Nat → Int} {n p : Nat} {c d : Int} (h : isB2 f n p c d = true) : p < n := by
  by_cases hp : p < n
  · exact hp
  · rw [isB2_end (by omega)] at h; cases h

theorem dr_yes {f : Nat → Int} {n p : Nat} (h : p < n) (hd : dig (f p) = true) : dr f n p = dr f n (p + 1) := by
  unfold dr
  rw [show n - p = (n - (p + 1)) + 1 from by omega]
  simp only [drN]
  rw [if_pos ⟨h, hd⟩]
theorem dr_no {f : Nat → Int} {n p : Nat} (h : ¬ (p < n ∧ dig (f p) = true)) : dr f n p = p := by
  unfold dr
  cases hm : n - p with
  | zero => rfl
  | succ m => simp only [drN]; rw [if_neg h]
theorem drN_range (f : Nat → Int) (n : Nat) : ∀ m p, p ≤ drN f n m p ∧ (drN f n m p = p ∨ drN f n m p ≤ n)
  | 0, p => ⟨Nat.le_refl _, .inl rfl⟩
  | m + 1, p => by
    simp only [drN]
    by_cases h : p < n ∧ dig (f p) = true
    · rw [if_pos h]
      obtain ⟨h1, h2⟩ := drN_range f n m (p + 1)
      exact ⟨by omega, .inr (by omega)⟩
    · rw [if_neg h]; exact ⟨Nat.le_refl _, .inl rfl⟩
theorem dr_ge (f : Nat → Int) (n p : Nat) : p ≤ dr f n p := (drN_range f n _ p).1
theorem dr_le (f : Nat → Int) (n p : Nat) : dr f n p = p ∨ dr f n p ≤ n := (drN_range f n _ p).2
theorem sd_range (f : Nat → Int) (n p : Nat) : sd f n p = -1 ∨ ((p : Int) < sd f n p ∧ sd f n p ≤ n) := by
  unfold sd
  have h1 := dr_ge f n p
  have h2 := dr_le f n p
  by_cases h : dr f n p = p
  · rw [if_pos h]; exact .inl rfl
  · rw [if_neg h]; right; omega
theorem s1_range (f : Nat → Int) (n p : Nat) : s1 f n p = p ∨ (s1 f n p = p + 1 ∧ p < n) := by
  unfold s1
  by_cases h : isB f n p 45 = true
  · rw [if_pos h]; exact .inr ⟨rfl, isB_lt h⟩
  · rw [if_neg h]; exact .inl rfl
theorem s2_range (f : Nat → Int) (n p : Nat) : s2 f n p = -1 ∨ ((p : Int) < s2 f n p ∧ s2 f n p ≤ n) := by
  unfold s2
  by_cases h : isB f n p 48 = true
  · have := isB_lt h
    rw [if_pos h]; right; omega
  · rw [if_neg h]; exact sd_range f n p
theorem s3_range (f : Nat → Int) (n p : Nat) (hp : p ≤ n) : s3 f n p = -1 ∨ ((p : Int) ≤ s3 f n p ∧ s3 f n p ≤ n) := by
  unfold s3
  by_cases h : isB f n p 46 = true
  · rw [if_pos h]
    have := sd_range f n (p + 1)
    omega
  · rw [if_neg h]; right; omega
theorem s4a_range (f : Nat → Int) (n p : Nat) : s4a f n p = p ∨ (s4a f n p = p + 1 ∧ p < n) := by
  unfold s4a
  by_cases h : isB2 f n p 43 45 = true
  · rw [if_pos h]; exact .inr ⟨rfl, isB2_lt h⟩
  · rw [if_neg h]; exact .inl rfl
theorem s4_range (f : Nat → Int) (n p : Nat) (hp : p ≤ n) : s4 f n p = -1 ∨ ((p : Int) ≤ s4 f n p ∧ s4 f n p ≤ n) := by
  unfold s4
  by_cases h : isB2 f n p 101 69 = true
  · rw [if_pos h]
    have h1 := sd_range f n (s4a f n (p + 1))
    have h2 := s4a_range f n (p + 1)
    omega
  · rw [if_neg h]; right; omega

theorem num_eq {f : Nat → Int} {n p p1 : Nat} (h1 : s1 f n p = p1) : num f n p = tail2 f n (s2 f n p1) := by unfold num; rw [h1]
theorem tail2_no {f : Nat → Int} {n : Nat} {a : Int} (h : a = -1) : tail2 f n a = -1 := by unfold tail2; rw [if_pos (by omega)]
theorem tail2_go {f : Nat → Int} {n : Nat} {a : Int} {k : Nat} (h : a = k) : tail2 f n a = tail3 f n (s3 f n k) := by unfold tail2; rw [if_neg (by omega), h, Int.toNat_natCast]
theorem tail3_no {f : Nat → Int} {n : Nat} {a : Int} (h : a = -1) : tail3 f n a = -1 := by unfold tail3; rw [if_pos (by omega)]
theorem tail3_go {f : Nat → Int} {n : Nat} {a : Int} {k : Nat} (h : a = k) : tail3 f n a = s4 f n k := by unfold tail3; rw [if_neg (by omega), h, Int.toNat_natCast]
end Go.Proofs.Qxb6600349a
