/-
  THE PLAIN FUNCTION OF scanEscape, and its laws: no Go text in it.
-/
import Derived.Test.Qxb6600349aBytes
namespace Go.Proofs.Qxb6600349a

/-- the bytes that follow a backslash alone -/
def simpleEsc (c : Int) : Bool := c == 34 || c == 92 || c == 47 || c == 98 || c == 102 || c == 110 || c == 114 || c == 116
def hexB (c : Int) : Bool := (decide (48 ≤ c) && decide (c ≤ 57)) || (decide (97 ≤ c) && decide (c ≤ 102)) || (decide (65 ≤ c) && decide (c ≤ 70))
def escAt (c : Int) (p : Nat) : Int := if simpleEsc c = true then (p : Int) + 1 else -1
/-- the four bytes behind a 'u' -/
def hex4 (f : Nat → Int) (p : Nat) : Bool := hexB (f (p + 1)) && hexB (f (p + 2)) && hexB (f (p + 3)) && hexB (f (p + 4))
def esc (f : Nat → Int) (n p : Nat) : Int :=
  if p = n then -1
  else if f p = 117 then
    if n - p < 5 then -1
    else if hex4 f p = true then (p : Int) + 5 else -1
  else escAt (f p) p

theorem escAt_yes {c : Int} {p : Nat} (h : simpleEsc c = true) : (p : Int) + 1 = escAt c p := by unfold escAt; rw [if_pos h]
theorem escAt_34 {c : Int} {p : Nat} (h : (c == 34) = true) : (p : Int) + 1 = escAt c p := escAt_yes (by simp [simpleEsc, h])
theorem escAt_92 {c : Int} {p : Nat} (h : (c == 92) = true) : (p : Int) + 1 = escAt c p := escAt_yes (by simp [simpleEsc, h])
theorem escAt_47 {c : Int} {p : Nat} (h : (c == 47) = true) : (p : Int) + 1 = escAt c p := escAt_yes (by simp [simpleEsc, h])
theorem escAt_98 {c : Int} {p : Nat} (h : (c == 98) = true) : (p : Int) + 1 = escAt c p := escAt_yes (by simp [simpleEsc, h])
theorem escAt_102 {c : Int} {p : Nat} (h : (c == 102) = true) : (p : Int) + 1 = escAt c p := escAt_yes (by simp [simpleEsc, h])
theorem escAt_110 {c : Int} {p : Nat} (h : (c == 110) = true) : (p : Int) + 1 = escAt c p := escAt_yes (by simp [simpleEsc, h])
theorem escAt_114 {c : Int} {p : Nat} (h : (c == 114) = true) : (p : Int) + 1 = escAt c p := escAt_yes (by simp [simpleEsc, h])
theorem escAt_116 {c : Int} {p : Nat} (h : (c == 116) = true) : (p : Int) + 1 = escAt c p := escAt_yes (by simp [simpleEsc, h])
theorem escAt_no {c : Int} {p : Nat} (h1 : (c == 34) = false) (h2 : (c == 92) = false) (h3 : (c == 47) = false) (h4 : (c == 98) = false) (h5 : (c == 102) = false) (h6 : (c == 110) = false) (h7 : (c == 114) = false) (h8 : (c == 116) = false) :
    -1 = escAt c p := by unfold escAt; rw [if_neg (by simp [simpleEsc, h1, h2, h3, h4, h5, h6, h7, h8])]

theorem esc_end_eq {f : Nat → Int} {n : Nat} : esc f n n = -1 := by unfold esc; rw [if_pos rfl]
theorem esc_plain {f : Nat → Int} {n p : Nat} (h : p < n) (hu : ¬ f p = 117) : esc f n p = escAt (f p) p := by unfold esc; rw [if_neg (by omega), if_neg hu]
theorem esc_short {f : Nat → Int} {n p : Nat} (h : p < n) (hu : f p = 117) (hs : n - p < 5) : esc f n p = -1 := by unfold esc; rw [if_neg (by omega), if_pos hu, if_pos hs]
theorem esc_hex {f : Nat → Int} {n p : Nat} (h : p < n) (hu : f p = 117) (hs : ¬ n - p < 5) : esc f n p = if hex4 f p = true then (p : Int) + 5 else -1 := by unfold esc; rw [if_neg (by omega), if_pos hu, if_neg hs]
theorem hex4_of {f : Nat → Int} {p : Nat} (h : ∀ j, j < 4 → hexB (f (p + 1 + j)) = true) : hex4 f p = true := by
  have h0 := h 0 (by omega); have h1 := h 1 (by omega); have h2 := h 2 (by omega); have h3 := h 3 (by omega)
  simp only [Nat.add_assoc, Nat.reduceAdd] at h0 h1 h2 h3
  simp [hex4, h0, h1, h2, h3]
theorem hex4_not {f : Nat → Int} {p : Nat} (j : Nat) (hj : j < 4) (h : hexB (f (p + 1 + j)) = false) : hex4 f p = false := by
  match j, hj with
  | 0, _ => simp only [Nat.add_assoc, Nat.reduceAdd] at h; simp [hex4, h]
  | 1, _ => simp only [Nat.add_assoc, Nat.reduceAdd] at h; simp [hex4, h]
  | 2, _ => simp only [Nat.add_assoc, Nat.reduceAdd] at h; simp [hex4, h]
  | 3, _ => simp only [Nat.add_assoc, Nat.reduceAdd] at h; simp [hex4, h]

theorem escAt_cases (c : Int) (p : Nat) : escAt c p = -1 ∨ escAt c p = (p : Int) + 1 := by
  unfold escAt; by_cases h : simpleEsc c = true
  · rw [if_pos h]; exact .inr rfl
  · rw [if_neg h]; exact .inl rfl

/-- the answer: a refusal, or a place behind p and not behind the end -/
theorem esc_range (f : Nat → Int) (n p : Nat) (hp : p ≤ n) : esc f n p = -1 ∨ ((p : Int) < esc f n p ∧ esc f n p ≤ n) := by
  unfold esc
  by_cases h0 : p = n
  · rw [if_pos h0]; exact .inl rfl
  · rw [if_neg h0]
    by_cases hu : f p = 117
    · rw [if_pos hu]
      by_cases hs : n - p < 5
      · rw [if_pos hs]; exact .inl rfl
      · rw [if_neg hs]
        by_cases hx : hex4 f p = true
        · rw [if_pos hx]; right; omega
        · rw [if_neg hx]; exact .inl rfl
    · rw [if_neg hu]
      rcases escAt_cases (f p) p with h | h
      · exact .inl h
      · rw [h]; right; omega

theorem hex4_congr {f g : Nat → Int} {p q : Nat} (h : ∀ j, 1 ≤ j → j ≤ 4 → f (p + j) = g (q + j)) : hex4 f p = hex4 g q := by
  unfold hex4
  rw [h 1 (by omega) (by omega), h 2 (by omega) (by omega), h 3 (by omega) (by omega), h 4 (by omega) (by omega)]

/-- LAW 1: bytes ahead of the line move the answer -/
theorem esc_shift (g f : Nat → Int) (m n p : Nat) : esc (jn g m f) (m + n) (m + p) = if esc f n p = -1 then -1 else esc f n p + m := by
  have hf : ∀ j, jn g m f (m + j) = f j := jn_hi g f m
  have hx : hex4 (jn g m f) (m + p) = hex4 f p := hex4_congr fun j _ _ => by rw [Nat.add_assoc]; exact hf _
  unfold esc
  rw [hf, hx]
  by_cases h0 : p = n
  · rw [if_pos (show m + p = m + n by omega), if_pos h0, if_pos rfl]
  · rw [if_neg (show ¬ m + p = m + n by omega), if_neg h0]
    by_cases hu : f p = 117
    · rw [if_pos hu, if_pos hu]
      by_cases hs : n - p < 5
      · rw [if_pos (show m + n - (m + p) < 5 by omega), if_pos hs, if_pos rfl]
      · rw [if_neg (show ¬ m + n - (m + p) < 5 by omega), if_neg hs]
        by_cases hh : hex4 f p = true
        · rw [if_pos hh, if_pos hh, if_neg (by omega)]; omega
        · rw [if_neg hh, if_neg hh, if_pos rfl]
    · rw [if_neg hu, if_neg hu]
      unfold escAt
      by_cases hh : simpleEsc (f p) = true
      · rw [if_pos hh, if_pos hh, if_neg (by omega)]; omega
      · rw [if_neg hh, if_neg hh, if_pos rfl]

/-- LAW 2a: an accepted escape keeps its answer, whatever follows its end -/
theorem esc_keep (f t : Nat → Int) (n k p q : Nat) (hp : p ≤ n) (hq : esc f n p = q) : esc (jn f q t) (q + k) p = q := by
  have hr := esc_range f n p hp
  have hlo : ∀ j, j < q → jn f q t j = f j := fun j hj => jn_lo hj
  have hpq : p < q := by omega
  have h0 : ¬ p = n := by intro e; subst e; rw [esc_end_eq] at hq; omega
  have hpn : p < n := by omega
  by_cases hu : f p = 117
  · by_cases hs : n - p < 5
    · rw [esc_short hpn hu hs] at hq; omega
    · rw [esc_hex hpn hu hs] at hq
      by_cases hh : hex4 f p = true
      · rw [if_pos hh] at hq
        have hx : hex4 (jn f q t) p = true := by
          rw [← hh]; exact hex4_congr fun j h1 h2 => hlo _ (by omega)
        rw [esc_hex (by omega) (by rw [hlo p hpq]; exact hu) (by omega), if_pos hx]
        exact hq
      · rw [if_neg hh] at hq; omega
  · rw [esc_plain hpn hu] at hq
    rw [esc_plain (by omega) (by rw [hlo p hpq]; exact hu), hlo p hpq]
    exact hq

/-- LAW 2b: a refusal made with five bytes in view stays one -/
theorem esc_stay (f t : Nat → Int) (n k p : Nat) (hp : p + 5 ≤ n) (hq : esc f n p = -1) : esc (jn f n t) (n + k) p = -1 := by
  have hlo : ∀ j, j < n → jn f n t j = f j := fun j hj => jn_lo hj
  by_cases hu : f p = 117
  · rw [esc_hex (by omega) hu (by omega)] at hq
    have hx : hex4 (jn f n t) p = hex4 f p := hex4_congr fun j h1 h2 => hlo _ (by omega)
    rw [esc_hex (by omega) (by rw [hlo p (by omega)]; exact hu) (by omega), hx]
    exact hq
  · rw [esc_plain (by omega) hu] at hq
    rw [esc_plain (by omega) (by rw [hlo p (by omega)]; exact hu), hlo p (by omega)]
    exact hq
end Go.Proofs.Qxb6600349a
