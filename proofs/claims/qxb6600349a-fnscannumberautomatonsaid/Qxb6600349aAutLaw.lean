/-
  THE NINE-STATE AUTOMATON AS A PLAIN FUNCTION, and the law: run from p it answers what 'num' answers. No Go text in it.
-/
import Derived.Test.Qxb6600349aNumLaw
namespace Go.Proofs.Qxb6600349a

def nx (s : Nat) (c : Int) : Int :=
  match s with
  | 0 => if c = 45 then 1 else if c = 48 then 2 else if 48 ≤ c ∧ c ≤ 57 then 3 else -1
  | 1 => if c = 48 then 2 else if 48 ≤ c ∧ c ≤ 57 then 3 else -1
  | 2 => if c = 46 then 4 else if c = 101 ∨ c = 69 then 6 else -1
  | 3 => if 48 ≤ c ∧ c ≤ 57 then 3 else if c = 46 then 4 else if c = 101 ∨ c = 69 then 6 else -1
  | 4 => if 48 ≤ c ∧ c ≤ 57 then 5 else -1
  | 5 => if 48 ≤ c ∧ c ≤ 57 then 5 else if c = 101 ∨ c = 69 then 6 else -1
  | 6 => if c = 43 ∨ c = 45 then 7 else if 48 ≤ c ∧ c ≤ 57 then 8 else -1
  | 7 => if 48 ≤ c ∧ c ≤ 57 then 8 else -1
  | 8 => if 48 ≤ c ∧ c ≤ 57 then 8 else -1
  | _ => -1
def acc (s : Nat) : Bool := s == 2 || s == 3 || s == 5 || s == 8
def fin (s k : Nat) : Int := if acc s = true then (k : Int) else -1
def mdlN (f : Nat → Int) (n : Nat) : Nat → Nat → Nat → Int
  | 0, s, k => fin s k
  | m + 1, s, k => if k < n ∧ 0 ≤ nx s (f k) then mdlN f n m (nx s (f k)).toNat (k + 1) else fin s k
def mdl (f : Nat → Int) (n s k : Nat) : Int := mdlN f n (n - k) s k

theorem nx_range (s : Nat) (c : Int) : nx s c = -1 ∨ (0 ≤ nx s c ∧ nx s c ≤ 8) := by
  match s with
  | 0 => simp only [nx]; split; · omega
         split; · omega
         split <;> omega
  | 1 => simp only [nx]; split; · omega
         split <;> omega
  | 2 => simp only [nx]; split; · omega
         split <;> omega
  | 3 => simp only [nx]; split; · omega
         split; · omega
         split <;> omega
  | 4 => simp only [nx]; split <;> omega
  | 5 => simp only [nx]; split; · omega
         split <;> omega
  | 6 => simp only [nx]; split; · omega
         split <;> omega
  | 7 => simp only [nx]; split <;> omega
  | 8 => simp only [nx]; split <;> omega
  | _ + 9 => left; rfl

variable {f : Nat → Int} {n : Nat}
theorem m_step {s k t : Nat} (h : k < n) (ht : nx s (f k) = t) : mdl f n s k = mdl f n t (k + 1) := by
  unfold mdl
  rw [show n - k = (n - (k + 1)) + 1 from by omega]
  simp only [mdlN]
  rw [if_pos ⟨h, by omega⟩, ht, Int.toNat_natCast]
theorem m_stop {s k : Nat} (h : ¬ (k < n ∧ 0 ≤ nx s (f k))) : mdl f n s k = fin s k := by
  unfold mdl
  cases hm : n - k with
  | zero => rfl
  | succ m => simp only [mdlN]; rw [if_neg h]

theorem isB_iff {p : Nat} {c : Int} : isB f n p c = true ↔ p < n ∧ f p = c := by
  unfold isB; simp
theorem isB2_iff {p : Nat} {c d : Int} : isB2 f n p c d = true ↔ p < n ∧ (f p = c ∨ f p = d) := by
  unfold isB2; simp
theorem dig_iff {c : Int} : dig c = true ↔ 48 ≤ c ∧ c ≤ 57 := by unfold dig; simp

theorem sd_yes {k : Nat} (h : k < n) (hd : dig (f k) = true) : sd f n k = (dr f n k : Int) := by
  unfold sd
  have e := dr_yes h hd
  have g := dr_ge f n (k + 1)
  rw [if_neg (by omega)]
theorem sd_no {k : Nat} (h : ¬ (k < n ∧ dig (f k) = true)) : sd f n k = -1 := by
  unfold sd; rw [if_pos (dr_no h)]

theorem M8 : ∀ m k, n - k = m → mdl f n 8 k = (dr f n k : Int) := by
  intro m
  induction m with
  | zero => intro k hk; rw [m_stop (by omega), dr_no (by omega)]; rfl
  | succ m ih =>
    intro k hk
    by_cases hd : dig (f k) = true
    · rw [m_step (f := f) (n := n) (s := 8) (k := k) (t := 8) (by omega) (if_pos (dig_iff.1 hd)), dr_yes (by omega) hd]
      exact ih (k + 1) (by omega)
    · rw [dr_no (fun h => hd h.2), m_stop]
      · rfl
      · intro h
        have : nx 8 (f k) = -1 := if_neg (fun e => hd (dig_iff.2 e))
        omega
theorem M7 (k : Nat) : mdl f n 7 k = sd f n k := by
  by_cases h : k < n ∧ dig (f k) = true
  · rw [m_step (f := f) (n := n) (s := 7) (k := k) (t := 8) h.1 (if_pos (dig_iff.1 h.2)), M8 _ _ rfl, sd_yes h.1 h.2, dr_yes h.1 h.2]
  · rw [sd_no h, m_stop]
    · rfl
    · intro h'
      have : nx 7 (f k) = -1 := if_neg (fun e => h ⟨h'.1, dig_iff.2 e⟩)
      omega
theorem M6 (k : Nat) : mdl f n 6 k = sd f n (s4a f n k) := by
  unfold s4a
  by_cases hs : isB2 f n k 43 45 = true
  · obtain ⟨h1, h2⟩ := isB2_iff.1 hs
    rw [if_pos hs, m_step (f := f) (n := n) (s := 6) (k := k) (t := 7) h1 (if_pos h2), M7]
  · rw [if_neg hs]
    by_cases h : k < n ∧ dig (f k) = true
    · have hd := dig_iff.1 h.2
      have e : nx 6 (f k) = 8 := by simp only [nx]; rw [if_neg (by omega), if_pos hd]
      rw [m_step (f := f) (n := n) (s := 6) (k := k) (t := 8) h.1 e, M8 _ _ rfl, sd_yes h.1 h.2, dr_yes h.1 h.2]
    · rw [sd_no h, m_stop]
      · rfl
      · intro h'
        have : nx 6 (f k) = -1 := by simp only [nx]; rw [if_neg (fun e => hs (isB2_iff.2 ⟨h'.1, e⟩)), if_neg (fun e => h ⟨h'.1, dig_iff.2 e⟩)]
        omega
theorem M5_end {k : Nat} (h : ¬ (k < n ∧ dig (f k) = true)) : mdl f n 5 k = s4 f n k := by
  unfold s4
  by_cases hs : isB2 f n k 101 69 = true
  · obtain ⟨h1, h2⟩ := isB2_iff.1 hs
    have e : nx 5 (f k) = 6 := by simp only [nx]; rw [if_neg (by omega), if_pos h2]
    rw [if_pos hs, m_step (f := f) (n := n) (s := 5) (k := k) (t := 6) h1 e, M6]
  · rw [if_neg hs, m_stop]
    · rfl
    · intro h'
      have : nx 5 (f k) = -1 := by simp only [nx]; rw [if_neg (fun e => h ⟨h'.1, dig_iff.2 e⟩), if_neg (fun e => hs (isB2_iff.2 ⟨h'.1, e⟩))]
      omega
theorem M5 : ∀ m k, n - k = m → mdl f n 5 k = s4 f n (dr f n k) := by
  intro m
  induction m with
  | zero => intro k hk; rw [dr_no (by omega)]; exact M5_end (by omega)
  | succ m ih =>
    intro k hk
    by_cases hd : dig (f k) = true
    · rw [m_step (f := f) (n := n) (s := 5) (k := k) (t := 5) (by omega) (if_pos (dig_iff.1 hd)), dr_yes (by omega) hd]
      exact ih (k + 1) (by omega)
    · rw [dr_no (fun h => hd h.2)]; exact M5_end (fun h => hd h.2)
theorem M4 (k : Nat) : mdl f n 4 k = tail3 f n (sd f n k) := by
  by_cases h : k < n ∧ dig (f k) = true
  · rw [m_step (f := f) (n := n) (s := 4) (k := k) (t := 5) h.1 (if_pos (dig_iff.1 h.2)), M5 _ _ rfl, sd_yes h.1 h.2, tail3_go rfl, dr_yes h.1 h.2]
  · rw [sd_no h, tail3_no rfl, m_stop]
    · rfl
    · intro h'
      have : nx 4 (f k) = -1 := if_neg (fun e => h ⟨h'.1, dig_iff.2 e⟩)
      omega
/-- a dot, an exponent or the end, from an accepting state whose next steps are these -/
theorem Mtail {s : Nat} {k : Nat} (ha : fin s k = k) (hdot : f k = 46 → nx s (f k) = 4) (he : f k = 101 ∨ f k = 69 → nx s (f k) = 6) (hno : k < n → ¬ f k = 46 → ¬ (f k = 101 ∨ f k = 69) → nx s (f k) = -1) :
    mdl f n s k = tail3 f n (s3 f n k) := by
  unfold s3
  by_cases hd : isB f n k 46 = true
  · obtain ⟨h1, h2⟩ := isB_iff.1 hd
    rw [if_pos hd, m_step (f := f) (n := n) (s := s) (k := k) (t := 4) h1 (hdot h2), M4]
  · rw [if_neg hd, tail3_go rfl]
    unfold s4
    by_cases hs : isB2 f n k 101 69 = true
    · obtain ⟨h1, h2⟩ := isB2_iff.1 hs
      rw [if_pos hs, m_step (f := f) (n := n) (s := s) (k := k) (t := 6) h1 (he h2), M6]
    · rw [if_neg hs, m_stop, ha]
      intro h'
      have := hno h'.1 (fun e => hd (isB_iff.2 ⟨h'.1, e⟩)) (fun e => hs (isB2_iff.2 ⟨h'.1, e⟩))
      omega
theorem M2 (k : Nat) : mdl f n 2 k = tail3 f n (s3 f n k) := by
  refine Mtail rfl (fun h => ?_) (fun h => ?_) (fun _ h1 h2 => ?_) <;> simp only [nx]
  · rw [if_pos h]
  · rw [if_neg (by omega), if_pos h]
  · rw [if_neg h1, if_neg h2]
theorem M3_end {k : Nat} (h : ¬ (k < n ∧ dig (f k) = true)) : mdl f n 3 k = tail3 f n (s3 f n k) := by
  refine Mtail rfl (fun h => ?_) (fun h => ?_) (fun h0 h1 h2 => ?_) <;> simp only [nx]
  · rw [if_neg (by omega), if_pos h]
  · rw [if_neg (by omega), if_neg (by omega), if_pos h]
  · rw [if_neg (fun e => h ⟨h0, dig_iff.2 e⟩), if_neg h1, if_neg h2]
theorem M3 : ∀ m k, n - k = m → mdl f n 3 k = tail3 f n (s3 f n (dr f n k)) := by
  intro m
  induction m with
  | zero => intro k hk; rw [dr_no (by omega)]; exact M3_end (by omega)
  | succ m ih =>
    intro k hk
    by_cases hd : dig (f k) = true
    · rw [m_step (f := f) (n := n) (s := 3) (k := k) (t := 3) (by omega) (if_pos (dig_iff.1 hd)), dr_yes (by omega) hd]
      exact ih (k + 1) (by omega)
    · rw [dr_no (fun h => hd h.2)]; exact M3_end (fun h => hd h.2)
/-- the integer part, from a state whose next steps are these -/
theorem Mint {s : Nat} {k : Nat} (ha : fin s k = -1) (hz : f k = 48 → nx s (f k) = 2) (hd : 49 ≤ f k ∧ f k ≤ 57 → nx s (f k) = 3) (hno : k < n → ¬ (48 ≤ f k ∧ f k ≤ 57) → nx s (f k) = -1) :
    mdl f n s k = tail2 f n (s2 f n k) := by
  unfold s2
  by_cases h0 : isB f n k 48 = true
  · obtain ⟨h1, h2⟩ := isB_iff.1 h0
    rw [if_pos h0, m_step (f := f) (n := n) (s := s) (k := k) (t := 2) h1 (hz h2), M2, tail2_go (show (k : Int) + 1 = ((k + 1 : Nat) : Int) from by omega)]
  · rw [if_neg h0]
    by_cases h : k < n ∧ dig (f k) = true
    · have h1 := dig_iff.1 h.2
      have h2 : ¬ f k = 48 := fun e => h0 (isB_iff.2 ⟨h.1, e⟩)
      rw [m_step (f := f) (n := n) (s := s) (k := k) (t := 3) h.1 (hd (by omega)), M3 _ _ rfl, sd_yes h.1 h.2, tail2_go rfl, dr_yes h.1 h.2]
    · rw [sd_no h, tail2_no rfl, m_stop, ha]
      intro h'
      have := hno h'.1 (fun e => h ⟨h'.1, dig_iff.2 e⟩)
      omega
theorem M1 (k : Nat) : mdl f n 1 k = tail2 f n (s2 f n k) := by
  refine Mint rfl (fun h => ?_) (fun h => ?_) (fun _ h => ?_) <;> simp only [nx]
  · rw [if_pos h]
  · rw [if_neg (by omega), if_pos (by omega)]
  · rw [if_neg (by omega), if_neg h]

/-- LAW: the automaton, run greedily from k, answers what 'num' answers -/
theorem M0 (k : Nat) : mdl f n 0 k = num f n k := by
  by_cases hm : isB f n k 45 = true
  · obtain ⟨h1, h2⟩ := isB_iff.1 hm
    rw [num_eq (show s1 f n k = k + 1 from if_pos hm), m_step (f := f) (n := n) (s := 0) (k := k) (t := 1) h1 (if_pos h2), M1]
  · rw [num_eq (show s1 f n k = k from if_neg hm)]
    refine Mint rfl (fun h => ?_) (fun h => ?_) (fun h0 h => ?_) <;> simp only [nx]
    · rw [if_neg (by omega), if_pos h]
    · rw [if_neg (by omega), if_neg (by omega), if_pos (by omega)]
    · rw [if_neg (fun e => hm (isB_iff.2 ⟨h0, e⟩)), if_neg (by omega), if_neg h]
end Go.Proofs.Qxb6600349a
