/-
  LAWS OF 'num' (scanNumber's plain function): its range; cut behind its end; a sign put in ahead.
-/
import Derived.Test.Qxb6600349aNumLaw
namespace Go.Proofs.Qxb6600349a

/-- how an accepted number is read -/
theorem num_read {f : Nat → Int} {n p : Nat} : num f n p = -1 ∨
    ∃ a b : Nat, s2 f n (s1 f n p) = a ∧ s3 f n a = b ∧ num f n p = s4 f n b ∧ p < a ∧ a ≤ b ∧ b ≤ n := by
  have h1 := s1_range f n p
  have h2 := s2_range f n (s1 f n p)
  rcases h2 with h2 | ⟨h2, h2'⟩
  · left; rw [num_eq rfl, tail2_no h2]
  · obtain ⟨a, ha⟩ := Int.eq_ofNat_of_zero_le (show 0 ≤ s2 f n (s1 f n p) by omega)
    have hn : num f n p = tail3 f n (s3 f n a) := by rw [num_eq rfl, tail2_go ha]
    rcases s3_range f n a (by omega) with h3 | ⟨h3, h3'⟩
    · left; rw [hn, tail3_no h3]
    · obtain ⟨b, hb⟩ := Int.eq_ofNat_of_zero_le (show 0 ≤ s3 f n a by omega)
      right
      exact ⟨a, b, ha, hb, by rw [hn, tail3_go hb], by omega, by omega, by omega⟩

theorem num_range (f : Nat → Int) (n p : Nat) : num f n p = -1 ∨ ((p : Int) < num f n p ∧ num f n p ≤ n) := by
  rcases num_read (f := f) (n := n) (p := p) with h | ⟨a, b, _, _, h, h1, h2, h3⟩
  · exact .inl h
  · rw [h]
    rcases s4_range f n b h3 with h4 | ⟨h4, h4'⟩
    · exact .inl h4
    · right; omega

/-! ### the line cut at m -/
theorem isB_cut {f : Nat → Int} {n m p : Nat} {c : Int} (h : p < m) (hm : m ≤ n) : isB f m p c = isB f n p c := by rw [isB_at h, isB_at (by omega)]
theorem isB2_cut {f : Nat → Int} {n m p : Nat} {c d : Int} (h : p < m) (hm : m ≤ n) : isB2 f m p c d = isB2 f n p c d := by rw [isB2_at h, isB2_at (by omega)]

theorem dr_cut_aux (f : Nat → Int) (n m : Nat) (hm : m ≤ n) : ∀ k p, n - p = k → dr f n p ≤ m → dr f m p = dr f n p := by
  intro k
  induction k with
  | zero =>
    intro p hk hle
    rw [dr_no (show ¬ (p < n ∧ dig (f p) = true) by omega), dr_no (show ¬ (p < m ∧ dig (f p) = true) by omega)]
  | succ k ih =>
    intro p hk hle
    by_cases hd : dig (f p) = true
    · have e := dr_yes (show p < n by omega) hd
      have hge := dr_ge f n (p + 1)
      rw [e] at hle
      rw [e, dr_yes (show p < m by omega) hd]
      exact ih (p + 1) (by omega) hle
    · rw [dr_no (fun h => hd h.2), dr_no (fun h => hd h.2)]
theorem dr_cut {f : Nat → Int} {n m p : Nat} (hm : m ≤ n) (h : dr f n p ≤ m) : dr f m p = dr f n p := dr_cut_aux f n m hm _ p rfl h

theorem sd_cut {f : Nat → Int} {n m p : Nat} {q : Nat} (hm : m ≤ n) (h : sd f n p = q) (hq : q ≤ m) : sd f m p = q := by
  have e : dr f n p = q := by
    unfold sd at h
    by_cases h0 : dr f n p = p
    · rw [if_pos h0] at h; omega
    · rw [if_neg h0] at h; omega
  have e2 := dr_cut hm (show dr f n p ≤ m by omega)
  unfold sd at h ⊢
  rw [e2]; exact h

/-- LAW: cutting right behind an accepted number leaves the answer as it was -/
theorem num_cut (f : Nat → Int) (n p q : Nat) (h : num f n p = q) : num f q p = q := by
  have hr := num_range f n p
  have hqn : q ≤ n := by omega
  rcases num_read (f := f) (n := n) (p := p) with h0 | ⟨a, b, ha, hb, hn, hpa, hab, hbn⟩
  · omega
  · have h4 := s4_range f n b hbn
    have hbq : b ≤ q := by omega
    have e1 : s1 f q p = s1 f n p := by unfold s1; rw [isB_cut (by omega) hqn]
    have hs1 := s1_range f n p
    have hs2 := s2_range f n (s1 f n p)
    have hs1a : s1 f n p < a := by omega
    have e2 : s2 f q (s1 f n p) = a := by
      unfold s2 at ha ⊢
      rw [isB_cut (by omega) hqn]
      by_cases hz : isB f n (s1 f n p) 48 = true
      · rw [if_pos hz] at ha ⊢; exact ha
      · rw [if_neg hz] at ha ⊢; exact sd_cut hqn ha (by omega)
    have e3 : s3 f q a = b := by
      unfold s3 at hb ⊢
      by_cases haq : a < q
      · rw [isB_cut haq hqn]
        by_cases hz : isB f n a 46 = true
        · rw [if_pos hz] at hb ⊢; exact sd_cut hqn hb hbq
        · rw [if_neg hz] at hb ⊢; exact hb
      · rw [isB_end (by omega), if_neg (by simp)]; omega
    have e4 : s4 f q b = q := by
      rw [hn] at h
      unfold s4 at h ⊢
      by_cases hz : isB2 f n b 101 69 = true
      · rw [if_pos hz] at h
        have hsd := sd_range f n (s4a f n (b + 1))
        have hs4 := s4a_range f n (b + 1)
        rw [isB2_cut (by omega) hqn, if_pos hz]
        have e5 : s4a f q (b + 1) = s4a f n (b + 1) := by unfold s4a; rw [isB2_cut (by omega) hqn]
        rw [e5]; exact sd_cut hqn h (Nat.le_refl _)
      · rw [if_neg hz] at h
        rw [isB2_end (by omega), if_neg (by simp)]; exact h
    rw [num_eq e1, tail2_go e2, tail3_go e3, e4]

/-! ### g is f, moved by one from p on -/
theorem isB_move {f g : Nat → Int} {n p i : Nat} {c : Int} (h : ∀ i, p ≤ i → g (i + 1) = f i) (hi : p ≤ i) : isB g (n + 1) (i + 1) c = isB f n i c := by
  unfold isB
  rw [h i hi, show decide (i + 1 < n + 1) = decide (i < n) from by simp]
theorem isB2_move {f g : Nat → Int} {n p i : Nat} {c d : Int} (h : ∀ i, p ≤ i → g (i + 1) = f i) (hi : p ≤ i) : isB2 g (n + 1) (i + 1) c d = isB2 f n i c d := by
  unfold isB2
  rw [h i hi, show decide (i + 1 < n + 1) = decide (i < n) from by simp]
theorem drN_move {f g : Nat → Int} {n p : Nat} (h : ∀ i, p ≤ i → g (i + 1) = f i) : ∀ m i, p ≤ i → drN g (n + 1) m (i + 1) = drN f n m i + 1
  | 0, i, _ => rfl
  | m + 1, i, hi => by
    simp only [drN]
    rw [h i hi]
    by_cases hd : i < n ∧ dig (f i) = true
    · rw [if_pos hd, if_pos ⟨by omega, hd.2⟩]
      exact drN_move h m (i + 1) (by omega)
    · rw [if_neg hd, if_neg (fun e => hd ⟨by omega, e.2⟩)]
theorem dr_move {f g : Nat → Int} {n p i : Nat} (h : ∀ i, p ≤ i → g (i + 1) = f i) (hi : p ≤ i) : dr g (n + 1) (i + 1) = dr f n i + 1 := by
  unfold dr
  rw [show n + 1 - (i + 1) = n - i from by omega]
  exact drN_move h _ i hi
/-- an answer, moved by one -/
def up (r : Int) : Int := if r < 0 then -1 else r + 1
theorem sd_move {f g : Nat → Int} {n p i : Nat} (h : ∀ i, p ≤ i → g (i + 1) = f i) (hi : p ≤ i) : sd g (n + 1) (i + 1) = up (sd f n i) := by
  unfold sd up
  rw [dr_move h hi]
  by_cases he : dr f n i = i
  · rw [if_pos (by omega), if_pos he, if_pos (by omega)]
  · rw [if_neg (by omega), if_neg he, if_neg (by omega)]; omega
theorem up_nat (k : Nat) : up (k : Int) = ((k + 1 : Nat) : Int) := by unfold up; rw [if_neg (by omega)]; omega
theorem s4a_move {f g : Nat → Int} {n p i : Nat} (h : ∀ i, p ≤ i → g (i + 1) = f i) (hi : p ≤ i) : s4a g (n + 1) (i + 1) = s4a f n i + 1 := by
  unfold s4a
  rw [isB2_move h hi]
  by_cases hz : isB2 f n i 43 45 = true
  · rw [if_pos hz, if_pos hz]
  · rw [if_neg hz, if_neg hz]
theorem s4_move {f g : Nat → Int} {n p i : Nat} (h : ∀ i, p ≤ i → g (i + 1) = f i) (hi : p ≤ i) : s4 g (n + 1) (i + 1) = up (s4 f n i) := by
  unfold s4
  rw [isB2_move h hi]
  have hr := s4a_range f n (i + 1)
  by_cases hz : isB2 f n i 101 69 = true
  · rw [if_pos hz, if_pos hz, s4a_move h (by omega), sd_move h (by omega)]
  · rw [if_neg hz, if_neg hz, up_nat]
theorem s3_move {f g : Nat → Int} {n p i : Nat} (h : ∀ i, p ≤ i → g (i + 1) = f i) (hi : p ≤ i) : s3 g (n + 1) (i + 1) = up (s3 f n i) := by
  unfold s3
  rw [isB_move h hi]
  by_cases hz : isB f n i 46 = true
  · rw [if_pos hz, if_pos hz, sd_move h (by omega)]
  · rw [if_neg hz, if_neg hz, up_nat]
theorem s2_move {f g : Nat → Int} {n p i : Nat} (h : ∀ i, p ≤ i → g (i + 1) = f i) (hi : p ≤ i) : s2 g (n + 1) (i + 1) = up (s2 f n i) := by
  unfold s2
  rw [isB_move h hi]
  by_cases hz : isB f n i 48 = true
  · rw [if_pos hz, if_pos hz, show (i : Int) + 1 = ((i + 1 : Nat) : Int) from by omega, up_nat]; omega
  · rw [if_neg hz, if_neg hz, sd_move h (by omega)]

/-- LAW: a sign put in where there is none: one byte longer, or refused as before -/
theorem num_sign (f g : Nat → Int) (n p : Nat) (hp : p ≤ n) (hg : g p = 45) (h : ∀ i, p ≤ i → g (i + 1) = f i) (hno : ¬ (p < n ∧ f p = 45)) :
    num g (n + 1) p = up (num f n p) := by
  have e1 : s1 g (n + 1) p = p + 1 := by unfold s1; rw [if_pos (by rw [isB_at (by omega), hg]; rfl)]
  have e2 : s1 f n p = p := by
    unfold s1
    rw [if_neg]
    intro hb
    have hlt := isB_lt hb
    rw [isB_at hlt] at hb
    exact hno ⟨hlt, by simpa using hb⟩
  rw [num_eq e1, num_eq e2, s2_move h (Nat.le_refl p)]
  rcases s2_range f n p with h2 | ⟨h2, h2'⟩
  · rw [h2, tail2_no rfl, tail2_no (show up (-1) = -1 from rfl)]; rfl
  · obtain ⟨a, ha⟩ := Int.eq_ofNat_of_zero_le (show 0 ≤ s2 f n p by omega)
    rw [ha, tail2_go rfl, tail2_go (up_nat a), s3_move h (by omega)]
    rcases s3_range f n a (by omega) with h3 | ⟨h3, h3'⟩
    · rw [h3, tail3_no rfl, tail3_no (show up (-1) = -1 from rfl)]; rfl
    · obtain ⟨b, hb⟩ := Int.eq_ofNat_of_zero_le (show 0 ≤ s3 f n a by omega)
      rw [hb, tail3_go rfl, tail3_go (up_nat b), s4_move h (by omega)]
end Go.Proofs.Qxb6600349a
