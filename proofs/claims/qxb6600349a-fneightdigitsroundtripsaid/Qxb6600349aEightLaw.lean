/-
  THE PLAIN LAW OF eightDigits: no Go text in it. What the walk of 'eightDigits' computes ('flag', 'val'), and what it comes to where every byte is a digit.
-/
import Derived.WalkKit
import Derived.Laws.BitsAllLaws
import Derived.Laws.Bits64b
namespace Go.Proofs.Qxb6600349a.Eight
open Go.RowKit

def dOf (x : Int) : Int := IntKind.u64.wrap (x - 3472328296227680304)
def flag (x : Int) : Bool :=
  bits .and .u64 (bits .or .u64 (IntKind.u64.wrap (x - 3472328296227680304)) (IntKind.u64.wrap (IntKind.u64.wrap (x - 3472328296227680304) + 8536140394893047414))) 9259542123273814144 != 0
def e1 (d : Int) : Int := bits .and .u64 (IntKind.u64.wrap (IntKind.u64.wrap (d * 10) + d / 256)) 71777214294589695
def e2 (d : Int) : Int := bits .and .u64 (IntKind.u64.wrap (IntKind.u64.wrap (d * 100) + d / 65536)) 281470681808895
def e3 (d : Int) : Int := bits .and .u64 (IntKind.u64.wrap (IntKind.u64.wrap (d * 10000) + d / 4294967296)) 4294967295
def val (x : Int) : Int := wrap64 (e3 (e2 (e1 (dOf x))))

theorem and_split (k a b m M : Nat) (ha : a < 2 ^ k) (hm : m < 2 ^ k) : (a + 2 ^ k * b) &&& (m + 2 ^ k * M) = (a &&& m) + 2 ^ k * (b &&& M) := by
  have hk : 0 < 2 ^ k := Nat.two_pow_pos k
  have h1 : ((a + 2 ^ k * b) &&& (m + 2 ^ k * M)) % 2 ^ k = a &&& m := by
    rw [Nat.and_mod_two_pow, Nat.add_mul_mod_self_left, Nat.add_mul_mod_self_left, Nat.mod_eq_of_lt ha, Nat.mod_eq_of_lt hm]
  have h2 : ((a + 2 ^ k * b) &&& (m + 2 ^ k * M)) / 2 ^ k = b &&& M := by
    rw [Nat.and_div_two_pow, Nat.add_mul_div_left _ _ hk, Nat.add_mul_div_left _ _ hk, Nat.div_eq_of_lt ha, Nat.div_eq_of_lt hm, Nat.zero_add, Nat.zero_add]
  have h3 := Nat.mod_add_div ((a + 2 ^ k * b) &&& (m + 2 ^ k * M)) (2 ^ k)
  rw [h1, h2] at h3
  exact h3.symm

theorem and8 (a b m M : Nat) (ha : a < 256) (hm : m < 256) : (a + 256 * b) &&& (m + 256 * M) = (a &&& m) + 256 * (b &&& M) := and_split 8 a b m M ha hm
theorem and16 (a b m M : Nat) (ha : a < 65536) (hm : m < 65536) : (a + 65536 * b) &&& (m + 65536 * M) = (a &&& m) + 65536 * (b &&& M) := and_split 16 a b m M ha hm

theorem top0 (a : Nat) (h : a < 128) : a &&& 128 = 0 := by
  have := nat_bit 7 a
  rw [show (2 : Nat) ^ 7 = 128 from rfl] at this
  rw [this, Nat.div_eq_of_lt h]
theorem all8 (a : Nat) (h : a < 256) : a &&& 255 = a := by rw [nat_mask8, Nat.mod_eq_of_lt h]
theorem all16 (a : Nat) (h : a < 65536) : a &&& 65535 = a := by
  have := Nat.and_two_pow_sub_one_eq_mod a 16
  rw [show (2 : Nat) ^ 16 - 1 = 65535 from rfl, show (2 : Nat) ^ 16 = 65536 from rfl, Nat.mod_eq_of_lt h] at this
  exact this

/-- eight bytes below 128: no top bit -/
theorem tops (a0 a1 a2 a3 a4 a5 a6 a7 : Nat) (h0 : a0 < 128) (h1 : a1 < 128) (h2 : a2 < 128) (h3 : a3 < 128) (h4 : a4 < 128) (h5 : a5 < 128) (h6 : a6 < 128) (h7 : a7 < 128) :
    (a0 + 256 * (a1 + 256 * (a2 + 256 * (a3 + 256 * (a4 + 256 * (a5 + 256 * (a6 + 256 * a7))))))) &&& 9259542123273814144 = 0 := by
  rw [show (9259542123273814144 : Nat) = 128 + 256 * (128 + 256 * (128 + 256 * (128 + 256 * (128 + 256 * (128 + 256 * (128 + 256 * 128)))))) from by decide +kernel]
  rw [and8 _ _ _ _ (by omega) (by omega), and8 _ _ _ _ (by omega) (by omega), and8 _ _ _ _ (by omega) (by omega), and8 _ _ _ _ (by omega) (by omega), and8 _ _ _ _ (by omega) (by omega), and8 _ _ _ _ (by omega) (by omega), and8 _ _ _ _ (by omega) (by omega)]
  rw [top0 _ h0, top0 _ h1, top0 _ h2, top0 _ h3, top0 _ h4, top0 _ h5, top0 _ h6, top0 _ h7]

theorem mask1 (a0 a1 a2 a3 a4 a5 a6 a7 : Nat) (h0 : a0 < 256) (h1 : a1 < 256) (h2 : a2 < 256) (h3 : a3 < 256) (h4 : a4 < 256) (h5 : a5 < 256) (h6 : a6 < 256) :
    (a0 + 256 * (a1 + 256 * (a2 + 256 * (a3 + 256 * (a4 + 256 * (a5 + 256 * (a6 + 256 * a7))))))) &&& 71777214294589695 = a0 + 65536 * (a2 + 65536 * (a4 + 65536 * a6)) := by
  rw [show (71777214294589695 : Nat) = 255 + 256 * (0 + 256 * (255 + 256 * (0 + 256 * (255 + 256 * (0 + 256 * (255 + 256 * 0)))))) from by decide +kernel]
  rw [and8 _ _ _ _ (by omega) (by omega), and8 _ _ _ _ (by omega) (by omega), and8 _ _ _ _ (by omega) (by omega), and8 _ _ _ _ (by omega) (by omega), and8 _ _ _ _ (by omega) (by omega), and8 _ _ _ _ (by omega) (by omega), and8 _ _ _ _ (by omega) (by omega)]
  rw [all8 _ h0, all8 _ h2, all8 _ h4, all8 _ h6]
  simp only [Nat.and_zero]
  omega

theorem mask2 (a0 a1 a2 a3 : Nat) (h0 : a0 < 65536) (h1 : a1 < 65536) (h2 : a2 < 65536) :
    (a0 + 65536 * (a1 + 65536 * (a2 + 65536 * a3))) &&& 281470681808895 = a0 + 4294967296 * a2 := by
  rw [show (281470681808895 : Nat) = 65535 + 65536 * (0 + 65536 * (65535 + 65536 * 0)) from by decide +kernel]
  rw [and16 _ _ _ _ (by omega) (by omega), and16 _ _ _ _ (by omega) (by omega), and16 _ _ _ _ (by omega) (by omega)]
  rw [all16 _ h0, all16 _ h2]
  simp only [Nat.and_zero]
  omega

theorem mask3 (a : Nat) : a &&& 4294967295 = a % 4294967296 := Nat.and_two_pow_sub_one_eq_mod a 32

/-- the eight digits in their bytes, the first at the bottom -/
def pack (a0 a1 a2 a3 a4 a5 a6 a7 : Nat) : Nat := a0 + 256 * (a1 + 256 * (a2 + 256 * (a3 + 256 * (a4 + 256 * (a5 + 256 * (a6 + 256 * a7))))))

theorem wrapN (n : Nat) (h : n < 18446744073709551616) : IntKind.u64.wrap (n : Int) = n := by rw [IntKind.wrap_u64]; omega

theorem flag_ok (a0 a1 a2 a3 a4 a5 a6 a7 : Nat) (h0 : a0 ≤ 9) (h1 : a1 ≤ 9) (h2 : a2 ≤ 9) (h3 : a3 ≤ 9) (h4 : a4 ≤ 9) (h5 : a5 ≤ 9) (h6 : a6 ≤ 9) (h7 : a7 ≤ 9) (x : Int)
    (hd : x - 3472328296227680304 = (pack a0 a1 a2 a3 a4 a5 a6 a7 : Nat)) : flag x = false := by
  unfold flag
  rw [hd]
  have hp : pack a0 a1 a2 a3 a4 a5 a6 a7 < 18446744073709551616 - 8536140394893047414 := by unfold pack; omega
  rw [wrapN _ (by omega)]
  rw [show ((pack a0 a1 a2 a3 a4 a5 a6 a7 : Nat) : Int) + 8536140394893047414 = ((pack a0 a1 a2 a3 a4 a5 a6 a7 + 8536140394893047414 : Nat) : Int) from by omega]
  rw [wrapN _ (by omega), u64_or_nat _ _ (by omega) (by omega)]
  rw [show (9259542123273814144 : Int) = ((9259542123273814144 : Nat) : Int) from rfl]
  have hlt : pack a0 a1 a2 a3 a4 a5 a6 a7 ||| (pack a0 a1 a2 a3 a4 a5 a6 a7 + 8536140394893047414) < 2 ^ 64 := Nat.or_lt_two_pow (by omega) (by omega)
  rw [u64_and_nat _ _ (by omega) (by omega)]
  rw [Nat.and_or_distrib_right]
  rw [show pack a0 a1 a2 a3 a4 a5 a6 a7 + 8536140394893047414 = pack (a0 + 118) (a1 + 118) (a2 + 118) (a3 + 118) (a4 + 118) (a5 + 118) (a6 + 118) (a7 + 118) from by unfold pack; omega]
  unfold pack
  rw [tops _ _ _ _ _ _ _ _ (by omega) (by omega) (by omega) (by omega) (by omega) (by omega) (by omega) (by omega), tops _ _ _ _ _ _ _ _ (by omega) (by omega) (by omega) (by omega) (by omega) (by omega) (by omega) (by omega)]
  rfl

theorem e1_ok (a0 a1 a2 a3 a4 a5 a6 a7 : Nat) (h0 : a0 ≤ 9) (h1 : a1 ≤ 9) (h2 : a2 ≤ 9) (h3 : a3 ≤ 9) (h4 : a4 ≤ 9) (h5 : a5 ≤ 9) (h6 : a6 ≤ 9) (h7 : a7 ≤ 9) :
    e1 (pack a0 a1 a2 a3 a4 a5 a6 a7 : Nat) = ((10 * a0 + a1 + 65536 * (10 * a2 + a3 + 65536 * (10 * a4 + a5 + 65536 * (10 * a6 + a7))) : Nat) : Int) := by
  unfold e1
  have hp : pack a0 a1 a2 a3 a4 a5 a6 a7 * 10 < 18446744073709551616 := by unfold pack; omega
  rw [show ((pack a0 a1 a2 a3 a4 a5 a6 a7 : Nat) : Int) * 10 = ((pack a0 a1 a2 a3 a4 a5 a6 a7 * 10 : Nat) : Int) from by omega, wrapN _ hp]
  have hq : pack a0 a1 a2 a3 a4 a5 a6 a7 / 256 = a1 + 256 * (a2 + 256 * (a3 + 256 * (a4 + 256 * (a5 + 256 * (a6 + 256 * a7))))) := by unfold pack; omega
  rw [show ((pack a0 a1 a2 a3 a4 a5 a6 a7 : Nat) : Int) / 256 = ((pack a0 a1 a2 a3 a4 a5 a6 a7 / 256 : Nat) : Int) from by omega, hq]
  rw [← Int.natCast_add]
  rw [show pack a0 a1 a2 a3 a4 a5 a6 a7 * 10 + (a1 + 256 * (a2 + 256 * (a3 + 256 * (a4 + 256 * (a5 + 256 * (a6 + 256 * a7)))))) = (10 * a0 + a1) + 256 * ((10 * a1 + a2) + 256 * ((10 * a2 + a3) + 256 * ((10 * a3 + a4) + 256 * ((10 * a4 + a5) + 256 * ((10 * a5 + a6) + 256 * ((10 * a6 + a7) + 256 * (10 * a7))))))) from by unfold pack; omega]
  rw [wrapN _ (by omega), show (71777214294589695 : Int) = ((71777214294589695 : Nat) : Int) from rfl, u64_and_nat _ _ (by omega) (by omega)]
  rw [mask1 _ _ _ _ _ _ _ _ (by omega) (by omega) (by omega) (by omega) (by omega) (by omega) (by omega)]

theorem e2_ok (b0 b1 b2 b3 : Nat) (h0 : b0 ≤ 99) (h1 : b1 ≤ 99) (h2 : b2 ≤ 99) (h3 : b3 ≤ 99) :
    e2 ((b0 + 65536 * (b1 + 65536 * (b2 + 65536 * b3)) : Nat) : Int) = ((100 * b0 + b1 + 4294967296 * (100 * b2 + b3) : Nat) : Int) := by
  unfold e2
  generalize hd : b0 + 65536 * (b1 + 65536 * (b2 + 65536 * b3)) = d
  rw [show (d : Int) * 100 = ((d * 100 : Nat) : Int) from by omega, wrapN _ (by omega)]
  rw [show (d : Int) / 65536 = ((d / 65536 : Nat) : Int) from by omega]
  rw [← Int.natCast_add]
  rw [show d * 100 + d / 65536 = (100 * b0 + b1) + 65536 * ((100 * b1 + b2) + 65536 * ((100 * b2 + b3) + 65536 * (100 * b3))) from by omega]
  rw [wrapN _ (by omega), show (281470681808895 : Int) = ((281470681808895 : Nat) : Int) from rfl, u64_and_nat _ _ (by omega) (by omega)]
  rw [mask2 _ _ _ _ (by omega) (by omega) (by omega)]

theorem e3_ok (c0 c1 : Nat) (h0 : c0 ≤ 9999) (h1 : c1 ≤ 9999) : e3 ((c0 + 4294967296 * c1 : Nat) : Int) = ((10000 * c0 + c1 : Nat) : Int) := by
  unfold e3
  generalize hd : c0 + 4294967296 * c1 = d
  rw [show (d : Int) * 10000 = ((d * 10000 : Nat) : Int) from by omega, wrapN _ (by omega)]
  rw [show (d : Int) / 4294967296 = ((d / 4294967296 : Nat) : Int) from by omega]
  rw [← Int.natCast_add]
  rw [show d * 10000 + d / 4294967296 = (10000 * c0 + c1) + 4294967296 * (10000 * c1) from by omega]
  rw [wrapN _ (by omega), show (4294967295 : Int) = ((4294967295 : Nat) : Int) from rfl, u64_and_nat _ _ (by omega) (by omega), mask3]
  rw [Nat.add_mul_mod_self_left, Nat.mod_eq_of_lt (by omega)]

theorem val_ok (a0 a1 a2 a3 a4 a5 a6 a7 : Nat) (h0 : a0 ≤ 9) (h1 : a1 ≤ 9) (h2 : a2 ≤ 9) (h3 : a3 ≤ 9) (h4 : a4 ≤ 9) (h5 : a5 ≤ 9) (h6 : a6 ≤ 9) (h7 : a7 ≤ 9) (x : Int)
    (hd : x - 3472328296227680304 = (pack a0 a1 a2 a3 a4 a5 a6 a7 : Nat)) :
    val x = ((10000000 * a0 + 1000000 * a1 + 100000 * a2 + 10000 * a3 + 1000 * a4 + 100 * a5 + 10 * a6 + a7 : Nat) : Int) := by
  unfold val dOf
  have hp : pack a0 a1 a2 a3 a4 a5 a6 a7 < 18446744073709551616 := by unfold pack; omega
  rw [hd, wrapN _ hp, e1_ok _ _ _ _ _ _ _ _ h0 h1 h2 h3 h4 h5 h6 h7, e2_ok _ _ _ _ (by omega) (by omega) (by omega) (by omega), e3_ok _ _ (by omega) (by omega)]
  rw [IntWalk.wrap64_in _ ⟨by omega, by omega⟩]
  omega

/-! ### the number that the law writes: after k rounds -/
def spell (n : Nat) : Nat → Nat
  | 0 => 0
  | k + 1 => spell n k + (48 + n / 10 ^ k % 10) * 2 ^ (8 * (7 - k))

theorem spell_eight (n : Nat) : spell n 8 = 3472328296227680304 + pack (n / 10000000 % 10) (n / 1000000 % 10) (n / 100000 % 10) (n / 10000 % 10) (n / 1000 % 10) (n / 100 % 10) (n / 10 % 10) (n % 10) := by
  simp only [spell, pack]
  simp only [Nat.reducePow, Nat.reduceSub, Nat.reduceMul, Nat.div_one]
  omega

theorem spell_flag (n : Nat) : flag (spell n 8 : Nat) = false := by
  refine flag_ok (n / 10000000 % 10) (n / 1000000 % 10) (n / 100000 % 10) (n / 10000 % 10) (n / 1000 % 10) (n / 100 % 10) (n / 10 % 10) (n % 10) (by omega) (by omega) (by omega) (by omega) (by omega) (by omega) (by omega) (by omega) _ ?_
  rw [spell_eight]; omega
theorem spell_val (n : Nat) (h : n ≤ 99999999) : val (spell n 8 : Nat) = n := by
  rw [val_ok (n / 10000000 % 10) (n / 1000000 % 10) (n / 100000 % 10) (n / 10000 % 10) (n / 1000 % 10) (n / 100 % 10) (n / 10 % 10) (n % 10) (by omega) (by omega) (by omega) (by omega) (by omega) (by omega) (by omega) (by omega) _ (by rw [spell_eight]; omega)]
  omega

theorem spell_lt (n : Nat) : ∀ k, k ≤ 8 → spell n k + 2 ^ (8 * (8 - k)) ≤ 18446744073709551616 ∧ 2 ^ (8 * (8 - k)) ∣ spell n k
  | 0, _ => ⟨by simp [spell], by simp [spell]⟩
  | k + 1, hk => by
    have hd : 48 + n / 10 ^ k % 10 < 256 := by omega
    obtain ⟨hl, hm⟩ := spell_lt n k (by omega)
    have e : 2 ^ (8 * (8 - k)) = 256 * 2 ^ (8 * (7 - k)) := by
      rw [show 8 * (8 - k) = 8 + 8 * (7 - k) from by omega, Nat.pow_add]
    have e2 : 8 * (8 - (k + 1)) = 8 * (7 - k) := by omega
    rw [e] at hl hm
    rw [e2]
    simp only [spell]
    generalize 48 + n / 10 ^ k % 10 = t at *
    generalize 2 ^ (8 * (7 - k)) = p at *
    have hx : (t + 1) * p ≤ 256 * p := Nat.mul_le_mul_right p (by omega)
    rw [Nat.add_mul] at hx
    refine ⟨by omega, Nat.dvd_add (Nat.dvd_trans (Nat.dvd_mul_left p 256) hm) (Nat.dvd_mul_left p t)⟩

/-- one round of the law's loop -/
theorem spell_step (n k : Nat) (hk : k < 8) : bits .or .u64 ((spell n k : Nat) : Int) (((48 + n / 10 ^ k % 10) * 2 ^ (8 * (7 - k)) : Nat) : Int) = ((spell n (k + 1) : Nat) : Int) := by
  have hd : 48 + n / 10 ^ k % 10 < 256 := by omega
  obtain ⟨hl, hm⟩ := spell_lt n k (by omega)
  obtain ⟨hl', _⟩ := spell_lt n (k + 1) (by omega)
  have hpos : 0 < 2 ^ (8 * (8 - k)) := Nat.two_pow_pos _
  have hpos' : 0 < 2 ^ (8 * (8 - (k + 1))) := Nat.two_pow_pos _
  have hlt : (48 + n / 10 ^ k % 10) * 2 ^ (8 * (7 - k)) < 2 ^ (8 * (8 - k)) := by
    rw [show 8 * (8 - k) = 8 + 8 * (7 - k) from by omega, Nat.pow_add]
    exact Nat.mul_lt_mul_of_pos_right hd (Nat.two_pow_pos _)
  have hs : spell n (k + 1) = spell n k + (48 + n / 10 ^ k % 10) * 2 ^ (8 * (7 - k)) := rfl
  rw [u64_or_nat _ _ (by omega) (by omega), nat_join (8 * (8 - k)) _ _ (Nat.mod_eq_zero_of_dvd hm) hlt, hs]

theorem cast_div (n k : Nat) : (n : Int) / 10 ^ k = ((n / 10 ^ k : Nat) : Int) := by
  rw [Int.natCast_ediv, Int.natCast_pow]; rfl

/-- the same, as the walk spells it -/
theorem step_x (n k : Nat) (hk : k < 8) :
    bits .or .u64 ((spell n k : Nat) : Int) (IntKind.u64.wrap ((48 + ((n : Int) / 10 ^ k).tmod 10) % 4294967296 * 2 ^ (8 * (7 - k)))) = ((spell n (k + 1) : Nat) : Int) := by
  rw [cast_div, Int.tmod_eq_emod_of_nonneg (Int.natCast_nonneg _)]
  rw [← spell_step n k hk]
  have e : (48 + ((n / 10 ^ k : Nat) : Int) % 10) % 4294967296 * 2 ^ (8 * (7 - k)) = (((48 + n / 10 ^ k % 10) * 2 ^ (8 * (7 - k)) : Nat) : Int) := by
    rw [Int.natCast_mul, Int.natCast_pow, show (48 + ((n / 10 ^ k : Nat) : Int) % 10) % 4294967296 = ((48 + n / 10 ^ k % 10 : Nat) : Int) from by omega]
    rfl
  rw [e, wrapN]
  have hd : 48 + n / 10 ^ k % 10 < 256 := by omega
  have hlt : (48 + n / 10 ^ k % 10) * 2 ^ (8 * (7 - k)) < 2 ^ (8 * (8 - k)) := by
    rw [show 8 * (8 - k) = 8 + 8 * (7 - k) from by omega, Nat.pow_add]
    exact Nat.mul_lt_mul_of_pos_right hd (Nat.two_pow_pos _)
  have hle : 2 ^ (8 * (8 - k)) ≤ 2 ^ 64 := Nat.pow_le_pow_right (by omega) (by omega)
  omega
theorem step_m (n k : Nat) (hn : n ≤ 99999999) : ((n : Int) / 10 ^ k).tdiv 10 % 4294967296 = ((n / 10 ^ (k + 1) : Nat) : Int) := by
  have hq : n / 10 ^ k ≤ n := Nat.div_le_self _ _
  rw [cast_div, Int.tdiv_eq_ediv_of_nonneg (Int.natCast_nonneg _), Nat.pow_succ, ← Nat.div_div_eq_div_mul]
  generalize n / 10 ^ k = q at *
  omega
end Go.Proofs.Qxb6600349a.Eight
