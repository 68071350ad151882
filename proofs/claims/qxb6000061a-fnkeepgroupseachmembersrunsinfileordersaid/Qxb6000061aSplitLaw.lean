/-
  PLAIN LAWS: a part kept in two pieces; what cuts of a row read as; ZZKeep, both ways in one contract.
-/
import Derived.Test.Qxb6000061aZZKeep
import Derived.WalkSpells
import Derived.WalkLawsBesides
namespace Go.Proofs.Qxb6000061a
open Go.RowKit

theorem sumTo_add (ln : Nat → Nat) (c : Nat) : ∀ j, sumTo ln (c + j) = sumTo ln c + sumTo (fun i => ln (c + i)) j
  | 0 => rfl
  | j + 1 => by
    show sumTo ln (c + j) + ln (c + j) = sumTo ln c + (sumTo (fun i => ln (c + i)) j + ln (c + j))
    rw [sumTo_add ln c j, Nat.add_assoc]

theorem runsTo_split (gb : Nat) (nm : Nat → ByteArray) (ln : Nat → Nat) (st : St) (c : Nat) : ∀ j, runsTo gb nm ln st (c + j) = runsTo (gb + sumTo ln c) (fun i => nm (c + i)) (fun i => ln (c + i)) (runsTo gb nm ln st c) j
  | 0 => rfl
  | j + 1 => by
    show (runsTo gb nm ln st (c + j)).add (nm (c + j)) (gb + sumTo ln (c + j), ln (c + j)) = (runsTo (gb + sumTo ln c) (fun i => nm (c + i)) (fun i => ln (c + i)) (runsTo gb nm ln st c) j).add (nm (c + j)) (gb + sumTo ln c + sumTo (fun i => ln (c + i)) j, ln (c + j))
    rw [runsTo_split gb nm ln st c j, sumTo_add, Nat.add_assoc]

theorem place_some (st : St) (s : ByteArray) : ((st.place s).m s).isSome = true := by
  unfold St.place
  by_cases h : (st.m s).isSome = true
  · rw [if_pos h]; exact h
  · rw [if_neg h]
    show ((updM st.m s st.n) s).isSome = true
    unfold updM
    rw [if_pos rfl]; rfl
theorem place_stays (st : St) (s t : ByteArray) (h : (st.m t).isSome = true) : ((st.place s).m t).isSome = true := by
  unfold St.place
  by_cases h' : (st.m s).isSome = true
  · rw [if_pos h']; exact h
  · rw [if_neg h']
    show ((updM st.m s st.n) t).isSome = true
    unfold updM
    by_cases e : t = s
    · rw [if_pos e]; rfl
    · rw [if_neg e]; exact h
theorem runsTo_some (gb : Nat) (nm : Nat → ByteArray) (ln : Nat → Nat) (st : St) : ∀ k i, i < k → ((runsTo gb nm ln st k).m (nm i)).isSome = true
  | 0, i, h => by omega
  | k + 1, i, h => by
    show (((runsTo gb nm ln st k).place (nm k)).m (nm i)).isSome = true
    by_cases e : i = k
    · subst e; exact place_some _ _
    · exact place_stays _ _ _ (runsTo_some gb nm ln st k i (by omega))

theorem place_mem (st : St) (s : ByteArray) (p : Nat) (x : Nat × Nat) (h : x ∈ (st.place s).sp p) : x ∈ st.sp p := by
  unfold St.place at h
  by_cases h' : (st.m s).isSome = true
  · rwa [if_pos h'] at h
  · rw [if_neg h'] at h
    have h2 : x ∈ (if p = st.n then [] else st.sp p) := h
    by_cases e : p = st.n
    · rw [if_pos e] at h2; cases h2
    · rwa [if_neg e] at h2
theorem add_mem (st : St) (s : ByteArray) (y : Nat × Nat) (p : Nat) (x : Nat × Nat) (h : x ∈ (st.add s y).sp p) : x ∈ st.sp p ∨ x = y := by
  have h2 : x ∈ (if p = (st.place s).at s then (st.place s).sp p ++ [y] else (st.place s).sp p) := h
  by_cases e : p = (st.place s).at s
  · rw [if_pos e, List.mem_append] at h2
    rcases h2 with h2 | h2
    · exact .inl (place_mem st s p x h2)
    · exact .inr (by simpa using h2)
  · rw [if_neg e] at h2
    exact .inl (place_mem st s p x h2)
theorem runsTo_size (gb : Nat) (nm : Nat → ByteArray) (ln : Nat → Nat) (st : St) (M : Nat) (h0 : ∀ p x, x ∈ st.sp p → x.2 ≤ M) : ∀ k, (∀ i, i < k → ln i ≤ M) → ∀ p x, x ∈ (runsTo gb nm ln st k).sp p → x.2 ≤ M
  | 0, _, p, x, h => h0 p x h
  | k + 1, hl, p, x, h => by
    rcases add_mem _ _ _ p x h with h | h
    · exact runsTo_size gb nm ln st M h0 k (fun i hi => hl i (by omega)) p x h
    · subst h; exact hl k (by omega)

/-! ### cuts -/
theorem Rd.head {w : World} {O : Nat → Prop} {a : Option Addr} {n cap : Nat} {c : Nat → Value} (h : Rd w O a n cap 1 c) {b : Nat} (hb : b ≤ n) : Rd w O a b cap 1 c := by
  refine ⟨Nat.le_trans hb h.le, h.room, fun e => by have := h.nil e; omega, ?_⟩
  rcases h.cells with h0 | ⟨g, off, rfl, hlt, ho, hc⟩
  · left; omega
  · right; exact ⟨g, off, rfl, hlt, ho, fun i hi => hc i (by omega)⟩
def cutO (a : Option Addr) (b T : Nat) : Option Addr := if T = b then a else a.map (·.add (b * 1))
theorem cutO_none (a : Option Addr) (b T : Nat) : (cutO a b T).isNone = a.isNone := by
  unfold cutO
  by_cases h : T = b
  · rw [if_pos h]
  · rw [if_neg h]; cases a <;> rfl
theorem Rd.tail {w : World} {O : Nat → Prop} {a : Option Addr} {n : Nat} {c : Nat → Value} (h : Rd w O a n n 1 c) {b : Nat} {c' : Nat → Value} (hb : b ≤ n) (hc' : ∀ i, c (b + i) = c' i) : Rd w O (cutO a b n) (n - b) (n - b) 1 c' := by
  refine ⟨Nat.le_refl _, by have := h.room; omega, fun e => ?_, ?_⟩
  · have h1 : a.isNone = true := by rw [← cutO_none a b n, e]; rfl
    have h2 : a = none := by cases a with
      | none => rfl
      | some _ => cases h1
    have := h.nil h2
    omega
  · by_cases e : n = b
    · left; omega
    · rcases h.cells with h0 | ⟨g, off, rfl, hlt, ho, hc⟩
      · left; omega
      · right
        refine ⟨g, off + b * 1, ?_, hlt, ho, fun i hi => ?_⟩
        · unfold cutO; rw [if_neg e]; simp [Addr.add]
        · rw [← hc' i, Nat.mul_one, Nat.add_assoc]; exact hc (b + i) (by omega)

section
variable (t : TypeId) (a : Option Addr) (len cap : Nat) (ht : Try.prog.underlying t = some (.slice (Try.prog.elem t))) (hs : ∀ w, (sizeOf (Try.prog.elem t)).run Try.prog w = .ok 1 w)
include ht hs
theorem cut_head (w : World) (b : Nat) (h : b ≤ cap) : (Instr.slice t (.slice a len cap) none (some (.int .i64 (b : Int))) none).run Try.prog w = .ok (.slice a b cap) w := by
  rw [run_slice_h w t a len cap ht .i64 b (by omega) (by omega), hs]
  show Result.ok (Value.slice (if cap = 0 then a else a.map (·.add (0 * 1))) ((b : Int).toNat - 0) (cap - 0)) w = _
  have h1 : a.map (·.add (0 * 1)) = a := by cases a <;> simp [Addr.add]
  rw [h1]
  simp
theorem cut_tail (w : World) (b : Nat) (h : b ≤ len) : (Instr.slice t (.slice a len len) (some (.int .i64 (b : Int))) none none).run Try.prog w = .ok (.slice (cutO a b len) (len - b) (len - b)) w := by
  rw [run_slice_l w t a len len ht .i64 b (by omega) (by omega), hs]
  rfl
end

set_option maxHeartbeats 400000 in
theorem zzkeep_any (w : World) (O Q : Nat → Prop) (rt : Bool) (mo : Nat → Int) (n3 wp gb T N : Nat) (st : St) (d : WData) (nm : Nat → ByteArray) (ln : Nat → Nat) (ams als ahs ars amem aend : Option Addr) (cms cls chs nrs crs cmem cend : Nat)
    (h : WI w O Q rt mo n3 wp st d) (hms : Rd w Q ams T cms 1 (cMs mo n3 gb)) (hls : Rd w Q als T cls 1 (cLs gb)) (hhs : Rd w Q ahs T chs 1 (cHs gb)) (hrs : Rd w Q ars nrs crs 1 (cRs gb)) (hrn : ars.isNone = !rt) (hrl : nrs = if rt = true then T else 0) (hrc : rt = false → crs = 0)
    (hmem : Rd w Q amem N cmem 1 (cNm nm)) (hend : Rd w Q aend N cend 1 (cEn ln)) (hsum : sumTo ln N ≤ T) (hT : T ≤ 131072) (hN : N ≤ 65536) (hstr : ∀ i, i < N → (nm i).size ≤ maxLen) (hfew : st.n + N ≤ 1048576) (hshort : ∀ i, (st.sp i).length + N ≤ 1048576) :
    Calls Try.prog 22 #[.pointer (some ⟨wp, 0, none⟩), .slice ams T cms, .slice als T cls, .slice ahs T chs, .slice ars nrs crs, .slice amem N cmem, .slice aend N cend] w fun e w' => e = .returned (.tuple #[]) ∧ Kept w w' O Q rt mo n3 wp (runsTo gb nm ln st N) := by
  cases rt with
  | true =>
    rw [if_pos rfl] at hrl
    subst hrl
    exact zzkeep_yes w O Q mo n3 wp gb nrs N st d nm ln ams als ahs ars amem aend cms cls chs crs cmem cend h hms hls hhs hrs hrn hmem hend hsum hT hN hstr hfew hshort
  | false =>
    rw [if_neg (by simp)] at hrl
    obtain rfl : ars = none := by cases ars with
      | none => rfl
      | some _ => cases hrn
    rw [hrc rfl]
    subst hrl
    exact zzkeep_no w O Q mo n3 wp gb T N st d nm ln ams als ahs amem aend cms cls chs cmem cend h hms hls hhs hmem hend hsum hT hN hstr hfew hshort
end Go.Proofs.Qxb6000061a
