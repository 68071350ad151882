/-
  THE WALK OF keepSameWorks (28): two Works with one ghost.
-/
import Derived.Test.Qxb6000061aReads
import Derived.WalkSpells
import Derived.WalkLawsBesides
namespace Go.Proofs.Qxb6000061a
open Go.RowKit

def rlOf (rt : Bool) (n : Nat) : Int := if rt = true then (n : Int) else -1
theorem rlOf_lt {rt : Bool} {n j : Nat} (h : (j : Int) < rlOf rt n) : rt = true ∧ j < n := by
  unfold rlOf at h
  cases rt with
  | true => rw [if_pos rfl] at h; exact ⟨rfl, by omega⟩
  | false => rw [if_neg (by simp)] at h; omega
theorem ratesLen_any {w : World} {O Q : Nat → Prop} {rt : Bool} {mo : Nat → Int} {n3 wp : Nat} {st : St} {d : WData} (h : WI w O Q rt mo n3 wp st d) (p k : Nat) (q r : Int) (hq : q = p) (hr : r = k) (x : Nat × Nat) (hp : p < st.n) (hx : (st.sp p)[k]? = some x) : Calls Try.prog 44 #[.pointer (some ⟨wp, 0, none⟩), .int .i64 q, .int .i64 r] w fun e w' => e = .returned (.int .i64 (rlOf rt x.2)) ∧ w' = w := by
  cases rt with
  | true => exact ratesLen_yes h p k q r hq hr x hp hx
  | false => exact ratesLen_no h p k q r hq hr x hp hx
theorem rlOf_range (rt : Bool) {n : Nat} (h : n ≤ 1048576) : -1 ≤ rlOf rt n ∧ rlOf rt n ≤ 1048576 := by
  unfold rlOf
  split <;> omega

set_option maxRecDepth 100000 in
set_option maxHeartbeats 2000000 in
theorem same_any (w : World) (O1 O2 Q1 Q2 : Nat → Prop) (rt : Bool) (mo : Nat → Int) (n3 wp1 wp2 : Nat) (st : St) (d1 d2 : WData) (h1 : WI w O1 Q1 rt mo n3 wp1 st d1) (h2 : WI w O2 Q2 rt mo n3 wp2 st d2) (hsz : ∀ (p k : Nat) (x : Nat × Nat), (st.sp p)[k]? = some x → x.2 ≤ 1048576) :
    Calls Try.prog 28 #[.pointer (some ⟨wp1, 0, none⟩), .pointer (some ⟨wp2, 0, none⟩)] w fun e w' => e = .returned (.bool true) ∧ Below w.heap.size w w' := by
  have hfew := h1.few
  have HSH : Hid (∀ i, (st.sp i).length ≤ 1048576) := h1.short
  have HSZ := Hid.mk' hsz
  have H1 := Hid.mk' h1; have H2 := Hid.mk' h2
  clear h1 h2 hsz
  have L0 : Hid (Below w.heap.size w w) := Below.refl _ _
  go_enter Try.func28, Try.ntmps28
  go_wp2_with fail
  refine (members_any H1.out).mono ?_
  rintro e w' ⟨rfl, hw⟩; subst w'
  go_wp2_with fail
  refine (members_any H2.out).mono ?_
  rintro e w' ⟨rfl, hw⟩; subst w'
  go_wp2_with fail
  go_loopw [6] (fun i wr => ∃ p : Nat, p ≤ st.n ∧ i = .int .i64 p ∧ Hid (Below w.heap.size w wr)) (fun i _ => st.n - (intOf i).toNat)
  case atStart => exact ⟨0, Nat.zero_le _, rfl, L0⟩
  case round =>
    obtain ⟨p, hp, rfl, hb⟩ := hrel
    by_cases hlt : p < st.n
    · obtain ⟨wa, rfl⟩ : ∃ wo : World, wo = wr := ⟨_, rfl⟩
      go_wp2_with fail
      refine (spans_any (H1.out.below hb.out) p _ rfl hlt).mono ?_
      rintro e w' ⟨rfl, hw⟩; subst w'
      go_wp2_with fail
      refine (spans_any (H2.out.below hb.out) p _ rfl hlt).mono ?_
      rintro e w' ⟨rfl, hw⟩; subst w'
      have hks := HSH.out p
      generalize hK : (st.sp p).length = K at *
      have HK := Hid.mk' hK; clear hK
      go_wp2_with fail
      go_loopw [8] (fun i wr => ∃ k : Nat, k ≤ K ∧ i = .int .i64 k ∧ Hid (Below w.heap.size w wr)) (fun i _ => K - (intOf i).toNat)
      case atStart => exact ⟨0, Nat.zero_le _, rfl, hb⟩
      case round =>
        clear hb
        obtain ⟨k, hk, rfl, hb⟩ := hrel
        by_cases hlk : k < K
        · obtain ⟨wb, rfl⟩ : ∃ wo : World, wo = wr := ⟨_, rfl⟩
          obtain ⟨x, hx⟩ : ∃ x, Hid ((st.sp p)[k]? = some x) := ⟨_, List.getElem?_eq_getElem (by rw [HK.out]; exact hlk)⟩
          have hs2 := HSZ.out p k x hx.out
          go_wp2_with fail
          refine (spanLen_any (H1.out.below hb.out) p k _ _ rfl rfl x hlt hx.out).mono ?_
          rintro e w' ⟨rfl, hw⟩; subst w'
          go_wp2_with fail
          refine (spanLen_any (H2.out.below hb.out) p k _ _ rfl rfl x hlt hx.out).mono ?_
          rintro e w' ⟨rfl, hw⟩; subst w'
          go_wp2_with fail
          refine (ratesLen_any (H1.out.below hb.out) p k _ _ rfl rfl x hlt hx.out).mono ?_
          rintro e w' ⟨rfl, hw⟩; subst w'
          go_wp2_with fail
          refine (ratesLen_any (H2.out.below hb.out) p k _ _ rfl rfl x hlt hx.out).mono ?_
          rintro e w' ⟨rfl, hw⟩; subst w'
          have hRL : Hid (∀ j : Nat, (j : Int) < rlOf rt x.2 → rt = true ∧ j < x.2) := fun j => rlOf_lt
          have hrr := rlOf_range rt hs2
          generalize rlOf rt x.2 = RL at *
          generalize hX : x.2 = X at *
          have HX := Hid.mk' hX; clear hX
          go_wp2_with fail
          go_loopw [11] (fun i wr => ∃ j : Nat, j ≤ X ∧ i = .int .i64 j ∧ Hid (Below w.heap.size w wr)) (fun i _ => X - (intOf i).toNat)
          case atStart => exact ⟨0, Nat.zero_le _, rfl, hb⟩
          case round =>
            clear hb
            obtain ⟨j, hj, rfl, hb⟩ := hrel
            by_cases hlj : j < X
            · obtain ⟨wc, rfl⟩ : ∃ wo : World, wo = wr := ⟨_, rfl⟩
              obtain ⟨v0, hv0⟩ : ∃ v, Hid (mon mo n3 (x.1 + j) = v) := ⟨_, rfl⟩
              obtain ⟨v1, hv1⟩ : ∃ v, Hid (((x.1 + j : Nat) : Int) = v) := ⟨_, rfl⟩
              obtain ⟨v2, hv2⟩ : ∃ v, Hid (v1 * 3 + 1 = v) := ⟨_, rfl⟩
              go_wp2_with fail
              refine (rowAt_any (H1.out.below hb.out) p k j _ _ _ rfl rfl rfl x hlt hx.out (by rw [HX.out]; exact hlj)).mono ?_
              rintro e w1 ⟨he, hb1⟩
              rw [hv0.out, hv1.out, hv2.out] at he
              subst he
              have hb2 : Hid (Below w.heap.size w w1) := hb.out.trans (hb1.mono hb.out.size)
              clear hb1
              go_wp2_with fail
              refine (rowAt_any (H2.out.below hb2.out) p k j _ _ _ rfl rfl rfl x hlt hx.out (by rw [HX.out]; exact hlj)).mono ?_
              rintro e w2 ⟨he, hb3⟩
              rw [hv0.out, hv1.out, hv2.out] at he
              subst he
              have hb4 : Hid (Below w.heap.size w w2) := hb2.out.trans (hb3.mono hb2.out.size)
              clear hb3 hb2
              go_wp2_with fail
              go_roundw
              case rel => exact ⟨j + 1, by omega, by go_num, hb4⟩
              case measure => simp [intOf]; omega
            · obtain ⟨wc, rfl⟩ : ∃ wo : World, wo = wr := ⟨_, rfl⟩
              go_wp2_with fail
              go_loopw [18] (fun i wr => ∃ j : Nat, j ≤ X ∧ i = .int .i64 j ∧ Hid (Below w.heap.size w wr)) (fun i _ => X - (intOf i).toNat)
              case atStart => exact ⟨0, Nat.zero_le _, rfl, hb⟩
              case round =>
                clear hb hlj hj
                obtain ⟨j, hj, rfl, hb⟩ := hrel
                by_cases hlj : (j : Int) < RL
                · obtain ⟨wd, rfl⟩ : ∃ wo : World, wo = wr := ⟨_, rfl⟩
                  obtain ⟨rfl, hjx⟩ := hRL.out j hlj
                  obtain ⟨v1, hv1⟩ : ∃ v, Hid (((x.1 + j : Nat) : Int) * 5 + 2 = v) := ⟨_, rfl⟩
                  go_wp2_with fail
                  refine (rateAt_any (H1.out.below hb.out) p k j _ _ _ rfl rfl rfl x hlt hx.out (by rw [HX.out]; exact hjx)).mono ?_
                  rintro e w' ⟨he, hw⟩; subst w'
                  rw [hv1.out] at he; subst he
                  go_wp2_with fail
                  refine (rateAt_any (H2.out.below hb.out) p k j _ _ _ rfl rfl rfl x hlt hx.out (by rw [HX.out]; exact hjx)).mono ?_
                  rintro e w' ⟨he, hw⟩; subst w'
                  rw [hv1.out] at he; subst he
                  go_wp2_with fail
                  go_roundw
                  case rel => exact ⟨j + 1, by omega, by go_num, hb⟩
                  case measure => simp [intOf]; omega
                · go_wp2_with fail
                  go_roundw
                  case rel => exact ⟨k + 1, by omega, by go_num, hb⟩
                  case measure => simp [intOf]; omega
        · go_wp2_with fail
          go_roundw
          case rel => exact ⟨p + 1, by omega, by go_num, hb⟩
          case measure => simp [intOf]; omega
    · go_wp2_with fail
      go_ret
      exact ⟨rfl, hb.out⟩
end Go.Proofs.Qxb6000061a
