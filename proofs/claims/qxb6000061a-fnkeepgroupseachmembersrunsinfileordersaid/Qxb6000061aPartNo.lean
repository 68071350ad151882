/-
  THE WALK OF keepPart (20), withRates false.
-/
import Derived.Test.Qxb6000061aPartDefs
namespace Go.Proofs.Qxb6000061a
open Go.RowKit

set_option maxRecDepth 100000 in
set_option maxHeartbeats 4000000 in
theorem part_false (w : World) (a1 : Option Addr) (n1 c1 : Nat) (nm : Nat → ByteArray) (a2 : Option Addr) (n2 c2 : Nat) (ln : Nat → Nat) (t : Nat) (a3 : Option Addr) (n3 c3 : Nat) (mo : Nat → Int) (g0 : Nat)
    (h1 : Rd w noO a1 n1 c1 1 (cNm nm)) (h2 : Rd w noO a2 n2 c2 1 (fun i => .int .u16 (ln i : Nat))) (hl : ∀ i, i < n2 → ln i ≤ 65535) (h3 : Rd w noO a3 n3 c3 1 (fun i => .int .i32 (mo i)))
    (ht : t ≤ 255) (hg0 : g0 ≤ 131072) (hn1 : n1 ≤ 65536) (hsum : sumTo ln (min n1 n2) ≤ 65536) :
    Calls Try.prog 20 #[.slice a1 n1 c1, .slice a2 n2 c2, .int .u8 t, .slice a3 n3 c3, .int .i64 g0, .bool false] w fun e w' => PartTold false mo n3 g0 (t + sumTo ln (min n1 n2)) (min n1 n2) nm ln e w' ∧ Below w.heap.size w w' := by
  obtain ⟨i21, hi21, hz21, hs21, hb21⟩ := info_parts Try.info21'
  obtain ⟨i69, hi69, hz69, hs69, hb69⟩ := info_parts Try.info69
  obtain ⟨i2, hi2, hz2, hs2, hb2⟩ := info_parts Try.info2
  obtain ⟨i9, hi9, hz9, hs9, hb9⟩ := info_parts Try.info9'
  obtain ⟨i3, hi3, hz3, hs3, hb3⟩ := info_parts Try.info3
  have I21 := Hid.mk' (And.intro hi21 (And.intro hz21 (And.intro hs21 hb21))); clear hi21 hz21 hs21 hb21
  have I69 := Hid.mk' (And.intro hi69 (And.intro hz69 (And.intro hs69 hb69))); clear hi69 hz69 hs69 hb69
  have I2 := Hid.mk' (And.intro hi2 (And.intro hz2 (And.intro hs2 hb2))); clear hi2 hz2 hs2 hb2
  have I9 := Hid.mk' (And.intro hi9 (And.intro hz9 (And.intro hs9 hb9))); clear hi9 hz9 hs9 hb9
  have I3 := Hid.mk' (And.intro hi3 (And.intro hz3 (And.intro hs3 hb3))); clear hi3 hz3 hs3 hb3
  have H1 := Hid.mk' h1; clear h1
  have H2 := Hid.mk' h2; clear h2
  have H3 := Hid.mk' h3; clear h3
  have HL := Hid.mk' hl; clear hl
  have hm1 : min n1 n2 ≤ n1 := Nat.min_le_left _ _
  have hm2 : min n1 n2 ≤ n2 := Nat.min_le_right _ _
  generalize hmin : min n1 n2 = N at *
  have HM := Hid.mk' hmin; clear hmin
  generalize hTT : t + sumTo ln N = T at *
  have HT := Hid.mk' hTT
  have hTb : T ≤ 65791 := by omega
  have HSUM := Hid.mk' hsum
  clear hTT hsum
  go_enter Try.func20, Try.ntmps20
  go_wp2_with fail
  refine (min_any w n1 n2).mono ?_
  rintro e w' ⟨rfl, hw⟩
  subst w'
  rw [HM.out]
  go_wp2_with fail
  go_loop [19, 20] (fun s i => ∃ k : Nat, k ≤ N ∧ i = .int .i64 k ∧ s = .int .i64 (t + sumTo ln k : Nat)) (fun _ i => N - (intOf i).toNat)
  case atStart => exact ⟨0, Nat.zero_le _, rfl, by simp [sumTo]⟩
  case round =>
    obtain ⟨k, hk, rfl, rfl⟩ := hrel
    have hs := sumTo_mono ln hk
    have hs2 := HSUM.out
    by_cases hlt : k < N
    · rcases H2.out.cells with h0 | ⟨b, off, rfl, _, _, hc⟩
      · exfalso; omega
      · have hcx := hc k (by omega)
        have hkl := HL.out k (by omega)
        clear hc
        have hss : Hid (sumTo ln (k + 1) = sumTo ln k + ln k) := rfl
        go_wp2_with fail
        go_round
        case rel => exact ⟨k + 1, by omega, by go_num, by rw [hss.out]; go_num⟩
        case measure => simp [intOf]; omega
    · obtain rfl : N = k := by omega
      rw [HT.out]
      clear hs hs2 hk hlt
      go_wp2_with (at_make; refine wpList_make_full _ rfl _ _ 37 rfl w.heap.size 21 i21 (.int .i32 0) 1 Try.underlying37 I21.out.1 I21.out.2.1 I21.out.2.2.1 _ _ _ _ T rfl rfl rfl rfl (by rw [I21.out.2.2.2]; omega) (by unfold maxLen; omega) (Nat.le_refl _) ?_)
      intro w1 hown1 hgrow1
      have F1 := Hid.mk' (Fill.start hown1 (cMs mo n3 g0))
      have L1 : Below w.heap.size w w1 := (Below.refl _ _).grown hgrow1 (Nat.le_refl _) (by intro k hk; cases hk)
      have K1 : Hid (w.heap.size < w1.heap.size) := F1.out.lt
      clear hown1 hgrow1
      go_wp2_with (at_make; refine wpList_make_full _ rfl _ _ 43 rfl w.heap.size 69 i69 (.int .u32 0) 1 Try.underlying43 I69.out.1 I69.out.2.1 I69.out.2.2.1 _ _ _ _ T rfl rfl rfl rfl (by rw [I69.out.2.2.2]; omega) (by unfold maxLen; omega) L1.size ?_)
      intro w2 hown2 hgrow2
      have F2 := Hid.mk' (Fill.start hown2 (cLs g0))
      have L2 : Below w.heap.size w w2 := L1.grown hgrow2 L1.size (by intro k hk; cases hk)
      have K2 : Hid (w1.heap.size < w2.heap.size) := F2.out.lt
      have F1' := Hid.mk' (F1.out.keep (Keep.of_grown hgrow2) (by intro e; cases e))
      clear hown2 hgrow2 F1 L1
      go_wp2_with (at_make; refine wpList_make_full _ rfl _ _ 23 rfl w.heap.size 2 i2 (.int .i64 0) 1 Try.underlying23 I2.out.1 I2.out.2.1 I2.out.2.2.1 _ _ _ _ T rfl rfl rfl rfl (by rw [I2.out.2.2.2]; omega) (by unfold maxLen; omega) L2.size ?_)
      intro w3 hown3 hgrow3
      have F3 := Hid.mk' (Fill.start hown3 (cHs g0))
      have L3 : Below w.heap.size w w3 := L2.grown hgrow3 L2.size (by intro k hk; cases hk)
      have K3 : Hid (w2.heap.size < w3.heap.size) := F3.out.lt
      have F1 := Hid.mk' (F1'.out.keep (Keep.of_grown hgrow3) (by intro e; cases e))
      have F2' := Hid.mk' (F2.out.keep (Keep.of_grown hgrow3) (by intro e; cases e))
      clear hown3 hgrow3 F1' F2 L2
      generalize hg1 : w.heap.size = g1 at *
      generalize hg2 : w1.heap.size = g2 at *
      generalize hg3 : w2.heap.size = g3 at *
      have n12 : g1 < g2 := K1.out
      have n23 : g2 < g3 := K2.out
      clear K1 K2 K3
      go_wp2_with fail
      go_loopw [25, 26] (fun i _ wr => ∃ j : Nat, j ≤ T ∧ i = .int .i64 j ∧ Hid (Fill wr g1 g1 T 21 (cMs mo n3 g0) (.int .i32 0) j) ∧ Hid (Fill wr g1 g2 T 69 (cLs g0) (.int .u32 0) j) ∧ Hid (Fill wr g1 g3 T 2 (cHs g0) (.int .i64 0) j) ∧ Below g1 w wr) (fun i _ _ => T - (intOf i).toNat)
      case atStart => exact ⟨0, Nat.zero_le _, rfl, F1, F2', F3, L3⟩
      case round =>
        obtain ⟨j, hj, rfl, R1, R2, R3, hnx⟩ := hrel
        by_cases hlt : j < T
        · have hm3 := Hid.mk' (H3.out.below (by rw [hg1]; exact hnx))
          have cx1 := R1.out.cell hlt
          have fx1 := R1.out.frozen j
          have cx2 := R2.out.cell hlt
          have fx2 := R2.out.frozen j
          have cx3 := R3.out.cell hlt
          have fx3 := R3.out.frozen j
          go_wp2_with fail
          refine (month_any wr noO a3 n3 c3 (g0 + j) mo _ (by omega) hm3.out (by omega)).mono ?_
          rintro e w' ⟨rfl, hw⟩
          subst w'
          go_wp2_with fail
          refine (hours_any _ (g0 + j) _ (by omega) (by omega)).mono ?_
          rintro e w' ⟨rfl, hw⟩
          subst w'
          go_wp2_with fail
          go_roundw
          case rel =>
            have Q := step3 R1.out R2.out R3.out hnx n12 n23 (v1 := .int .i32 (mon mo n3 (g0 + j))) (v2 := .int .u32 ((g0 : Int) + j)) (v3 := .int .i64 (((g0 + j : Nat) : Int) * 3 + 1)) rfl (by unfold cLs; go_num) rfl
            exact ⟨j + 1, by omega, by go_num, Q.1, Q.2.1, Q.2.2.1, Q.2.2.2⟩
          case measure => simp [intOf]; omega
        · obtain rfl : T = j := by omega
          have D1 := Hid.mk' (R1.out.rd (O := noO) (by unfold maxLen; omega) (fun e => e))
          have D2 := Hid.mk' (R2.out.rd (O := noO) (by unfold maxLen; omega) (fun e => e))
          have D3 := Hid.mk' (R3.out.rd (O := noO) (by unfold maxLen; omega) (fun e => e))
          have hB : g1 ≤ wr.heap.size := by have := R1.out.lt; omega
          clear F1 F2' F3 R1 R2 R3 hlt hj
          go_wp2_with (at_make; refine wpList_make_full _ rfl _ _ 35 rfl g1 9 i9 (.string ⟨#[]⟩) 1 Try.underlying35 I9.out.1 I9.out.2.1 I9.out.2.2.1 _ _ _ _ N rfl rfl rfl rfl (by rw [I9.out.2.2.2]; omega) (by unfold maxLen; omega) hB ?_)
          intro w5 hown5 hgrow5
          have M1 := Hid.mk' (Fill.start hown5 (cNm nm))
          have L5 : Below wr.heap.size wr w5 := (Below.refl _ _).grown hgrow5 (Nat.le_refl _) (by intro k hk; cases hk)
          have K5 : Hid (wr.heap.size < w5.heap.size) := M1.out.lt
          clear hown5 hgrow5
          go_wp2_with (at_make; refine wpList_make_full _ rfl _ _ 22 rfl g1 3 i3 (.int .i64 0) 1 Try.underlying22 I3.out.1 I3.out.2.1 I3.out.2.2.1 _ _ _ _ N rfl rfl rfl rfl (by rw [I3.out.2.2.2]; omega) (by unfold maxLen; omega) (Nat.le_trans hB L5.size) ?_)
          intro w6 hown6 hgrow6
          have M2 := Hid.mk' (Fill.start hown6 (cEn ln))
          have L6 : Below wr.heap.size wr w6 := L5.grown hgrow6 L5.size (by intro k hk; cases hk)
          have M1' := Hid.mk' (M1.out.keep (Keep.of_grown hgrow6) (by intro e; cases e))
          clear hown6 hgrow6 M1 L5
          generalize hg5 : wr.heap.size = g5 at *
          generalize hg6 : w5.heap.size = g6 at *
          have n56 : g5 < g6 := K5.out
          clear K5
          go_wp2_with fail
          go_loopw [29, 30] (fun s i wq => ∃ k : Nat, k ≤ N ∧ i = .int .i64 k ∧ s = .int .i64 (sumTo ln k : Nat) ∧ Hid (Fill wq g1 g5 N 9 (cNm nm) (.string ⟨#[]⟩) k) ∧ Hid (Fill wq g1 g6 N 3 (cEn ln) (.int .i64 0) k) ∧ Below g5 wr wq) (fun _ i _ => N - (intOf i).toNat)
          case atStart => exact ⟨0, Nat.zero_le _, rfl, rfl, M1', M2, L6⟩
          case round =>
            obtain ⟨k, hk, rfl, rfl, R5, R6, hny⟩ := hrel
            have hs := sumTo_mono ln hk
            have hs2 := HSUM.out
            have hny0 : Hid (Below g1 w _) := hnx.trans (hny.mono hB)
            by_cases hlt : k < N
            · rcases H2.out.cells with h0 | ⟨b, off, rfl, hbl, _, hc⟩
              · exfalso; omega
              · rcases H1.out.cells with h0' | ⟨b', off', rfl, hbl', _, hc'⟩
                · exfalso; omega
                · have hcx := (hny0.out.cell (p := ⟨b, off + k, none⟩) (by show b < g1; omega)).trans (hc k (by omega))
                  have hcx' := (hny0.out.cell (p := ⟨b', off' + k, none⟩) (by show b' < g1; omega)).trans (hc' k (by omega))
                  have hkl := HL.out k (by omega)
                  clear hc hc'
                  have cx5 := R5.out.cell hlt
                  have fx5 := R5.out.frozen k
                  have cx6 := R6.out.cell hlt
                  have fx6 := R6.out.frozen k
                  have hnw : Hid (∀ i, cNm nm i = .string (nm i)) := fun _ => rfl
                  rw [hnw.out] at hcx'
                  have hss : Hid (sumTo ln (k + 1) = sumTo ln k + ln k) := rfl
                  go_wp2_with fail
                  go_roundw
                  case rel =>
                    have Q := step2 R5.out R6.out hny (Nat.le_refl _) n56 (v1 := .string (nm k)) (v2 := .int .i64 (((sumTo ln k : Nat) : Int) + ln k)) rfl (by unfold cEn; rw [hss.out]; go_num)
                    exact ⟨k + 1, by omega, by go_num, by rw [hss.out]; go_num, Q.1, Q.2.1, Q.2.2⟩
                  case measure => simp [intOf]; omega
            · obtain rfl : N = k := by omega
              clear hs hs2
              go_wp2_with fail
              refine bodyPost_ret (v := .tuple #[.slice (some ⟨g1, 0, none⟩) T T, .slice (some ⟨g2, 0, none⟩) T T, .slice (some ⟨g3, 0, none⟩) T T, .slice none 0 0, .slice (some ⟨g5, 0, none⟩) N N, .slice (some ⟨g6, 0, none⟩) N N]) (by simp [results, Try.results20, go_sem]) rfl ⟨⟨_, _, _, _, _, _, _, rfl, ?_⟩, (by rw [hg1]; exact hny0.out)⟩
              refine ⟨D1.out.below (by rw [hg5]; exact hny), D2.out.below (by rw [hg5]; exact hny), D3.out.below (by rw [hg5]; exact hny), Rd.empty _ _ _ _, rfl, rfl, R5.out.rd (by unfold maxLen; omega) (fun e => e), R6.out.rd (by unfold maxLen; omega) (fun e => e)⟩
end Go.Proofs.Qxb6000061a
