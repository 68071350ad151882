/-
  THE WALK OF FnKeepGroupsEachMembersRunsInFileOrder (4).
-/
import Derived.Test.Qxb6000061aSplit5
import Derived.Test.Qxb6000061aCheck
import Derived.WalkSpells
import Derived.WalkLawsBesides
import Derived.Deep.DeepCutAuto
import Derived.Deep.RegionWith
import Derived.Deep.LoopGhost
namespace Go.Proofs.Qxb6000061a
open Go.RowKit

theorem Chk.start (w : World) : Chk w ((w.alloc (.map #[] 0)).alloc (.map #[] 0)) w.heap.size (w.heap.size + 1) none 0 0 St.zero (fun _ => none) (fun _ => ByteArray.empty) := by
  have e : (w.alloc (.map #[] 0)).heap.size = w.heap.size + 1 := by simp
  refine ⟨((Below.refl _ _).alloc (Nat.le_refl _) _).alloc (by simp) _, Nat.le_refl _, Nat.le_succ _, by omega, ?_, ?_, World.ownsRow_nil _ _ _ _, fun _ h => (by cases h), fun i hi => absurd hi (Nat.not_lt_zero _), fun i hi => absurd hi (Nat.not_lt_zero _), fun _ => rfl⟩
  · exact (MapAt.made w).keep (Keep.of_below (O := noO) ((Below.refl _ _).alloc (Nat.le_refl _) _)) (fun e => e)
  · have := MapAt.made (w.alloc (.map #[] 0))
    rw [e] at this
    exact this

set_option maxRecDepth 1000000 in
set_option maxHeartbeats 4000000 in
theorem groups_any (w : World) (a1 : Option Addr) (n1 c1 : Nat) (nm1 : Nat → ByteArray) (a2 : Option Addr) (n2 c2 : Nat) (ln1 : Nat → Nat) (t1 : Nat) (a3 : Option Addr) (n3 c3 : Nat) (nm2 : Nat → ByteArray) (a4 : Option Addr) (n4 c4 : Nat) (ln2 : Nat → Nat) (t2 : Nat) (a5 : Option Addr) (n5 c5 : Nat) (mo : Nat → Int) (rt : Bool)
    (h1 : Rd w noO a1 n1 c1 1 (fun i => .string (nm1 i))) (hs1 : ∀ i, i < n1 → (nm1 i).size ≤ maxLen) (h2 : Rd w noO a2 n2 c2 1 (fun i => .int .u16 (ln1 i : Nat))) (hl1 : ∀ i, i < n2 → ln1 i ≤ 65535)
    (h3 : Rd w noO a3 n3 c3 1 (fun i => .string (nm2 i))) (hs3 : ∀ i, i < n3 → (nm2 i).size ≤ maxLen) (h4 : Rd w noO a4 n4 c4 1 (fun i => .int .u16 (ln2 i : Nat))) (hl2 : ∀ i, i < n4 → ln2 i ≤ 65535)
    (h5 : Rd w noO a5 n5 c5 1 (fun i => .int .i32 (mo i))) (ht1 : t1 ≤ 255) (ht2 : t2 ≤ 255) :
    Calls Try.prog 4 #[.slice a1 n1 c1, .slice a2 n2 c2, .int .u8 t1, .slice a3 n3 c3, .slice a4 n4 c4, .int .u8 t2, .slice a5 n5 c5, .bool rt] w fun e w' => e = .returned (.bool true) ∧ Below w.heap.size w w' := by
  have H1 := Hid.mk' h1; have HS1 := Hid.mk' hs1; have H2 := Hid.mk' h2; have HL1 := Hid.mk' hl1; have H3 := Hid.mk' h3; have HS3 := Hid.mk' hs3; have H4 := Hid.mk' h4; have HL2 := Hid.mk' hl2; have H5 := Hid.mk' h5
  clear h1 hs1 h2 hl1 h3 hs3 h4 hl2 h5
  have hmm := @run_makeMap Try.prog
  go_enter Try.func4, Try.ntmps4
  go_wp2_with fail
  refine (zb15_any w noO a1 n1 c1 nm1 a2 n2 c2 t1 a3 n3 c3 nm2 a4 n4 c4 t2 a5 n5 c5 rt H1.out HS1.out H3.out HS3.out).mono ?_
  rintro e w' ⟨⟨b0, rfl, hb0⟩, hw⟩; subst w'
  cases b0 with
  | false =>
    clear hb0
    go_wp2_with fail
    go_ret
    exact ⟨rfl, Below.refl _ _⟩
  | true =>
  have SM := Hid.mk' (hb0 rfl); clear hb0
  go_wp2_with fail
  refine (two_any w noO a1 n1 c1 nm1 a2 n2 c2 ln1 a3 n3 c3 nm2 a4 n4 c4 ln2 a5 n5 c5 H1.out HS1.out H2.out HL1.out H3.out HS3.out H4.out HL2.out SM.out).mono ?_
  rintro e w' ⟨⟨b0, rfl, hb0⟩, hw⟩; subst w'
  cases b0 with
  | false =>
    clear hb0
    go_wp2_with fail
    go_ret
    exact ⟨rfl, Below.refl _ _⟩
  | true =>
  have TW := Hid.mk' (hb0 rfl); clear hb0
  go_wp2_with fail
  refine (clone17_any w a1 n1 c1 nm1 H1.out SM.out.1).mono ?_
  rintro e w1 ⟨a1', c1', rfl, r1, b1⟩
  have R1 := Hid.mk' r1; have B1 := Hid.mk' b1; clear r1 b1
  go_wp2_with fail
  refine (clone18_any w1 a2 n2 c2 (fun i => ln1 i) (H2.out.below B1.out) SM.out.2.1).mono ?_
  rintro e w2 ⟨a2', c2', rfl, r2, b2⟩
  have R2 := Hid.mk' r2; have B2 := Hid.mk' (B1.out.trans (b2.mono B1.out.size)); have R1' := Hid.mk' (R1.out.below b2); clear r2 b2 R1
  go_wp2_with fail
  refine (clone17_any w2 a3 n3 c3 nm2 (H3.out.below B2.out) SM.out.2.2.1).mono ?_
  rintro e w3 ⟨a3', c3', rfl, r3, b3⟩
  have R3 := Hid.mk' r3; have B3 := Hid.mk' (B2.out.trans (b3.mono B2.out.size)); have R1 := Hid.mk' (R1'.out.below b3); have R2' := Hid.mk' (R2.out.below b3); clear r3 b3 R1' R2
  go_wp2_with fail
  refine (clone18_any w3 a4 n4 c4 (fun i => ln2 i) (H4.out.below B3.out) SM.out.2.2.2.1).mono ?_
  rintro e w4 ⟨a4', c4', rfl, r4, b4⟩
  have R4 := Hid.mk' r4; have B4 := Hid.mk' (B3.out.trans (b4.mono B3.out.size)); have R1' := Hid.mk' (R1.out.below b4); have R2 := Hid.mk' (R2'.out.below b4); have R3' := Hid.mk' (R3.out.below b4); clear r4 b4 R1 R2' R3
  go_wp2_with fail
  refine (clone19_any w4 a5 n5 c5 mo (H5.out.below B4.out) SM.out.2.2.2.2).mono ?_
  rintro e w5 ⟨a5', c5', rfl, r5, b5⟩
  have R5 := Hid.mk' r5; have B5 := Hid.mk' (B4.out.trans (b5.mono B4.out.size)); have R1 := Hid.mk' (R1'.out.below b5); have R2' := Hid.mk' (R2.out.below b5); have R3 := Hid.mk' (R3'.out.below b5); have R4' := Hid.mk' (R4.out.below b5); clear r5 b5 R1' R2 R3' R4 B1 B2 B3 B4
  go_wp2_with fail
  refine (part_any w5 a1' n1 c1' nm1 a2' n2 c2' ln1 t1 a5' n5 c5' mo 0 _ rfl rt R1.out R2'.out HL1.out R5.out ht1 (by omega) TW.out.1 TW.out.2.2.2.2.2.1).mono ?_
  rintro e w6 ⟨⟨ams1, als1, ahs1, ars1, amem1, aend1, Tr1, rfl, hp1⟩, b6⟩
  have HP1' := Hid.mk' hp1; have B6 := Hid.mk' (B5.out.trans (b6.mono B5.out.size)); have R5' := Hid.mk' (R5.out.below b6); have R3' := Hid.mk' (R3.out.below b6); have R4 := Hid.mk' (R4'.out.below b6); clear hp1 b6 R1 R2' R3 R4' R5 B5
  have HSN1 : Hid (∀ i, i < min n1 n2 → (nm1 i).size ≤ maxLen) := fun i hi => HS1.out i (by omega)
  have HSN2 : Hid (∀ i, i < min n3 n4 → (nm2 i).size ≤ maxLen) := fun i hi => HS3.out i (by omega)
  have hN1 : min n1 n2 ≤ 65536 := by have := TW.out.1; omega
  have hN2 : min n3 n4 ≤ 65536 := by have := TW.out.2.2.1; omega
  have hsum1 := TW.out.2.2.2.2.2.1
  have hsum2 := TW.out.2.2.2.2.2.2
  have HT1 : Hid (t1 + sumTo ln1 (min n1 n2) ≤ 65791) := by show t1 + sumTo ln1 (min n1 n2) ≤ 65791; omega
  have HT1s : Hid (sumTo ln1 (min n1 n2) ≤ t1 + sumTo ln1 (min n1 n2)) := by show sumTo ln1 (min n1 n2) ≤ t1 + sumTo ln1 (min n1 n2); omega
  have HN3 : Hid (n3 ≤ 65536) := TW.out.2.2.1
  have HSU2 : Hid (sumTo ln2 (min n3 n4) ≤ 65536) := hsum2
  clear H1 H2 H3 H4 H5 HS1 HS3 HL1 SM TW hsum1 hsum2
  generalize min n1 n2 = N1 at *
  generalize t1 + sumTo ln1 N1 = T1 at *
  have hT1 := HT1.out
  go_wp2_with fail
  refine (part_any w6 a3' n3 c3' nm2 a4' n4 c4' ln2 t2 a5' n5 c5' mo T1 _ rfl rt R3'.out R4.out HL2.out R5'.out ht2 (by omega) HN3.out HSU2.out).mono ?_
  rintro e w7 ⟨⟨ams2, als2, ahs2, ars2, amem2, aend2, Tr2, rfl, hp2⟩, b7⟩
  have HP2 := Hid.mk' hp2; have B7 := Hid.mk' (B6.out.trans (b7.mono B6.out.size)); have R5 := Hid.mk' (R5'.out.below b7); have HP1 := Hid.mk' (HP1'.out.keep (Keep.of_below b7)); clear hp2 b7 R3' R4 R5' B6 HP1'
  have hsum2 := HSU2.out
  have HT2 : Hid (t2 + sumTo ln2 (min n3 n4) ≤ 65791) := by show t2 + sumTo ln2 (min n3 n4) ≤ 65791; omega
  have HT2s : Hid (sumTo ln2 (min n3 n4) ≤ t2 + sumTo ln2 (min n3 n4)) := by show sumTo ln2 (min n3 n4) ≤ t2 + sumTo ln2 (min n3 n4); omega
  clear hsum2 HL2 HN3
  generalize min n3 n4 = N2 at *
  generalize t2 + sumTo ln2 N2 = T2 at *
  have hT2 := HT2.out
  go_wp2_with fail
  refine (new_any w7).mono ?_
  rintro e w8 ⟨rfl, hw⟩
  obtain ⟨O1, hO1⟩ : ∃ O : Nat → Prop, Hid (O = fun k => k = w7.heap.size ∨ k = w7.heap.size + 1) := ⟨_, rfl⟩
  have FW : Hid (WI w8 O1 O1 rt mo n5 (w7.heap.size + 1) St.zero (WData.fresh w7.heap.size)) := by
    rw [hw, hO1.out]
    exact WI.fresh w7 _ rt mo n5 (fun _ e => e) (fun k e => by omega)
  have L8 : Hid (Below w7.heap.size w7 w8) := by
    rw [hw]
    exact ((Below.refl _ _).alloc (Nat.le_refl _) _).alloc (by simp) _
  have Q1 : Hid (∀ k, O1 k → w7.heap.size ≤ k) := fun k e => by rw [hO1.out] at e; omega
  clear hw hO1
  obtain ⟨wp, hwp⟩ : ∃ p, Hid (w7.heap.size + 1 = p) := ⟨_, rfl⟩
  rw [hwp.out]
  rw [hwp.out] at FW
  go_wp2_with fail
  refine (zzkeep_any w8 O1 O1 rt mo n5 wp 0 T1 N1 St.zero _ nm1 ln1 ams1 als1 ahs1 ars1 amem1 aend1 T1 T1 T1 Tr1 Tr1 N1 N1 FW.out (HP1.out.ms.high L8.out Q1.out) (HP1.out.ls.high L8.out Q1.out) (HP1.out.hs.high L8.out Q1.out) (HP1.out.rs.high L8.out Q1.out) HP1.out.rnil HP1.out.rlen (fun e => by rw [HP1.out.rlen, e]; rfl) (HP1.out.mem.high L8.out Q1.out) (HP1.out.ends.high L8.out Q1.out) HT1s.out (by omega) hN1 HSN1.out (by show 0 + N1 ≤ _; omega) (fun i => by show 0 + N1 ≤ _; omega)).mono ?_
  rintro e w9 ⟨rfl, hkept⟩
  have HST := hkept.stands L8.out Q1.out Q1.out
  obtain ⟨d9, O9, Q9, HW9, HO9, HQ9, L9⟩ : ∃ d O Q, Hid (WI w9 O Q rt mo n5 wp (runsTo 0 nm1 ln1 St.zero N1) d) ∧ Hid (∀ k, O k → w7.heap.size ≤ k) ∧ Hid (∀ k, Q k → w7.heap.size ≤ k) ∧ Hid (Below w7.heap.size w7 w9) := by
    obtain ⟨d, O, Q, k1, k2, k3, k4⟩ := HST
    exact ⟨d, O, Q, k1, k2, k3, k4⟩
  clear hkept HST FW L8 Q1
  obtain ⟨st1, hst1⟩ : ∃ s, Hid (runsTo 0 nm1 ln1 St.zero N1 = s) := ⟨_, rfl⟩
  have hg1 : Hid (Good st1) := by show Good st1; rw [← hst1.out]; exact Good.zero.runs 0 nm1 ln1 N1
  have hsn : st1.n ≤ N1 := by have := runsTo_n 0 nm1 ln1 St.zero N1; rw [hst1.out] at this; have h0 : (St.zero).n = 0 := rfl; omega
  have HSL : Hid (∀ i, (st1.sp i).length ≤ N1) := fun i => by have := runsTo_len 0 nm1 ln1 St.zero i N1; rw [hst1.out] at this; have h0 : ((St.zero).sp i).length = 0 := rfl; omega
  rw [hst1.out] at HW9
  go_wp2_with fail
  refine (zzkeep_any w9 O9 Q9 rt mo n5 wp T1 T2 N2 st1 d9 nm2 ln2 ams2 als2 ahs2 ars2 amem2 aend2 T2 T2 T2 Tr2 Tr2 N2 N2 HW9.out (HP2.out.ms.high L9.out HQ9.out) (HP2.out.ls.high L9.out HQ9.out) (HP2.out.hs.high L9.out HQ9.out) (HP2.out.rs.high L9.out HQ9.out) HP2.out.rnil HP2.out.rlen (fun e => by rw [HP2.out.rlen, e]; rfl) (HP2.out.mem.high L9.out HQ9.out) (HP2.out.ends.high L9.out HQ9.out) HT2s.out (by omega) hN2 HSN2.out (by omega) (fun i => by have := HSL.out i; omega)).mono ?_
  rintro e w10 ⟨rfl, hkept⟩
  have HST := hkept.stands L9.out HO9.out HQ9.out
  obtain ⟨d10, O10, Q10, HW10, L10⟩ : ∃ d O Q, Hid (WI w10 O Q rt mo n5 wp (runsTo T1 nm2 ln2 st1 N2) d) ∧ Hid (Below w7.heap.size w7 w10) := by
    obtain ⟨d, O, Q, k1, k2, k3, k4⟩ := HST
    exact ⟨d, O, Q, k1, k4⟩
  clear hkept HST HW9 HO9 HQ9 L9
  have HPRE : Hid (Pre st1 (runsTo T1 nm2 ln2 st1 N2)) := by
    have := Pre.runs hg1.out T1 nm2 ln2 0 N2
    rw [Nat.zero_add] at this
    exact this
  have HGF : Hid (Good (runsTo T1 nm2 ln2 st1 N2)) := hg1.out.runs T1 nm2 ln2 N2
  obtain ⟨F, hF⟩ : ∃ s, Hid (runsTo T1 nm2 ln2 st1 N2 = s) := ⟨_, rfl⟩
  rw [hF.out] at HW10 HPRE HGF
  have B10 := Hid.mk' (B7.out.trans (L10.out.mono B7.out.size))
  have HM1 := Hid.mk' (HP1.out.mem.below L10.out); have HE1 := Hid.mk' (HP1.out.ends.below L10.out); have HM2 := Hid.mk' (HP2.out.mem.below L10.out); have HE2 := Hid.mk' (HP2.out.ends.below L10.out); have HMO := Hid.mk' (R5.out.below L10.out)
  have hFn := HW10.out.few
  have HFS : Hid (∀ i, (F.sp i).length ≤ 1048576) := HW10.out.short
  clear HP1 HP2 R5 L10 B7
  go_wp2_with fail
  clear hmm
  refine (check_any w10 _ O10 Q10 rt mo n5 wp F d10 amem1 aend1 a5' N1 0 w10.heap.size (w10.heap.size + 1) 0 c5' _ rfl nm1 ln1 St.zero _ _ none 0 HW10.out HM1.out HE1.out HMO.out (Chk.start w10) Good.zero (by rw [hst1.out]; exact HPRE.out) (by have := HT1s.out; omega) hN1 (by omega) HSN1.out).mono ?_
  rintro e w11 ⟨ao, co, cm, ord, he, hC⟩
  rw [hst1.out] at he hC
  subst he
  have HC := Hid.mk' hC; clear hC
  obtain ⟨pb, hpb⟩ : ∃ p, Hid (w10.heap.size = p) := ⟨_, rfl⟩
  have HC' : Hid (Chk w10 w11 pb (pb + 1) ao co (0 + 2 * N1) st1 cm ord) := by show Chk w10 w11 pb (pb + 1) ao co (0 + 2 * N1) st1 cm ord; rw [← hpb.out]; exact HC.out
  rw [hpb.out]
  clear HC hpb
  go_wp2_with fail
  refine (check_any w10 w11 O10 Q10 rt mo n5 wp F d10 amem2 aend2 a5' N2 T1 pb (pb + 1) (0 + 2 * N1) c5' _ rfl nm2 ln2 st1 cm ord ao co HW10.out HM2.out HE2.out HMO.out HC'.out hg1.out (by rw [hF.out]; exact Pre.refl _) (by have := HSU2.out; omega) hN2 (by omega) HSN2.out).mono ?_
  rintro e w12 ⟨ao', co', cm', ord', he, hC⟩
  rw [hF.out] at he hC
  subst he
  have HC := Hid.mk' hC; clear hC HC'
  generalize 0 + 2 * N1 + 2 * N2 = r at *
  go_wp2_with fail
  refine (members_any (HW10.out.below HC.out.bel)).mono ?_
  rintro e w' ⟨rfl, hw⟩; subst w'
  go_wp2_with fail
  go_loopg [34] F.n (fun gk i wr => ∃ k : Nat, k + gk = F.n ∧ i = .int .i64 k ∧ Hid (Chk w10 wr pb (pb + 1) ao' co' r F cm' ord'))
  case atStart => exact ⟨0, by omega, rfl, HC⟩
  case round =>
    clear HC
    obtain ⟨k, hk, rfl, HC⟩ := hrel
    have HK := Hid.mk' hk; clear hk
    by_cases hlt : k < F.n
    · obtain ⟨g, cap, hv, _, _⟩ := HC.out.row.form (by omega)
      simp only [Value.slice.injEq] at hv
      obtain ⟨hao, hnn, hcap⟩ := hv
      clear hnn hcap
      have hrow := HC.out.row
      rw [hao] at hrow
      have c1 : wr.cell? ⟨g, k, none⟩ = some (.string (ord' k)) := by rw [hrow.cellAt k (by omega), rowOf_at hlt]; rfl
      clear hrow
      subst hao
      have hcv : Hid ((cm' (ord' k)).getD 0 = (F.sp k).length) := (HC.out.cnt (ord' k)).trans (cntOf_some (HC.out.ord k hlt))
      have hl0 := HC.out.cmap.look (ord' k) (HC.out.osz k hlt)
      have hl1 := (HC.out.cmap.keep (Keep.refl noO wr).drew (fun e => e)).look (ord' k) (HC.out.osz k hlt)
      rw [hcv.out] at hl0 hl1
      have HWd := Hid.mk' ((HW10.out.below HC.out.bel).below (Below.refl _ _).drew)
      have HWr := Hid.mk' (HW10.out.below HC.out.bel)
      have HCd := Hid.mk' (HC.out.below (Below.refl _ _).drew)
      have hfl := HFS.out k
      obtain ⟨V, hV⟩ : ∃ V, Hid ((F.sp k).length = V) := ⟨_, rfl⟩
      rw [hV.out] at hl0 hl1 hfl
      clear hcv
      have hsp : Hid (Calls Try.prog 25 #[.pointer (some ⟨wp, 0, none⟩), .int .i64 (k : Int)] wr.drew fun e w' => e = .returned (.int .i64 (V : Int)) ∧ w' = wr.drew) := by
        have := spans_any HWd.out k _ rfl hlt
        rw [hV.out] at this
        exact this
      generalize ord' k = u at *
      go_upto_region 30 with fail
      go_region_with (go_at_call 25; refine hsp.out.mono ?_; rintro e w' ⟨rfl, rfl⟩)
      all_goals go_wp2_with fail
      all_goals go_roundg (gk - 1)
      all_goals first
        | exact ⟨k + 1, by have := HK.out; omega, by go_num, HCd⟩
        | (have := HK.out; omega)
    · go_wp2_with fail
      go_ret
      exact ⟨rfl, Keep.below B10.out (Keep.of_below (O := noO) HC.out.bel) B10.out.size (fun _ _ e => e)⟩
end Go.Proofs.Qxb6000061a
