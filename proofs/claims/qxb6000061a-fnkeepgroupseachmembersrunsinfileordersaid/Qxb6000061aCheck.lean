/-
  THE WALK OF keepCheckRuns (23).
-/
import Derived.Test.Qxb6000061aCheckDefs
import Derived.Test.Qxb6000061aReads
import Derived.Test.Qxb6000061aSame
import Derived.WalkSpells
import Derived.WalkLawsBesides
import Derived.Deep.DeepCutAuto
import Derived.Deep.LoopGhost
namespace Go.Proofs.Qxb6000061a
open Go.RowKit

theorem Try.info9s : (Try.prog.info? 9).map (fun i => (i.zero, i.size, i.bytes)) = some (some (.string ⟨#[]⟩), 1, 16) := by kernel_rfl

def CheckTold (W0 : World) (pb cb r : Nat) (s : St) (e : Ending) (w' : World) : Prop := ∃ ao co cm ord, e = .returned (.tuple #[.slice ao s.n co, .bool true]) ∧ Chk W0 w' pb cb ao co r s cm ord

set_option maxRecDepth 1000000 in
set_option maxHeartbeats 4000000 in
theorem check_any (W0 w : World) (O Q : Nat → Prop) (rt : Bool) (mo : Nat → Int) (n3 wp : Nat) (F : St) (d : WData) (amem aend amo : Option Addr) (N g0 pb cb r0 cmo : Nat) (q : Int) (hq : q = g0) (nm : Nat → ByteArray) (ln : Nat → Nat) (s0 : St) (cm0 : ByteArray → Option Nat) (ord0 : Nat → ByteArray) (ao0 : Option Addr) (co0 : Nat)
    (hW : WI W0 O Q rt mo n3 wp F d) (hmem : Rd W0 noO amem N N 1 (cNm nm)) (hend : Rd W0 noO aend N N 1 (cEn ln)) (hmo : Rd W0 noO amo n3 cmo 1 (fun i => .int .i32 (mo i))) (hC : Chk W0 w pb cb ao0 co0 r0 s0 cm0 ord0) (hg : Good s0) (hP : Pre (runsTo g0 nm ln s0 N) F)
    (hsum : g0 + sumTo ln N ≤ 262144) (hN : N ≤ 65536) (hr : r0 ≤ 1048576) (hstr : ∀ i, i < N → (nm i).size ≤ maxLen) :
    Calls Try.prog 23 #[.pointer (some ⟨wp, 0, none⟩), .slice amem N N, .slice aend N N, .int .i64 q, .slice amo n3 cmo, .bool rt, .map (some pb), .map (some cb), .slice ao0 s0.n co0] w fun e w' => CheckTold W0 pb cb (r0 + 2 * N) (runsTo g0 nm ln s0 N) e w' := by
  subst hq
  have H := Hid.mk' hW; have HMEM := Hid.mk' hmem; have HEND := Hid.mk' hend; have HMO := Hid.mk' hmo; have HG := Hid.mk' hg; have HP := Hid.mk' hP; have HSUM := Hid.mk' hsum; have HSTR := Hid.mk' hstr; have HC0 := Hid.mk' hC
  have hFn := hW.few
  have HFS : Hid (∀ i, (F.sp i).length ≤ 1048576) := hW.short
  have hg0 : g0 ≤ 262144 := by omega
  clear hW hmem hend hmo hg hP hsum hstr hC
  obtain ⟨i9, hi9, hz9, hs9, hb9⟩ := info_parts Try.info9s
  have I9 := Hid.mk' (And.intro hi9 (And.intro hz9 (And.intro hs9 hb9))); clear hi9 hz9 hs9 hb9
  go_enter Try.func23, Try.ntmps23
  go_wp2_with fail
  go_loopg [8, 20, 21] N (fun gk o f i wr => ∃ (k : Nat) (ao : Option Addr) (co : Nat) (cm : ByteArray → Option Nat) (ord : Nat → ByteArray), k + gk = N ∧ i = .int .i64 k ∧ f = .int .i64 (sumTo ln k : Nat) ∧ o = .slice ao (runsTo g0 nm ln s0 k).n co ∧ Hid (Chk W0 wr pb cb ao co (r0 + 2 * k) (runsTo g0 nm ln s0 k) cm ord))
  case atStart => exact ⟨0, ao0, co0, cm0, ord0, by omega, rfl, rfl, rfl, HC0⟩
  case round =>
    clear HC0
    obtain ⟨k, ao, co, cm, ord, hk, rfl, rfl, rfl, HC⟩ := hrel
    obtain ⟨gO, rfl⟩ : ∃ x : Nat, x = gk := ⟨_, rfl⟩
    have HK := Hid.mk' hk; clear hk
    by_cases hlt : k < N
    · have HGk := Hid.mk' (HG.out.runs g0 nm ln k)
      have HPk : Hid (Pre ((runsTo g0 nm ln s0 k).add (nm k) (g0 + sumTo ln k, ln k)) F) := by
        have h1 := Pre.runs HG.out g0 nm ln (k + 1) (N - (k + 1))
        rw [show k + 1 + (N - (k + 1)) = N from by omega] at h1
        exact h1.trans HP.out
      have HADD : Hid (runsTo g0 nm ln s0 (k + 1) = (runsTo g0 nm ln s0 k).add (nm k) (g0 + sumTo ln k, ln k)) := rfl
      have hsn : (runsTo g0 nm ln s0 k).n ≤ 1048576 := by
        have h1 := (Pre.runs HG.out g0 nm ln k (N - k)).n
        rw [show k + (N - k) = N from by omega] at h1
        have h2 := HP.out.n
        omega
      have hse : g0 + (sumTo ln k + ln k) ≤ 262144 := by
        have h1 := sumTo_mono ln (show k + 1 ≤ N by omega)
        have h2 : sumTo ln (k + 1) = sumTo ln k + ln k := rfl
        have h3 := HSUM.out
        omega
      have HEN : Hid (sumTo ln (k + 1) = sumTo ln k + ln k) := rfl
      have hus := Hid.mk' (HSTR.out k hlt)
      rcases HMEM.out.cells with h0 | ⟨b1, o1, rfl, hb1, _, hc1⟩
      · exfalso; omega
      · rcases HEND.out.cells with h0 | ⟨b2, o2, rfl, hb2, _, hc2⟩
        · exfalso; omega
        · have f1 := hc1 k (by omega)
          have f2 := hc2 k (by omega)
          have e1 : Hid (cNm nm k = .string (nm k)) := rfl
          have e2 : Hid (cEn ln k = .int .i64 (((sumTo ln k : Nat) : Int) + (ln k : Int))) := by
            show Value.int .i64 ((sumTo ln (k + 1) : Nat) : Int) = _
            rw [HEN.out]; push_cast; rfl
          rw [e1.out] at f1
          rw [e2.out] at f2
          have c1 := (HC.out.bel.cell (p := ⟨b1, o1 + k, none⟩) hb1).trans f1
          have HF2 := Hid.mk' f2
          have HB2 := Hid.mk' hb2
          clear hc1 hc2 e1 e2 f1 f2 hb2 hb1
          have hr' : r0 + 2 * k ≤ 2097152 := by omega
          have HR : Hid (r0 + 2 * (k + 1) = r0 + 2 * k + 1 + 1) := by show r0 + 2 * (k + 1) = r0 + 2 * k + 1 + 1; omega
          generalize sumTo ln k = fr at *
          generalize ln k = L at *
          generalize hu : nm k = u at *
          have HU := Hid.mk' hu; clear hu
          generalize hsk : runsTo g0 nm ln s0 k = s at *
          have HSK := Hid.mk' hsk; clear hsk
          generalize r0 + 2 * k = r at *
          have hl := HC.out.pm.look_ok u hus.out
          go_upto_if 52 with fail
          clear hl
          go_cut [8, 23, 24] (fun o p _ wx => ∃ ao' co' ord', o = .slice ao' (s.place u).n co' ∧ p = .int .i64 (((s.place u).at u : Nat) : Int) ∧ Hid (Chk W0 wx pb cb ao' co' (r + 1) (s.place u) cm ord'))
          case first =>
            cases hm : s.m u with
            | some m =>
              have HMM := Hid.mk' hm; clear hm
              go_wp2_with fail
              go_meet
              case rel => exact ⟨ao, co, ord, by rw [place_old HMM.out], by rw [at_old HMM.out]; rfl, HC.out.old HMM.out⟩
            | none =>
              have HMM := Hid.mk' hm; clear hm
              obtain ⟨w1, hup, hm1, k1⟩ := HC.out.pm.update u hus.out s.n (by omega) (by omega)
              have HK1 := Hid.mk' k1; have HM1 := Hid.mk' hm1; clear k1 hm1
              have HOWN : Hid (∀ o, (w1.alloc o).ownsRow 0 9 1 (.slice ao s.n co) s.n (rowOf (cNm ord) s.n)) := fun o => (HK1.out.ownsRow HC.out.row (fun j e => by obtain ⟨x, hx, rfl⟩ := ownBlock_slice e; exact (HC.out.oblk x hx).2.1)).alloc o
              go_wp2_with (at_builtin; refine wpList_append_lies _ (by rfl) _ _ 35 (by rfl) 0 9 i9 (.string ⟨#[]⟩) 1 16 Try.underlying35 I9.out.1 I9.out.2.1 I9.out.2.2.1 I9.out.2.2.2 (by rfl) (by omega) (.slice ao s.n co) s.n (rowOf (cNm ord) s.n) (by rfl) (HOWN.out _) ⟨w1.heap.size, 0, none⟩ 1 1 [.string u] (by rfl) (by rfl) (World.news_of_block (heap_alloc_new w1 _)) (by intro u hu; simp at hu; subst hu; rfl) (by omega) (by unfold maxLen; omega) (by omega) (by omega) (w1.heap.size + 1) (by simp) ?_)
              intro g cap w2 hown2 hgrow hat hlt2
              have HN := Hid.mk' (HC.out.new HGk.out HMM.out hus.out HK1.out HM1.out hgrow hown2 hat)
              clear hown2 hgrow hat hlt2 hup
              go_wp2_with fail
              go_meet
              case rel => exact ⟨_, _, _, by rw [place_new HMM.out], by rw [at_new HMM.out], HN⟩
          case rest =>
          obtain ⟨ao', co', ord', rfl, rfl, HC'⟩ := hcut
          clear HC c1
          obtain ⟨hFm, hpF, hkF, hFx⟩ := run_at HGk.out HPk.out
          have HFM := Hid.mk' hFm; have HFX := Hid.mk' hFx; clear hFm hFx
          have HPU : Hid ((s.place u).m u = some ((s.place u).at u)) := at_some u
          have HGp := Hid.mk' (HGk.out.place u)
          have HADD2 : Hid (runsTo g0 nm ln s0 (k + 1) = (s.place u).push ((s.place u).at u) (g0 + fr, L)) := HADD.out
          have hcn : Hid ((cm u).getD 0 = cntOf s u) := (HC'.out.cnt u).trans (cntOf_place HGk.out u u)
          have hFl := HFS.out ((s.place u).at u)
          generalize (s.place u).at u = p at *
          generalize s.place u = sp at *
          rw [← hcn.out] at hkF HFX
          have HCM : Hid ((cm u).getD 0 = (cm u).getD 0) := rfl
          have hl2 := HC'.out.cmap.look u hus.out
          obtain ⟨w1, hup, hm1, k1⟩ := HC'.out.cmap.update u hus.out ((cm u).getD 0 + 1) (by omega) (by omega)
          have HC2 := Hid.mk' (HC'.out.count HGp.out HPU.out (g0 + fr, L) k1 hm1)
          clear k1 hm1 HC' HADD HPk HGk HCM hcn
          rw [← HADD2.out] at HC2
          generalize updM cm u ((cm u).getD 0 + 1) = cm' at *
          generalize (cm u).getD 0 = kk at *
          rw [show ((kk + 1 : Nat) : Int) = (kk : Int) + 1 from by push_cast; rfl] at hup
          have hkk : kk ≤ 1048576 := by omega
          go_wp2_with fail
          clear hl2 hup
          refine (place_any (H.out.below HC2.out.bel) u hus.out).mono ?_
          rintro e w' ⟨he, hw⟩; subst w'
          rw [HFM.out] at he
          simp only [Option.getD_some, Option.isSome_some] at he
          subst he
          go_wp2_with fail
          refine (members_any (H.out.below HC2.out.bel)).mono ?_
          rintro e w' ⟨rfl, hw⟩; subst w'
          go_wp2_with fail
          refine (spans_any (H.out.below HC2.out.bel) p _ rfl hpF).mono ?_
          rintro e w' ⟨rfl, hw⟩; subst w'
          have c2 := (HC2.out.bel.cell (p := ⟨b2, o2 + k, none⟩) HB2.out).trans HF2.out
          have hd : decide (((F.sp p).length : Int) ≤ (kk : Int)) = false := by simp; omega
          go_upto_region 19 with fail
          rw [show (fr : Int) + (L : Int) - (fr : Int) = (L : Int) from by omega]
          clear c2 hd
          go_wp2_with fail
          refine (spanLen_any (H.out.below HC2.out.bel) p kk _ _ rfl rfl (g0 + fr, L) hpF HFX.out).mono ?_
          rintro e w' ⟨rfl, hw⟩; subst w'
          go_wp2_with fail
          refine (ratesLen_any (H.out.below HC2.out.bel) p kk _ _ rfl rfl (g0 + fr, L) hpF HFX.out).mono ?_
          rintro e w' ⟨rfl, hw⟩; subst w'
          go_upto_if 116 with fail
          go_cut [29] (fun _ wx => wx = w1)
          case first =>
            cases rt with
            | true =>
              have hrl : rlOf true L = (L : Int) := rfl
              go_wp2_with fail
              go_meet
              case rel => rfl
            | false =>
              have hrl : rlOf false L = -1 := rfl
              go_wp2_with fail
              go_meet
              case rel => rfl
          case rest =>
          subst hcut
          go_wp2_with fail
          go_loopg [30] L (fun gj i wr => ∃ j : Nat, j + gj = L ∧ i = .int .i64 j ∧ Hid (Chk W0 wr pb cb ao' co' (r + 1 + 1) (runsTo g0 nm ln s0 (k + 1)) cm' ord'))
          case atStart => exact ⟨0, by omega, rfl, HC2⟩
          case round =>
            clear HC2
            obtain ⟨j, hj, rfl, HC2⟩ := hrel
            have HJ := Hid.mk' hj; clear hj
            by_cases hlj : j < L
            · obtain ⟨wb, rfl⟩ : ∃ wo : World, wo = wr := ⟨_, rfl⟩
              obtain ⟨G, hG⟩ : ∃ G, Hid (g0 + fr + j = G) := ⟨_, rfl⟩
              have hGb : G ≤ 1048576 := by have := hG.out; omega
              have HGI : Hid ((g0 : Int) + (fr : Int) + (j : Int) = (G : Int)) := by show (g0 : Int) + (fr : Int) + (j : Int) = (G : Int); have := hG.out; omega
              go_upto_region 31 with fail
              rw [HGI.out]
              go_wp2_with fail
              refine (rowAt_any (H.out.below HC2.out.bel) p kk j _ _ _ rfl rfl rfl (g0 + fr, L) hpF HFX.out hlj).mono ?_
              rintro e w2 ⟨he, hb2⟩
              have he2 : e = .returned (.tuple #[.int .i32 (mon mo n3 (g0 + fr + j)), .int .u32 ((g0 + fr + j : Nat) : Int), .int .i64 (((g0 + fr + j : Nat) : Int) * 3 + 1)]) := he
              rw [hG.out] at he2
              clear he
              subst he2
              have HC3 := Hid.mk' (HC2.out.below hb2)
              clear hb2 HC2
              go_wp2_with fail
              refine (month_any w2 noO amo n3 cmo G mo _ rfl (HMO.out.below HC3.out.bel) hGb).mono ?_
              rintro e w' ⟨rfl, hw⟩; subst w'
              generalize mon mo n3 G = v0 at *
              go_wp2_with fail
              refine (hours_any w2 G _ rfl hGb).mono ?_
              rintro e w' ⟨rfl, hw⟩; subst w'
              cases rt with
              | false =>
                go_wp2_with fail
                go_roundg (gk - 1)
                case measure => have := HJ.out; omega
                case rel => exact ⟨j + 1, by have := HJ.out; omega, by go_num, HC3⟩
              | true =>
                go_wp2_with fail
                refine (rateAt_any (H.out.below HC3.out.bel) p kk j _ _ _ rfl rfl rfl (g0 + fr, L) hpF HFX.out hlj).mono ?_
                rintro e w' ⟨he, hw⟩; subst w'
                have he2 : e = .returned (.int .i64 (((g0 + fr + j : Nat) : Int) * 5 + 2)) := he
                rw [hG.out] at he2
                clear he
                subst he2
                go_wp2_with fail
                refine (rate_any w2 G _ rfl hGb).mono ?_
                rintro e w' ⟨rfl, hw⟩; subst w'
                go_wp2_with fail
                go_roundg (gk - 1)
                case measure => have := HJ.out; omega
                case rel => exact ⟨j + 1, by have := HJ.out; omega, by go_num, HC3⟩
            · have c2 := (HC2.out.bel.cell (p := ⟨b2, o2 + k, none⟩) HB2.out).trans HF2.out
              go_wp2_with fail
              go_roundg (gO - 1)
              case measure => have := HK.out; omega
              case rel =>
                exact ⟨k + 1, ao', co', cm', ord', by have := HK.out; omega, by go_num, by rw [HEN.out]; push_cast; rfl, by rw [HADD2.out]; rfl, by rw [HR.out]; exact HC2⟩
    · obtain rfl : N = k := by have := HK.out; omega
      go_wp2_with fail
      go_ret2
      exact ⟨_, _, _, _, rfl, HC.out⟩
end Go.Proofs.Qxb6000061a
