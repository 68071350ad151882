/-
  THE WALK OF (*Work).keep (42).
-/
import Derived.Test.Qxb6000061aKeepDefs
import Derived.Test.Qxb6000061aRegion12
import Derived.WalkSpells
import Derived.WalkLawsBesides
import Derived.Deep.RegionHeld3
import Derived.Deep.DeepCutAuto
import Derived.Deep.LoopGhost
namespace Go.Proofs.Qxb6000061a
open Go.RowKit

theorem Try.info90 : (Try.prog.info? 90).map (fun i => (i.zero, i.size, i.bytes)) = some (some (.slice none 0 0), 1, 24) := by kernel_rfl

set_option maxRecDepth 1000000 in
set_option maxHeartbeats 1000000 in
theorem keep_any (w : World) (O Q : Nat → Prop) (rt : Bool) (mo : Nat → Int) (n3 wp pp gb T N : Nat) (st : St) (d : WData) (nm : Nat → ByteArray) (ln : Nat → Nat) (rg tg ug : Nat) (ta : Option Addr) (tn : Nat)
    (h : WI w O Q rt mo n3 wp st d) (hp : PartIn w Q rt mo n3 gb T N pp nm ln (some ⟨rg, 0, none⟩) T ta tn tn (some ⟨ug, 0, none⟩) N) (hta : (rt = true → ta = some ⟨tg, 0, none⟩ ∧ tn = T) ∧ (rt = false → ta = none ∧ tn = 0)) (hfew : st.n + N ≤ 1048576) (hshort : ∀ i, (st.sp i).length + N ≤ 1048576) :
    Calls Try.prog 42 #[.pointer (some ⟨wp, 0, none⟩), .pointer (some ⟨pp, 0, none⟩)] w fun e w' => e = .returned (.tuple #[]) ∧ Kept w w' O Q rt mo n3 wp (runsTo gb nm ln st N) := by
  have H := Hid.mk' h; clear h
  have hc3 := hp.c3
  have hcnt := hp.cnt
  have HP := Hid.mk' hp; clear hp
  have HF := Hid.mk' hshort; clear hshort
  have HTA := Hid.mk' hta; clear hta
  obtain ⟨i90, hi90, hz90, hs90, hb90⟩ := info_parts Try.info90
  have I90 := Hid.mk' (And.intro hi90 (And.intro hz90 (And.intro hs90 hb90))); clear hi90 hz90 hs90 hb90
  go_enter Try.func42, Try.ntmps42
  go_wp2_with fail
  clear hc3
  go_loopg [4, 15] N (fun gk f i wr => ∃ k : Nat, k + gk = N ∧ i = .int .i64 k ∧ f = .int .i64 (sumTo ln k : Nat) ∧ Hid (Kept w wr O Q rt mo n3 wp (runsTo gb nm ln st k)))
  case atStart => exact ⟨0, by omega, rfl, rfl, d, O, Q, H.out, fun _ e => .inl e, fun _ e => .inl e, fun _ e => e, fun _ e => e, Keep.refl _ _⟩
  case round =>
    obtain ⟨k, hk, rfl, rfl, d1, O1, Q1, W1, hO1, hQ1, hO1', hQ1', K1⟩ := hrel
    have HK := Hid.mk' hk; clear hk
    by_cases hlt : k < N
    · have HP1 := Hid.mk' (HP.out.later K1 (fun j e => W1.oq j (hO1' j e)) (fun j hj e => (hQ1 j e).elim (fun e => e) (fun e => by omega)))
      have HW1 := Hid.mk' W1; clear W1
      have HK1 := Hid.mk' (And.intro hO1 (And.intro hQ1 (And.intro hO1' (And.intro hQ1' K1)))); clear hO1 hQ1 hO1' hQ1' K1
      rcases HP1.out.runs.cells with h0 | ⟨ub, uo, hua, hub, hubq, hc⟩
      · exfalso; omega
      · simp only [Option.some.injEq, Addr.mk.injEq, and_true] at hua
        obtain ⟨rfl, rfl⟩ := hua
        simp only [Nat.zero_add] at hc
        have e0 := hc (k * 4) (by omega)
        have e1 := hc (k * 4 + 1) (by omega)
        have e2 := hc (k * 4 + 2) (by omega)
        have e3 := hc (k * 4 + 3) (by omega)
        rw [cRun0] at e0
        rw [cRun1] at e1
        rw [cRun2] at e2
        rw [cRun3] at e3
        clear hc
        go_upto_region 3 with fail
        go_cut [6] (fun p wc => ∃ bx, p = .pointer (some ⟨bx, 0, none⟩) ∧ Hid (Mid w wc O Q O1 Q1 rt mo n3 wp pp gb T N nm ln (some ⟨rg, 0, none⟩) T ta tn tn (some ⟨ug, 0, none⟩) N (runsTo gb nm ln st k) d1 bx (nm k) (sumTo ln (k + 1))))
        case first =>
          go_wp2_with fail
          go_meet
          case rel =>
            refine ⟨_, rfl, ?_⟩
            have hb : Below wr.heap.size wr (wr.alloc (.cells #[.string (nm k), .int .i64 0, .bool false, .int .i64 ((sumTo ln (k + 1) : Nat) : Int)] 80)) := (Below.refl _ _).alloc (Nat.le_refl _) _
            refine { wi := HW1.out.below hb, part := HP1.out.later (Keep.of_below (O := noO) hb) (fun _ e => e.elim) (fun _ _ e => e), o1 := HK1.out.1, q1 := HK1.out.2.1, o2 := HK1.out.2.2.1, q2 := HK1.out.2.2.2.1, keep := HK1.out.2.2.2.2.trans (Keep.of_below (O := noO) hb) (fun _ _ e => e.elim), bxq := fun e => by have := HW1.out.lt _ e; omega, bxlt := by simp, b0 := ?_, b3 := ?_ }
            · rw [cell_of_row _ wr.heap.size 0 _ 80 (0, 0) (heap_alloc_new wr _)]; rfl
            · rw [cell_of_row _ wr.heap.size 3 _ 80 (0, 0) (heap_alloc_new wr _)]; rfl
        case rest =>
        obtain ⟨bx, rfl, HM⟩ := hcut
        clear HP1 HW1 HK1 e0 e1 e2 e3 hub hubq
        have c2 := HM.out.wi.cell2
        have b0 := HM.out.b0
        have hl := MapAt.look_ok (w := wc.drew) (HM.out.wi.map.keep (Keep.refl noO wc).drew (fun e => e)) (nm k) (HM.out.part.str k hlt)
        have HMLT := Hid.mk' HM.out.wi.mlt
        have HSKN : Hid ((runsTo gb nm ln st k).n < 1048576) := by have := runsTo_n gb nm ln st k; exact (by omega : (runsTo gb nm ln st k).n < 1048576)
        have HSKL : Hid (∀ i, ((runsTo gb nm ln st k).sp i).length < 1048576) := fun i => by have h1 := runsTo_len gb nm ln st i k; have h2 := HF.out i; omega
        have HADD : Hid (runsTo gb nm ln st (k + 1) = (runsTo gb nm ln st k).add (nm k) (gb + sumTo ln k, ln k)) := rfl
        generalize runsTo gb nm ln st k = sk at *
        generalize hs : nm k = s at *
        have HS := Hid.mk' hs; clear hs
        go_upto_region 4 with fail
        go_region
        clear c2 b0 hl
        go_upto_if 30 with fail
        go_cut [7, 8] (fun mi _ wd => ∃ O2 Q2 d2, mi = .int .i64 (((sk.place s).at s : Nat) : Int) ∧ Hid (Mid w wd O Q O2 Q2 rt mo n3 wp pp gb T N nm ln (some ⟨rg, 0, none⟩) T ta tn tn (some ⟨ug, 0, none⟩) N (sk.place s) d2 bx s (sumTo ln (k + 1))))
        case first =>
          have HMd := Hid.mk' (HM.out.below ((Below.refl _ _).drew))
          cases hm : sk.m s with
          | some m =>
            have HMM := Hid.mk' hm; clear hm
            go_wp2_with fail
            go_meet
            case rel => exact ⟨O1, Q1, d1, by rw [at_old HMM.out]; rfl, by rw [place_old HMM.out]; exact HMd⟩
          | none =>
            have HMM := Hid.mk' hm; clear hm
            have c3 := HM.out.wi.cell3
            have c2 := HM.out.wi.cell2
            have b0 := HM.out.b0
            have hwf := HM.out.wi.few
            have k0 := (Keep.refl noO wc).drew.drew
            obtain ⟨w1, hup, hm1, k1⟩ := MapAt.update (w := wc.drew.drew) (HM.out.wi.map.keep k0 (fun e => e)) s (by have := HM.out.part.str k hlt; rw [HS.out] at this; exact this) sk.n (by omega) (by omega)
            have c3' := ((k1.cell (p := ⟨wp, 3, none⟩) HM.out.wi.wplt (fun e => HM.out.wi.wpmb e)).trans c3)
            have HK1 := Hid.mk' k1; have HM1 := Hid.mk' hm1; clear k1 hm1 k0
            go_upto_region 7 with fail
            go_region
            clear hup c2 c3 b0
            have HOWN : Hid (∀ o, (w1.alloc o).ownsRow 0 90 1 (.slice d1.sa sk.n d1.scap) sk.n (rowOf (d1.cell sk) sk.n)) := fun o => (HK1.out.ownsRow (show wc.drew.drew.ownsRow 0 90 1 (.slice d1.sa sk.n d1.scap) sk.n (rowOf (d1.cell sk) sk.n) from HM.out.wi.spans) (fun j e => by obtain ⟨x, hx, rfl⟩ := ownBlock_slice e; exact (HM.out.wi.sblk x hx).2.2)).alloc o
            have hf3 : w1.frozen? ⟨wp, 3, none⟩ = false := (HK1.out.frozen (p := ⟨wp, 3, none⟩) HM.out.wi.wplt (fun e => HM.out.wi.wpmb e)).trans (HM.out.wi.frz 3)
            have hwl : Hid (wp < w1.heap.size) := Nat.lt_of_lt_of_le HM.out.wi.wplt HK1.out.size
            have hwo : Hid ((Value.slice d1.sa sk.n d1.scap).ownBlock ≠ some wp) := fun e => by obtain ⟨x, hx, e'⟩ := ownBlock_slice e; exact (HM.out.wi.sblk x hx).2.1 e'
            have hskn := HSKN.out
            go_wp2_with (at_builtin; refine wpList_append_lies _ (by rfl) _ _ 71 (by rfl) 0 90 i90 (.slice none 0 0) 1 24 Try.underlying71 I90.out.1 I90.out.2.1 I90.out.2.2.1 I90.out.2.2.2 (by rfl) (by omega) (.slice d1.sa sk.n d1.scap) sk.n (rowOf (d1.cell sk) sk.n) (by rfl) (HOWN.out _) ⟨w1.heap.size, 0, none⟩ 1 1 [.slice none 0 0] (by rfl) (by rfl) (World.news_of_block (heap_alloc_new w1 _)) (by intro u hu; simp at hu; subst hu; rfl) (by omega) (by unfold maxLen; omega) (by omega) (by omega) (w1.heap.size + 1) (by simp) ?_)
            intro g cap w2 hown2 hgrow hat hlt2
            have c3'' := (hgrow.cell_far ⟨wp, 3, none⟩ (by have := hwl.out; simp; omega) (fun e => hwo.out e.symm)).trans ((World.cell?_alloc_lt _ _ _ (by exact hwl.out)).trans c3')
            have f3'' := (hgrow.frozen_far ⟨wp, 3, none⟩ (by have := hwl.out; simp; omega) (fun e => hwo.out e.symm)).trans ((World.frozen?_alloc_old _ _ _ (Nat.ne_of_lt hwl.out)).trans hf3)
            have HMn := Hid.mk' (HM.out.newName HMM.out hskn (((Keep.refl (fun k => k = d1.mb) wc).drew.drew).trans HK1.out (fun _ _ e => e)) HM1.out hgrow hown2 hat)
            clear hown2 hgrow hat hlt2 c3' hf3
            go_wp2_with fail
            go_meet
            case rel => exact ⟨_, _, _, by rw [at_new HMM.out], HMn⟩
        case rest =>
        obtain ⟨O2, Q2, d2, rfl, HM2⟩ := hcut
        clear HM HSKN
        have hlt2 : Hid ((sk.place s).at s < (sk.place s).n) := at_lt HMLT.out s
        have hshort2 : Hid (((sk.place s).sp ((sk.place s).at s)).length < 1048576) := by have h1 := place_len sk s ((sk.place s).at s); have h2 := HSKL.out ((sk.place s).at s); exact Nat.lt_of_le_of_lt h1 h2
        have HADD2 : Hid (runsTo gb nm ln st (k + 1) = (sk.place s).push ((sk.place s).at s) (gb + sumTo ln k, ln k)) := HADD.out
        clear HADD
        generalize sk.place s = sp at *
        generalize sp.at s = m at *
        have p1 := HM2.out.part.c1
        have b3 := HM2.out.b3
        have hse : sumTo ln (k + 1) ≤ T := Nat.le_trans (sumTo_mono ln (by omega)) HM2.out.part.sum
        have hsk : sumTo ln k ≤ sumTo ln (k + 1) := sumTo_mono ln (by omega)
        have htt := HM2.out.part.tot
        generalize hfr : sumTo ln k = fr at *
        generalize hen : sumTo ln (k + 1) = en at *
        have HFR := Hid.mk' hfr; clear hfr
        have HEN := Hid.mk' hen; clear hen
        have q1 := World.new_ne wc ⟨pp, 1, none⟩ p1
        have q2 := World.new_ne wc ⟨bx, 3, none⟩ b3
        go_upto_region 9 with fail
        go_cut [9] (fun p we => ∃ sx A, p = .pointer (some ⟨sx, 0, none⟩) ∧ Hid (A = cutA rg fr en 3) ∧ Hid (Box w we O2 (plus Q2 sx) bx pp sx (.slice A (en - fr) (en - fr)) (.slice none 0 0)) ∧ Hid (Mid w we O Q O2 (plus Q2 sx) rt mo n3 wp pp gb T N nm ln (some ⟨rg, 0, none⟩) T ta tn tn (some ⟨ug, 0, none⟩) N sp d2 bx s en))
        case first =>
          by_cases heq : en = fr
          · subst heq
            go_region_held3 (fun w' => w'.cell? ⟨pp, 1, none⟩ = some (.slice (some ⟨rg, 0, none⟩) T T) ∧ w'.cell? ⟨bx, 3, none⟩ = some (.int .i64 (en : Int))) (go_keep) (fail)
            go_wp2_with fail
            go_meet
            case rel =>
              have hb : Below wc.heap.size wc (wc.alloc (.cells #[.slice (some ⟨rg, 0, none⟩) 0 0, .slice none 0 0] 92)).drew := ((Below.refl _ _).alloc (Nat.le_refl _) _).drew
              refine ⟨_, some ⟨rg, 0, none⟩, rfl, (cutA_same _ _ _).symm, ?_, HM2.out.addQ hb (Nat.le_refl _) (by simp)⟩
              rw [Nat.sub_self]
              refine ⟨.inr rfl, (fun e => by have := HM2.out.wi.lt _ (HM2.out.wi.oq _ e); omega), HM2.out.keep.size, (by have := HM2.out.bxlt; omega), (by have := HM2.out.part.plt; omega), by simp, ?_, ?_, ?_⟩
              · exact (cell_of_row _ wc.heap.size 0 _ 92 (0, 0) (heap_alloc_new wc _)).trans rfl
              · exact (cell_of_row _ wc.heap.size 1 _ 92 (0, 0) (heap_alloc_new wc _)).trans rfl
              · exact frozen_of_row _ wc.heap.size 1 _ 92 (heap_alloc_new wc _)
          · go_region_held3 (fun w' => w'.cell? ⟨pp, 1, none⟩ = some (.slice (some ⟨rg, 0, none⟩) T T) ∧ w'.cell? ⟨bx, 3, none⟩ = some (.int .i64 (en : Int))) (go_keep) (fail)
            go_wp2_with fail
            go_meet
            case rel =>
              have hb : Below wc.heap.size wc (wc.alloc (.cells #[.slice (some ⟨rg, fr * 3, none⟩) (en - fr) (en - fr), .slice none 0 0] 92)).drew := ((Below.refl _ _).alloc (Nat.le_refl _) _).drew
              refine ⟨_, some ⟨rg, fr * 3, none⟩, rfl, (cutA_ne heq).symm, ?_, HM2.out.addQ hb (Nat.le_refl _) (by simp)⟩
              refine ⟨.inr rfl, (fun e => by have := HM2.out.wi.lt _ (HM2.out.wi.oq _ e); omega), HM2.out.keep.size, (by have := HM2.out.bxlt; omega), (by have := HM2.out.part.plt; omega), by simp, ?_, ?_, ?_⟩
              · exact (cell_of_row _ wc.heap.size 0 _ 92 (0, 0) (heap_alloc_new wc _)).trans rfl
              · exact (cell_of_row _ wc.heap.size 1 _ 92 (0, 0) (heap_alloc_new wc _)).trans rfl
              · exact frozen_of_row _ wc.heap.size 1 _ 92 (heap_alloc_new wc _)
        case rest =>
        obtain ⟨sx, A, rfl, HA, HB, HM3⟩ := hcut
        clear HM2 p1 b3 q1 q2
        have p2 := HM3.out.part.c2
        have hnn := fun wx => run_neq_slice_nil_any (P := Try.prog) wx 77 32 ta tn tn 0 0 Try.underlying77
        go_upto_if 67 with fail
        generalize plus Q2 sx = Q3 at *
        go_cut [] (fun wf => ∃ rv tv, Hid (SpanIs wf Q3 rt mo n3 rv tv (gb + fr, en - fr)) ∧ Hid (Box w wf O2 Q3 bx pp sx rv tv) ∧ Hid (Mid w wf O Q O2 Q3 rt mo n3 wp pp gb T N nm ln (some ⟨rg, 0, none⟩) T ta tn tn (some ⟨ug, 0, none⟩) N sp d2 bx s en))
        case first =>
          clear hnn
          cases rt with
          | false =>
            obtain ⟨hta, htn⟩ := HTA.out.2 rfl
            subst hta htn
            go_wp2_with fail
            go_meet
            case rel => exact ⟨_, _, (by rw [HA.out]; exact span_no HM3.out.part hsk hse), HB, HM3⟩
          | true =>
            obtain ⟨hta, htn⟩ := HTA.out.1 rfl
            subst hta htn
            have b3 := HM3.out.b3
            have s1 := HB.out.c1
            have s1f := HB.out.f1
            have nb := HB.out.nb
            have np := HB.out.np
            have hk1 : ∀ v, (wc.setCell ⟨sx, 1, none⟩ v).cell? ⟨pp, 2, none⟩ = some (.slice (some ⟨tg, 0, none⟩) tn tn) := fun v => (keep_setCell.cell (p := ⟨pp, 2, none⟩) HM3.out.part.plt np).trans p2
            have hk2 : ∀ v, (wc.setCell ⟨sx, 1, none⟩ v).cell? ⟨bx, 3, none⟩ = some (.int .i64 (en : Int)) := fun v => (keep_setCell.cell (p := ⟨bx, 3, none⟩) HM3.out.bxlt nb).trans b3
            have hd1 : ∀ v, Hid (Box w (wc.setCell ⟨sx, 1, none⟩ v).drew O2 Q3 bx pp sx (.slice A (en - fr) (en - fr)) v) := fun v => HB.out.set v
            have hd2 : ∀ v, Hid (Mid w (wc.setCell ⟨sx, 1, none⟩ v).drew O Q O2 Q3 true mo n3 wp pp gb tn N nm ln (some ⟨rg, 0, none⟩) tn (some ⟨tg, 0, none⟩) tn tn (some ⟨ug, 0, none⟩) N sp d2 bx s en) := fun v => (HM3.out.boxed HB.out.q HB.out.o HB.out.far).below ((Below.refl _ _).drew)
            by_cases heq : en = fr
            · subst heq
              go_upto_region 11 with fail
              go_region_held3 (fun w' => w'.cell? ⟨pp, 2, none⟩ = some (.slice (some ⟨tg, 0, none⟩) tn tn) ∧ w'.cell? ⟨bx, 3, none⟩ = some (.int .i64 (en : Int))) (go_keep) (fail)
              go_wp2_with fail
              go_meet
              case rel => exact ⟨_, _, (by have := span_yes (hd2 (.slice (some ⟨tg, 0, none⟩) 0 0)).out.part hsk hse; rw [← HA.out, show Value.slice (cutA tg en en 1) (en - en) (en - en) = .slice (some ⟨tg, 0, none⟩) 0 0 from by rw [cutA_same, Nat.sub_self]] at this; exact this), hd1 _, hd2 _⟩
            · go_upto_region 11 with fail
              go_region_held3 (fun w' => w'.cell? ⟨pp, 2, none⟩ = some (.slice (some ⟨tg, 0, none⟩) tn tn) ∧ w'.cell? ⟨bx, 3, none⟩ = some (.int .i64 (en : Int))) (go_keep) (fail)
              go_wp2_with fail
              go_meet
              case rel => exact ⟨_, _, (by have := span_yes (hd2 (.slice (some ⟨tg, fr, none⟩) (en - fr) (en - fr))).out.part hsk hse; rw [← HA.out, show Value.slice (cutA tg fr en 1) (en - fr) (en - fr) = .slice (some ⟨tg, fr, none⟩) (en - fr) (en - fr) from by rw [cutA_ne heq, Nat.mul_one]] at this; exact this), hd1 _, hd2 _⟩
        case rest =>
        obtain ⟨rv, tv, HSP, HB2, HM4⟩ := hcut
        clear HM3 HB HA p2 hnn
        obtain ⟨sg, hsa, hsgl, hcm, hfm⟩ := HM4.out.wi.spansAt (by have := hlt2.out; omega)
        have c3 := HM4.out.wi.cell3
        rw [hsa] at c3
        have cm := hcm m hlt2.out
        have hdc : Hid (d2.cell sp m = .slice (d2.va m) (sp.sp m).length (d2.vcap m)) := rfl
        rw [hdc.out] at cm
        have fm := hfm m
        have HSA := Hid.mk' hsa
        clear hcm hfm hsa
        have s0 := HB2.out.c0
        have s1 := HB2.out.c1
        obtain ⟨ra, rn, rc, hrv⟩ : ∃ a n c, rv = .slice a n c := by obtain ⟨a, c, h, _⟩ := HSP.out.rows; exact ⟨_, _, _, h⟩
        obtain ⟨ta', tn', tc', htv⟩ : ∃ a n c, tv = .slice a n c := by obtain ⟨a, n, c, h, _⟩ := HSP.out.rates; exact ⟨_, _, _, h⟩
        subst hrv htv
        have q1 := World.new_ne wc ⟨wp, 3, none⟩ c3
        have q2 := World.new_ne wc ⟨sg, m, none⟩ cm
        have q3 := World.new_ne wc ⟨sx, 0, none⟩ s0
        have hm0 : (m : Int) < (sp.n : Int) := by have := hlt2.out; omega
        have HOWN := Hid.mk' (HM4.out.wi.inner m hlt2.out)
        rw [hdc.out] at HOWN
        have hL : Hid ((sp.sp m).length < 1048576) := hshort2.out
        have HNB : Hid (∀ b, (Value.slice (d2.va m) (sp.sp m).length (d2.vcap m)).ownBlock = some b → b ≠ wp ∧ b ≠ sg) := fun b e => by
          obtain ⟨x, hx, rfl⟩ := ownBlock_slice e
          have := HM4.out.wi.iblk m hlt2.out x hx
          exact ⟨this.2.1, this.2.2.2 _ HSA.out⟩
        go_upto_region 12 with fail
        go_cut [] (fun wg => ∃ O3 Q4 d3, Hid (Mid w wg O Q O3 Q4 rt mo n3 wp pp gb T N nm ln (some ⟨rg, 0, none⟩) T ta tn tn (some ⟨ug, 0, none⟩) N (sp.push m (gb + fr, en - fr)) d3 bx s en))
        case first =>
          refine Only.out (region12 (R := fun a' w' => Exit.then _ _ .normal a' w') wc wp sx sg m sp.n d2.scap (sp.sp m).length (d2.vcap m) (d2.va m) ra rn rc ta' tn' tc' (rowOf (d2.two m) ((sp.sp m).length * 2)) _ _ _ _ _ _ _ _ _ _ _ _ _ _ _ _ _ _ _ _ _ _ _ _ _ _ _ _ _ _ _ _ _ _ _ _ _ _ _ _ _ _ _ _ _ _ _ _ _ _ _ _ _ _ _ _ _ _ _ _ _ _ _ _ _ _ _ _ _ _ _ _ _ _ _ _ _ _ _ _ _ _ _ _ _ _ _ _ _ _ _ _ _ _ _ c3 cm fm s0 s1 hlt2.out hL.out HOWN.out HNB.out ?_) (fun _ _ h => h)
          intro v79 v80 v81 v82 v83 v84 v85 v86 v87 v88 v89 v90 v91 v92 v93 v94 g cap w2 hgrow hown2 hat
          have HMp := Hid.mk' (HM4.out.push hlt2.out HSP.out hL.out HSA.out hgrow hown2 hat)
          clear hgrow hown2 hat
          go_wp2_with fail
          go_meet
          case rel => exact ⟨_, _, _, HMp⟩
        case rest =>
        obtain ⟨O3, Q4, d3, HM5⟩ := hcut
        clear HM4 HOWN HNB c3 cm fm s0 s1 q1 q2 q3 HSP HB2
        have b3 := HM5.out.b3
        go_wp2_with fail
        go_roundg (gk - 1)
        case measure => have := HK.out; omega
        case rel =>
          refine ⟨k + 1, by have := HK.out; omega, by go_num, by rw [HEN.out], ?_⟩
          have hln : en - fr = ln k := by rw [← HEN.out, ← HFR.out]; show sumTo ln k + ln k - sumTo ln k = ln k; omega
          have hm5 := HM5.out
          rw [hln] at hm5
          have e := HADD2.out
          rw [e]
          exact ⟨d3, O3, Q4, hm5.wi, hm5.o1, hm5.q1, hm5.o2, hm5.q2, hm5.keep⟩
    · obtain rfl : N = k := by have := HK.out; omega
      go_wp2_with fail
      go_end0
      exact ⟨rfl, d1, O1, Q1, W1, hO1, hQ1, hO1', hQ1', K1⟩
end Go.Proofs.Qxb6000061a
