/-
  THE WALK OF FnKeepSplittingAPartAtARunChangesNothing (5).
-/
import Derived.Test.Qxb6000061aCuts
import Derived.Test.Qxb6000061aSame
import Derived.Test.Qxb6000061aClones
import Derived.Test.Qxb6000061aGuards
import Derived.Test.Qxb6000061aPart
import Derived.WalkSpells
import Derived.WalkLawsBesides
import Derived.Deep.DeepCutAuto
import Derived.Deep.RegionWith
namespace Go.Proofs.Qxb6000061a
open Go.RowKit

def RatesAre (w : World) (rt : Bool) (g T : Nat) (a : Option Addr) (n c : Nat) : Prop := Rd w noO a n c 1 (cRs g) ∧ a.isNone = !rt ∧ n = (if rt = true then T else 0) ∧ (rt = false → c = 0)
/-- the second Work, as it stands; what was there before it is as it was -/
def Stands (w8 wx : World) (rt : Bool) (mo : Nat → Int) (n3 wp : Nat) (st : St) : Prop :=
  ∃ d O Q, WI wx O Q rt mo n3 wp st d ∧ (∀ k, O k → w8.heap.size ≤ k) ∧ (∀ k, Q k → w8.heap.size ≤ k) ∧ Below w8.heap.size w8 wx
theorem Kept.stands {w8 w9 w' : World} {O Q : Nat → Prop} {rt : Bool} {mo : Nat → Int} {n3 wp : Nat} {st : St} (h : Kept w9 w' O Q rt mo n3 wp st) (hb : Below w8.heap.size w8 w9) (hO : ∀ k, O k → w8.heap.size ≤ k) (hQ : ∀ k, Q k → w8.heap.size ≤ k) : Stands w8 w' rt mo n3 wp st := by
  obtain ⟨d, O', Q', k1, k2, k3, _, _, k6⟩ := h
  have hsz := hb.size
  exact ⟨d, O', Q', k1, fun k e => (k2 k e).elim (hO k) (fun e => by omega), fun k e => (k3 k e).elim (hQ k) (fun e => by omega), Keep.below hb k6 hsz (fun k hk e => by have := hO k e; omega)⟩
theorem Rd.high {w w' : World} {Q : Nat → Prop} {a : Option Addr} {n cap sz : Nat} {c : Nat → Value} (h : Rd w noO a n cap sz c) (hb : Below w.heap.size w w') (hQ : ∀ k, Q k → w.heap.size ≤ k) : Rd w' Q a n cap sz c :=
  (h.weaken (fun k hk e => by have := hQ k e; omega)).below hb

set_option maxRecDepth 1000000 in
set_option maxHeartbeats 4000000 in
theorem split_any (w : World) (a1 : Option Addr) (n1 c1 : Nat) (nm : Nat → ByteArray) (a2 : Option Addr) (n2 c2 : Nat) (ln : Nat → Nat) (t : Nat) (a3 : Option Addr) (n3 c3 : Nat) (mo : Nat → Int) (ct : Nat) (rt : Bool)
    (h1 : Rd w noO a1 n1 c1 1 (fun i => .string (nm i))) (hs : ∀ i, i < n1 → (nm i).size ≤ maxLen) (h2 : Rd w noO a2 n2 c2 1 (fun i => .int .u16 (ln i : Nat))) (hl : ∀ i, i < n2 → ln i ≤ 65535) (h3 : Rd w noO a3 n3 c3 1 (fun i => .int .i32 (mo i))) (ht : t ≤ 255) (hct : ct ≤ 65535) :
    Calls Try.prog 5 #[.slice a1 n1 c1, .slice a2 n2 c2, .int .u8 t, .slice a3 n3 c3, .int .u16 ct, .bool rt] w fun e w' => e = .returned (.bool true) ∧ Below w.heap.size w w' := by
  obtain ⟨i3, hi3, hz3, hs3, hb3⟩ := info_parts Try.info3
  have I3 := Hid.mk' (And.intro hi3 (And.intro hz3 (And.intro hs3 hb3))); clear hi3 hz3 hs3 hb3
  have H1 := Hid.mk' h1; have HS := Hid.mk' hs; have H2 := Hid.mk' h2; have HL := Hid.mk' hl; have H3 := Hid.mk' h3
  clear h1 hs h2 hl h3
  go_enter Try.func5, Try.ntmps5
  go_wp2_with fail
  refine (zb26_any w noO a1 n1 c1 nm a2 n2 c2 t a3 n3 c3 ct rt H1.out HS.out).mono ?_
  rintro e w' ⟨⟨b0, rfl, hb0⟩, hw⟩; subst w'
  cases b0 with
  | false =>
    clear hb0
    go_wp2_with fail
    go_ret
    exact ⟨rfl, Below.refl _ _⟩
  | true =>
  have SM := Hid.mk' (hb0 rfl); clear hb0
  go_wp2_with fail
  refine (one_any w noO a1 n1 c1 nm a2 n2 c2 ln a3 n3 c3 H1.out HS.out H2.out HL.out SM.out).mono ?_
  rintro e w' ⟨⟨b0, rfl, hb0⟩, hw⟩; subst w'
  cases b0 with
  | false =>
    clear hb0
    go_wp2_with fail
    go_ret
    exact ⟨rfl, Below.refl _ _⟩
  | true =>
  have ON := Hid.mk' (hb0 rfl); clear hb0
  go_wp2_with fail
  refine (clone17_any w a1 n1 c1 nm H1.out SM.out.1).mono ?_
  rintro e wa ⟨a1', c1', rfl, r1, b1⟩
  have R1 := Hid.mk' r1; have B1 := Hid.mk' b1; clear r1 b1
  go_wp2_with fail
  refine (clone18_any wa a2 n2 c2 (fun i => ln i) (H2.out.below B1.out) SM.out.2.1).mono ?_
  rintro e wb ⟨a2', c2', rfl, r2, b2⟩
  have R2 := Hid.mk' r2; have B2 := Hid.mk' (B1.out.trans (b2.mono B1.out.size)); have B2' := Hid.mk' b2; clear r2 b2
  go_wp2_with fail
  refine (clone19_any wb a3 n3 c3 mo (H3.out.below B2.out) SM.out.2.2).mono ?_
  rintro e wd ⟨a3', c3', rfl, r3, b3⟩
  have R3 := Hid.mk' r3; have B3 := Hid.mk' (B2.out.trans (b3.mono B2.out.size)); have B3' := Hid.mk' b3; clear r3 b3
  go_wp2_with fail
  refine (part_any wd a1' n1 c1' nm a2' n2 c2' ln t a3' n3 c3' mo 0 _ rfl rt ((R1.out.below B2'.out).below B3'.out) (R2.out.below B3'.out) HL.out R3.out ht (by omega) ON.out.1 ON.out.2.2.2).mono ?_
  rintro e w4 ⟨⟨ams, als, ahs, ars, amem, aend, Tr, rfl, hp⟩, b4⟩
  have HP := Hid.mk' hp; have B4 := Hid.mk' (B3.out.trans (b4.mono B3.out.size)); clear hp b4
  have HLN : Hid (∀ i, i < min n1 n2 → ln i ≤ 65535) := fun i hi => HL.out i (by omega)
  have HSN : Hid (∀ i, i < min n1 n2 → (nm i).size ≤ maxLen) := fun i hi => HS.out i (by omega)
  have hN : min n1 n2 ≤ 65536 := by have := ON.out.1; omega
  have hsum := ON.out.2.2.2
  clear R1 R2 R3 B1 B2 B3 B2' B3' H1 H2 H3 HL HS SM ON
  generalize min n1 n2 = N at *
  have hT : t + sumTo ln N ≤ 131072 := by omega
  have HTS : Hid (sumTo ln N ≤ t + sumTo ln N) := by show sumTo ln N ≤ t + sumTo ln N; omega
  generalize t + sumTo ln N = T at *
  go_upto_region 11 with fail
  obtain ⟨c, hc, hcN⟩ : ∃ c : Nat, (ct : Int) % ((N : Int) + 1) = (c : Int) ∧ c ≤ N := ⟨ct % (N + 1), by push_cast; rfl, by have := Nat.mod_lt ct (show 0 < N + 1 by omega); omega⟩
  rw [hc]
  clear hc
  go_upto_if 73 with fail
  go_cut [21] (fun q wx => q = .int .i64 ((sumTo ln c : Nat) : Int) ∧ wx = w4)
  case first =>
    by_cases h0 : c = 0
    · subst h0
      go_wp2_with fail
      go_meet
      case rel => exact ⟨rfl, rfl⟩
    · have hpos : 0 < c := by omega
      rcases HP.out.ends.cells with h0 | ⟨g, off, rfl, _, _, hcc⟩
      · exfalso; omega
      · have hcx := hcc (c - 1) (by omega)
        have hce : Hid (cEn ln (c - 1) = .int .i64 ((sumTo ln c : Nat) : Int)) := by
          show Value.int .i64 ((sumTo ln (c - 1 + 1) : Nat) : Int) = _
          rw [show c - 1 + 1 = c from by omega]
        rw [hce.out] at hcx
        clear hcc
        obtain ⟨c', rfl⟩ : ∃ c', c = c' + 1 := ⟨c - 1, by omega⟩
        rw [show c' + 1 - 1 = c' from by omega] at hcx
        clear hce h0 hpos
        go_wp2_with fail
        go_meet
        case rel => exact ⟨rfl, rfl⟩
  case rest =>
  obtain ⟨rfl, hw⟩ := hcut
  subst wc
  have hbT : sumTo ln c ≤ T := by have := sumTo_mono ln hcN; have := HTS.out; omega
  obtain ⟨b, hbd⟩ : ∃ b, Hid (sumTo ln c = b) := ⟨_, rfl⟩
  rw [hbd.out] at hbT
  rw [hbd.out]
  go_wp2_with fail
  refine (new_any w4).mono ?_
  rintro e w' ⟨rfl, hw⟩
  obtain ⟨O1, hO1⟩ : ∃ O : Nat → Prop, Hid (O = fun k => k = w4.heap.size ∨ k = w4.heap.size + 1) := ⟨_, rfl⟩
  have FW : Hid (WI w' O1 O1 rt mo n3 (w4.heap.size + 1) St.zero (WData.fresh w4.heap.size)) := by
    rw [hw, hO1.out]
    exact WI.fresh w4 _ rt mo n3 (fun _ e => e) (fun k e => by omega)
  have L5 : Hid (Below w4.heap.size w4 w') := by
    rw [hw]
    exact ((Below.refl _ _).alloc (Nat.le_refl _) _).alloc (by simp) _
  have Q1 : Hid (∀ k, O1 k → w4.heap.size ≤ k) := fun k e => by rw [hO1.out] at e; omega
  clear hw hO1
  obtain ⟨wp1, hwp1⟩ : ∃ p, Hid (w4.heap.size + 1 = p) := ⟨_, rfl⟩
  rw [hwp1.out]
  rw [hwp1.out] at FW
  go_wp2_with fail
  refine (zzkeep_any w' O1 O1 rt mo n3 wp1 0 T N St.zero _ nm ln ams als ahs ars amem aend T T T Tr Tr N N FW.out (HP.out.ms.high L5.out Q1.out) (HP.out.ls.high L5.out Q1.out) (HP.out.hs.high L5.out Q1.out) (HP.out.rs.high L5.out Q1.out) HP.out.rnil HP.out.rlen (fun e => by rw [HP.out.rlen, e]; rfl) (HP.out.mem.high L5.out Q1.out) (HP.out.ends.high L5.out Q1.out) HTS.out hT hN HSN.out (by show 0 + N ≤ _; omega) (fun i => by show 0 + N ≤ _; omega)).mono ?_
  rintro e w6 ⟨rfl, hkept⟩
  obtain ⟨d6, O6, Q6, HW6, HO6, HQ6, L6⟩ : ∃ d O Q, Hid (WI w6 O Q rt mo n3 wp1 (runsTo 0 nm ln St.zero N) d) ∧ Hid (∀ k, O k → w4.heap.size ≤ k) ∧ Hid (∀ k, Q k → w4.heap.size ≤ k) ∧ Hid (Below w4.heap.size w4 w6) := by
    obtain ⟨d, O', Q', k1, k2, k3, _, _, k6⟩ := hkept
    have hsz := L5.out.size
    exact ⟨d, O', Q', k1, fun k e => (k2 k e).elim (Q1.out k) (fun e => by omega), fun k e => (k3 k e).elim (Q1.out k) (fun e => by omega), Keep.below L5.out k6 hsz (fun k hk e => by have := Q1.out k e; omega)⟩
  clear hkept FW L5 Q1
  have B6 := Hid.mk' (B4.out.trans (L6.out.mono B4.out.size))
  have hnn : ∀ wx, (binOp .neq 23 (.slice ars Tr Tr) (.slice none 0 0)).run Try.prog wx = .ok (.bool rt) wx := fun wx => (run_neq_slice_nil_any (P := Try.prog) wx 23 2 ars Tr Tr 0 0 Try.underlying23).trans (by rw [HP.out.rnil]; cases rt <;> rfl)
  go_upto_if 89 with fail
  clear hnn
  have HRA : Hid (RatesAre w4 rt 0 T ars Tr Tr) := ⟨HP.out.rs, HP.out.rnil, HP.out.rlen, fun e => by rw [HP.out.rlen, e]; rfl⟩
  go_cut [23, 24] (fun u v wx => ∃ ra na ca rb nb cb, u = .slice ra na ca ∧ v = .slice rb nb cb ∧ Hid (RatesAre w4 rt 0 b ra na ca) ∧ Hid (RatesAre w4 rt b (T - b) rb nb cb) ∧ wx = w6)
  case first =>
    cases rt with
    | false =>
      go_wp2_with fail
      go_meet
      case rel => exact ⟨none, 0, 0, none, 0, 0, rfl, rfl, ⟨Rd.empty _ _ _ _, rfl, rfl, fun _ => rfl⟩, ⟨Rd.empty _ _ _ _, rfl, rfl, fun _ => rfl⟩, rfl⟩
    | true =>
      have hTr : Tr = T := HP.out.rlen
      subst hTr
      have q1 : ∀ wx, (Instr.slice 23 (.slice ars Tr Tr) none (some (.int .i64 (b : Int))) none).run Try.prog wx = .ok (.slice ars b Tr) wx := fun wx => cut_head 23 ars Tr Tr und23 siz23 wx b hbT
      have q2 : ∀ wx, (Instr.slice 23 (.slice ars Tr Tr) (some (.int .i64 (b : Int))) none none).run Try.prog wx = .ok (.slice (cutO ars b Tr) (Tr - b) (Tr - b)) wx := fun wx => cut_tail 23 ars Tr und23 siz23 wx b hbT
      go_wp2_with fail
      go_meet
      case rel =>
        refine ⟨_, _, _, _, _, _, rfl, rfl, ⟨HP.out.rs.head hbT, HP.out.rnil, rfl, fun e => by cases e⟩, ⟨HP.out.rs.tail hbT (fun i => by unfold cRs; rw [Nat.zero_add]), (cutO_none _ _ _).trans HP.out.rnil, rfl, fun e => by cases e⟩, rfl⟩
  case rest =>
  obtain ⟨ra, na, ca, rb, nb, cb, rfl, rfl, HRA', HRB', hw⟩ := hcut
  subst wc
  clear HRA
  obtain ⟨M, hM⟩ : ∃ M, Hid (N = c + M) := ⟨N - c, show N = c + (N - c) by omega⟩
  have hM1 : c + M ≤ N := Nat.le_of_eq hM.out.symm
  have hM2 : N ≤ c + M := Nat.le_of_eq hM.out
  obtain ⟨ln', hln⟩ : ∃ l : Nat → Nat, Hid (l = fun i => ln (c + i)) := ⟨_, rfl⟩
  obtain ⟨nm', hnm⟩ : ∃ l : Nat → ByteArray, Hid (l = fun i => nm (c + i)) := ⟨_, rfl⟩
  have HB : Hid (∀ j, sumTo ln (c + j) = b + sumTo ln' j) := fun j => by rw [hln.out, ← hbd.out]; exact sumTo_add ln c j
  go_wp2_with (at_make; refine wpList_make_full _ rfl _ _ 22 rfl w4.heap.size 3 i3 (.int .i64 0) 1 Try.underlying22 I3.out.1 I3.out.2.1 I3.out.2.2.1 _ _ _ _ M rfl rfl (by omega) (by omega) (by rw [I3.out.2.2.2]; omega) (by unfold maxLen; omega) L6.out.size ?_)
  intro w7 hown7 hgrow7
  have F7 := Hid.mk' (Fill.start hown7 (cEn ln'))
  have L7 : Hid (Below w6.heap.size w6 w7) := (Below.refl _ _).grown hgrow7 (Nat.le_refl _) (by intro k hk; cases hk)
  clear hown7 hgrow7
  obtain ⟨g7, hg7⟩ : ∃ g, Hid (w6.heap.size = g) := ⟨_, rfl⟩
  rw [hg7.out]
  rw [hg7.out] at F7
  go_wp2_with fail
  go_loopw [26] (fun i wr => ∃ k : Nat, k ≤ M ∧ i = .int .i64 ((c : Int) + (k : Int)) ∧ Hid (Fill wr w4.heap.size g7 M 3 (cEn ln') (.int .i64 0) k) ∧ Hid (Below w6.heap.size w6 wr)) (fun i _ => N - (intOf i).toNat)
  case atStart => exact ⟨0, Nat.zero_le _, by simp, F7, L7⟩
  case round =>
    clear F7 L7
    obtain ⟨k, hk, rfl, F, hnx⟩ := hrel
    by_cases hlt : k < M
    · rcases HP.out.ends.cells with h0 | ⟨g, off, rfl, hgl, _, hcc⟩
      · exfalso; omega
      · have hcx := ((L6.out.trans (hnx.out.mono L6.out.size)).cell (p := ⟨g, off + (c + k), none⟩) hgl).trans (hcc (c + k) (by omega))
        have hce : Hid (cEn ln (c + k) = .int .i64 ((b : Int) + ((sumTo ln' (k + 1) : Nat) : Int))) := by
          show Value.int .i64 ((sumTo ln (c + (k + 1)) : Nat) : Int) = _
          rw [HB.out]; push_cast; rfl
        rw [hce.out] at hcx
        clear hcc hce
        have hss : b + sumTo ln' (k + 1) ≤ 131072 := by
          have h1 := HB.out (k + 1)
          have h2 := sumTo_mono ln (show c + (k + 1) ≤ N by omega)
          omega
        have z0 := F.out.cell hlt
        have y0 := F.out.frozen k
        have HP1 : Hid (Fill (_ : World) w4.heap.size g7 M 3 (cEn ln') (.int .i64 0) (k + 1)) := F.out.put (v := .int .i64 ((sumTo ln' (k + 1) : Nat) : Int)) rfl
        generalize sumTo ln' (k + 1) = sv at *
        go_wp2_with fail
        go_roundw
        case rel =>
          rw [show (b : Int) + (sv : Int) - (b : Int) = (sv : Int) from by omega]
          exact ⟨k + 1, by omega, by push_cast; rw [Int.add_assoc], HP1, hnx.out.setCell (p := ⟨g7, k, none⟩) (Nat.le_of_eq hg7.out) _⟩
        case measure => simp [intOf]; omega
    · obtain rfl : M = k := by omega
      obtain ⟨w8, rfl⟩ : ∃ wo : World, wo = wr := ⟨_, rfl⟩
      have D7 := Hid.mk' (F.out.rd (O := noO) (by unfold maxLen; omega) (fun e => e))
      have HW8 := Hid.mk' (HW6.out.below hnx.out)
      have L8 := Hid.mk' (L6.out.trans (hnx.out.mono L6.out.size))
      have B8 := Hid.mk' (B4.out.trans (L8.out.mono B4.out.size))
      clear F hnx HW6 L6 B6 HO6 HQ6
      go_wp2_with fail
      clear hlt hk
      refine (new_any w8).mono ?_
      rintro e w9 ⟨rfl, hw⟩
      obtain ⟨O9, hO9⟩ : ∃ O : Nat → Prop, Hid (O = fun k => k = w8.heap.size ∨ k = w8.heap.size + 1) := ⟨_, rfl⟩
      have FW : Hid (WI w9 O9 O9 rt mo n3 (w8.heap.size + 1) St.zero (WData.fresh w8.heap.size)) := by
        rw [hw, hO9.out]
        exact WI.fresh w8 _ rt mo n3 (fun _ e => e) (fun k e => by omega)
      have L9 : Hid (Below w8.heap.size w8 w9) := by
        rw [hw]
        exact ((Below.refl _ _).alloc (Nat.le_refl _) _).alloc (by simp) _
      have Q9 : Hid (∀ k, O9 k → w8.heap.size ≤ k) := fun k e => by rw [hO9.out] at e; omega
      clear hw hO9
      obtain ⟨wp2, hwp2⟩ : ∃ p, Hid (w8.heap.size + 1 = p) := ⟨_, rfl⟩
      rw [hwp2.out]
      rw [hwp2.out] at FW
      have L9d : Hid (Below w8.heap.size w8 w9.drew) := L9.out.drew
      have Q94 : Hid (∀ k, O9 k → w4.heap.size ≤ k) := fun k e => Nat.le_trans L8.out.size (Q9.out k e)
      have L49 : Hid (Below w4.heap.size w4 w9.drew) := L8.out.trans (L9d.out.mono L8.out.size)
      have HC : Hid (Calls Try.prog 22 #[.pointer (some ⟨wp2, 0, none⟩), .slice ams b T, .slice als b T, .slice ahs b T, .slice ra na ca, .slice amem c N, .slice aend c N] w9.drew fun e w' => e = .returned (.tuple #[]) ∧ Hid (Stands w8 w' rt mo n3 wp2 (runsTo 0 nm ln St.zero c))) := by
        refine (zzkeep_any w9.drew O9 O9 rt mo n3 wp2 0 b c St.zero _ nm ln ams als ahs ra amem aend T T T na ca N N (FW.out.below (Below.refl _ _).drew) ((HP.out.ms.head hbT).high L49.out Q94.out) ((HP.out.ls.head hbT).high L49.out Q94.out) ((HP.out.hs.head hbT).high L49.out Q94.out) (HRA'.out.1.high L49.out Q94.out) HRA'.out.2.1 HRA'.out.2.2.1 HRA'.out.2.2.2 ((HP.out.mem.head hcN).high L49.out Q94.out) ((HP.out.ends.head hcN).high L49.out Q94.out) (Nat.le_of_eq hbd.out) (by omega) (by omega) (fun i hi => HSN.out i (by omega)) (by show 0 + c ≤ _; omega) (fun i => by show 0 + c ≤ _; omega)).mono ?_
        rintro e w' ⟨h1, h2⟩
        exact ⟨h1, h2.stands L9d.out Q9.out Q9.out⟩
      go_upto_region 27 with fail
      go_cut [] (fun wx => Hid (Stands w8 wx rt mo n3 wp2 (runsTo 0 nm ln St.zero c)))
      case first =>
        have q1 : ∀ wx, (Instr.slice 37 (.slice ams T T) none (some (.int .i64 (b : Int))) none).run Try.prog wx = .ok (.slice ams b T) wx := fun wx => cut_head 37 ams T T und37 siz37 wx b hbT
        have q2 : ∀ wx, (Instr.slice 43 (.slice als T T) none (some (.int .i64 (b : Int))) none).run Try.prog wx = .ok (.slice als b T) wx := fun wx => cut_head 43 als T T und43 siz43 wx b hbT
        have q3 : ∀ wx, (Instr.slice 23 (.slice ahs T T) none (some (.int .i64 (b : Int))) none).run Try.prog wx = .ok (.slice ahs b T) wx := fun wx => cut_head 23 ahs T T und23 siz23 wx b hbT
        have q4 : ∀ wx, (Instr.slice 35 (.slice amem N N) none (some (.int .i64 (c : Int))) none).run Try.prog wx = .ok (.slice amem c N) wx := fun wx => cut_head 35 amem N N und35 siz35 wx c hcN
        have q5 : ∀ wx, (Instr.slice 22 (.slice aend N N) none (some (.int .i64 (c : Int))) none).run Try.prog wx = .ok (.slice aend c N) wx := fun wx => cut_head 22 aend N N und22 siz22 wx c hcN
        go_region_with (go_at_call 22; refine HC.out.mono ?_; rintro e w10 ⟨rfl, HS10⟩)
        all_goals (go_wp2_with fail; go_meet; exact HS10)
      case rest =>
      obtain ⟨w10, rfl⟩ : ∃ wo : World, wo = wc := ⟨_, rfl⟩
      obtain ⟨d10, O10, Q10, HW10, HO10, HQ10, L10⟩ : ∃ d O Q, Hid (WI w10 O Q rt mo n3 wp2 (runsTo 0 nm ln St.zero c) d) ∧ Hid (∀ k, O k → w8.heap.size ≤ k) ∧ Hid (∀ k, Q k → w8.heap.size ≤ k) ∧ Hid (Below w8.heap.size w8 w10) := by
        obtain ⟨d, O, Q, k1, k2, k3, k4⟩ := hcut.out
        exact ⟨d, O, Q, k1, k2, k3, k4⟩
      clear hcut HC FW L9 Q9 L9d Q94 L49
      have L10d : Hid (Below w8.heap.size w8 w10.drew) := L10.out.drew
      have Q104 : Hid (∀ k, Q10 k → w4.heap.size ≤ k) := fun k e => Nat.le_trans L8.out.size (HQ10.out k e)
      have L410 : Hid (Below w4.heap.size w4 w10.drew) := L8.out.trans (L10d.out.mono L8.out.size)
      have HNC : Hid (N - c = M) := by show N - c = M; omega
      have HC : Hid (Calls Try.prog 22 #[.pointer (some ⟨wp2, 0, none⟩), .slice (cutO ams b T) (T - b) (T - b), .slice (cutO als b T) (T - b) (T - b), .slice (cutO ahs b T) (T - b) (T - b), .slice rb nb cb, .slice (cutO amem c N) M M, .slice (some ⟨g7, 0, none⟩) M M] w10.drew fun e w' => e = .returned (.tuple #[]) ∧ Hid (Stands w8 w' rt mo n3 wp2 (runsTo 0 nm ln St.zero N))) := by
        have hmem : Rd w4 noO (cutO amem c N) M M 1 (cNm nm') := by
          have := HP.out.mem.tail (c' := cNm nm') hcN (fun i => by rw [hnm.out]; rfl)
          rw [HNC.out] at this
          exact this
        have hsm : sumTo ln' M ≤ T - b := by
          have h1 := HB.out M
          rw [← hM.out] at h1
          have h2 := HTS.out
          omega
        have hst : runsTo 0 nm ln St.zero N = runsTo b nm' ln' (runsTo 0 nm ln St.zero c) M := by
          rw [hM.out, runsTo_split, Nat.zero_add, hbd.out, hln.out, hnm.out]
        have hn1 := runsTo_n 0 nm ln St.zero c
        have hn2 := fun i => runsTo_len 0 nm ln St.zero i c
        rw [hst]
        refine (zzkeep_any w10.drew O10 Q10 rt mo n3 wp2 b (T - b) M (runsTo 0 nm ln St.zero c) d10 nm' ln' (cutO ams b T) (cutO als b T) (cutO ahs b T) rb (cutO amem c N) (some ⟨g7, 0, none⟩) (T - b) (T - b) (T - b) nb cb M M (HW10.out.below (Below.refl _ _).drew) ((HP.out.ms.tail hbT (fun i => by unfold cMs; rw [Nat.zero_add])).high L410.out Q104.out) ((HP.out.ls.tail hbT (fun i => by unfold cLs; rw [Nat.zero_add])).high L410.out Q104.out) ((HP.out.hs.tail hbT (fun i => by unfold cHs; rw [Nat.zero_add])).high L410.out Q104.out) (HRB'.out.1.high L410.out Q104.out) HRB'.out.2.1 HRB'.out.2.2.1 HRB'.out.2.2.2 (hmem.high L410.out Q104.out) (D7.out.high L10d.out HQ10.out) hsm (by omega) (by omega) (fun i hi => by rw [hnm.out]; exact HSN.out (c + i) (by omega)) (by have : (St.zero).n = 0 := rfl; omega) (fun i => by have := hn2 i; have h0 : ((St.zero).sp i).length = 0 := rfl; omega)).mono ?_
        rintro e w' ⟨h1, h2⟩
        exact ⟨h1, h2.stands L10d.out HO10.out HQ10.out⟩
      go_upto_region 28 with fail
      go_cut [] (fun wx => Hid (Stands w8 wx rt mo n3 wp2 (runsTo 0 nm ln St.zero N)))
      case first =>
        have q1 : ∀ wx, (Instr.slice 37 (.slice ams T T) (some (.int .i64 (b : Int))) none none).run Try.prog wx = .ok (.slice (cutO ams b T) (T - b) (T - b)) wx := fun wx => cut_tail 37 ams T und37 siz37 wx b hbT
        have q2 : ∀ wx, (Instr.slice 43 (.slice als T T) (some (.int .i64 (b : Int))) none none).run Try.prog wx = .ok (.slice (cutO als b T) (T - b) (T - b)) wx := fun wx => cut_tail 43 als T und43 siz43 wx b hbT
        have q3 : ∀ wx, (Instr.slice 23 (.slice ahs T T) (some (.int .i64 (b : Int))) none none).run Try.prog wx = .ok (.slice (cutO ahs b T) (T - b) (T - b)) wx := fun wx => cut_tail 23 ahs T und23 siz23 wx b hbT
        have q4 : ∀ wx, (Instr.slice 35 (.slice amem N N) (some (.int .i64 (c : Int))) none none).run Try.prog wx = .ok (.slice (cutO amem c N) M M) wx := fun wx => (cut_tail 35 amem N und35 siz35 wx c hcN).trans (by rw [HNC.out])
        go_region_with (go_at_call 22; refine HC.out.mono ?_; rintro e w11 ⟨rfl, HS11⟩)
        all_goals (go_wp2_with fail; go_meet; exact HS11)
      case rest =>
      obtain ⟨w11, rfl⟩ : ∃ wo : World, wo = wc := ⟨_, rfl⟩
      obtain ⟨d11, O11, Q11, HW11, L11⟩ : ∃ d O Q, Hid (WI w11 O Q rt mo n3 wp2 (runsTo 0 nm ln St.zero N) d) ∧ Hid (Below w8.heap.size w8 w11) := by
        obtain ⟨d, O, Q, k1, k2, k3, k4⟩ := hcut.out
        exact ⟨d, O, Q, k1, k4⟩
      have HV11 := Hid.mk' (HW8.out.below L11.out)
      have L411 := Hid.mk' (L8.out.trans (L11.out.mono L8.out.size))
      have B11 := Hid.mk' (B4.out.trans (L411.out.mono B4.out.size))
      have HSZ : Hid (∀ (p k : Nat) (x : Nat × Nat), ((runsTo 0 nm ln St.zero N).sp p)[k]? = some x → x.2 ≤ 1048576) := fun p k x hx => Nat.le_trans (runsTo_size 0 nm ln St.zero 65535 (fun p x h => by cases h) N HLN.out p x (List.mem_of_getElem? hx)) (by omega)
      have HSOME : Hid (∀ i, i < N → ((runsTo 0 nm ln St.zero N).m (nm i)).isSome = true) := fun i hi => runsTo_some 0 nm ln St.zero N i hi
      clear hcut HC HW10 HO10 HQ10 L10 L10d Q104 L410 HW8 L8 B8 D7 HB HNC HRA' HRB'
      generalize runsTo 0 nm ln St.zero N = st at *
      go_wp2_with fail
      refine (same_any w11 O6 O11 Q6 Q11 rt mo n3 wp1 wp2 st d6 d11 HV11.out HW11.out HSZ.out).mono ?_
      rintro e w12 ⟨rfl, b12⟩
      have B12 := Hid.mk' (B11.out.trans (b12.mono B11.out.size))
      have L412 := Hid.mk' (L411.out.trans (b12.mono L411.out.size))
      have HV12 := Hid.mk' (HV11.out.below b12)
      have HW12 := Hid.mk' (HW11.out.below b12)
      clear b12 B11 L411 HV11 HW11 L11 HSZ
      go_wp2_with fail
      go_loop [28] (fun i => ∃ k : Nat, k ≤ N ∧ i = .int .i64 k) (fun i => N - (intOf i).toNat)
      case atStart => exact ⟨0, Nat.zero_le _, rfl⟩
      case round =>
        obtain ⟨k, hk, rfl⟩ := hrel
        by_cases hlt : k < N
        · rcases HP.out.mem.cells with h0 | ⟨g, off, rfl, hgl, _, hcc⟩
          · exfalso; omega
          · have hcx := (L412.out.cell (p := ⟨g, off + k, none⟩) hgl).trans (hcc k (by omega))
            have hce : Hid (cNm nm k = .string (nm k)) := rfl
            rw [hce.out] at hcx
            clear hcc hce
            have hsz := HSN.out k hlt
            have hso := Hid.mk' (HSOME.out k hlt)
            have hmx : Hid ((nm k).size ≤ maxLen) := hsz
            clear hsz
            obtain ⟨V, hV⟩ : ∃ V, Hid ((((st.m (nm k)).getD 0 : Nat) : Int) = V) := ⟨_, rfl⟩
            generalize nm k = s at *
            go_wp2_with fail
            refine (place_any HV12.out s hmx.out).mono ?_
            rintro e w' ⟨he, hw⟩; subst w'
            rw [hso.out, hV.out] at he
            subst he
            go_wp2_with fail
            refine (place_any HW12.out s hmx.out).mono ?_
            rintro e w' ⟨he, hw⟩; subst w'
            rw [hso.out, hV.out] at he
            subst he
            go_wp2_with fail
            go_round
            case rel => exact ⟨k + 1, by omega, by go_num⟩
            case measure => simp [intOf]; omega
        · go_wp2_with fail
          go_ret
          exact ⟨rfl, B12.out⟩
end Go.Proofs.Qxb6000061a
