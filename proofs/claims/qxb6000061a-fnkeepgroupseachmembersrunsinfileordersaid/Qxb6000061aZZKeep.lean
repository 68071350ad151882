/-
  THE WALK OF ZZKeep (22).
-/
import Derived.Test.Qxb6000061aZZDefs
import Derived.Test.Qxb6000061aKeep
import Derived.WalkSpells
import Derived.WalkLawsBesides
import Derived.Deep.RegionHeld3
namespace Go.Proofs.Qxb6000061a
open Go.RowKit

theorem Try.info76 : (Try.prog.info? 76).map (fun i => (i.zero, i.size, i.bytes)) = some (some (.agg #[.int .i32 0, .int .u32 0, .int .i64 0]), 3, 16) := by kernel_rfl
theorem Try.info80 : (Try.prog.info? 80).map (fun i => (i.zero, i.size, i.bytes)) = some (some (.agg #[.string ⟨#[]⟩, .int .i64 0, .bool false, .int .i64 0]), 4, 40) := by kernel_rfl
theorem Try.info32 : (Try.prog.info? 32).map (fun i => (i.zero, i.size, i.bytes)) = some (some (.int .i64 0), 1, 8) := by kernel_rfl

theorem Kept.of_below {w wk w' : World} {O Q : Nat → Prop} {rt : Bool} {mo : Nat → Int} {n3 wp : Nat} {st : St} (h : Kept wk w' O Q rt mo n3 wp st) (hb : Below w.heap.size w wk) : Kept w w' O Q rt mo n3 wp st := by
  obtain ⟨d, O', Q', h1, h2, h3, h4, h5, h6⟩ := h
  have hs := hb.size
  exact ⟨d, O', Q', h1, fun k e => (h2 k e).imp (fun e => e) (fun e => by omega), fun k e => (h3 k e).imp (fun e => e) (fun e => by omega), h4, h5, (Keep.of_below (O := O) hb).trans h6 (fun _ _ e => e)⟩

theorem far1 {w : World} {g b i o : Nat} (v0 : Value) (h : b ≠ g) : (w.setCell ⟨g, i, none⟩ v0).cell? ⟨b, o, none⟩ = w.cell? ⟨b, o, none⟩ := World.cell?_setCell_other w ⟨g, i, none⟩ ⟨b, o, none⟩ v0 (fun e => h (by injection e with e1; exact e1.symm))
theorem far3 {w : World} {g b i j l o : Nat} (v0 v1 v2 : Value) (h : b ≠ g) : (((w.setCell ⟨g, i, none⟩ v0).setCell ⟨g, j, none⟩ v1).setCell ⟨g, l, none⟩ v2).cell? ⟨b, o, none⟩ = w.cell? ⟨b, o, none⟩ := by rw [far1 _ h, far1 _ h, far1 _ h]
theorem far4 {w : World} {g b i j l q o : Nat} (v0 v1 v2 v3 : Value) (h : b ≠ g) : ((((w.setCell ⟨g, i, none⟩ v0).setCell ⟨g, j, none⟩ v1).setCell ⟨g, l, none⟩ v2).setCell ⟨g, q, none⟩ v3).cell? ⟨b, o, none⟩ = w.cell? ⟨b, o, none⟩ := by rw [far1 _ h, far3 _ _ _ h]

set_option maxRecDepth 100000 in
set_option maxHeartbeats 2000000 in
theorem zzkeep_yes (w : World) (O Q : Nat → Prop) (mo : Nat → Int) (n3 wp gb T N : Nat) (st : St) (d : WData) (nm : Nat → ByteArray) (ln : Nat → Nat) (ams als ahs ars amem aend : Option Addr) (cms cls chs crs cmem cend : Nat)
    (h : WI w O Q true mo n3 wp st d) (hms : Rd w Q ams T cms 1 (cMs mo n3 gb)) (hls : Rd w Q als T cls 1 (cLs gb)) (hhs : Rd w Q ahs T chs 1 (cHs gb)) (hrs : Rd w Q ars T crs 1 (cRs gb)) (hrn : ars.isNone = false)
    (hmem : Rd w Q amem N cmem 1 (cNm nm)) (hend : Rd w Q aend N cend 1 (cEn ln)) (hsum : sumTo ln N ≤ T) (hT : T ≤ 131072) (hN : N ≤ 65536) (hstr : ∀ i, i < N → (nm i).size ≤ maxLen) (hfew : st.n + N ≤ 1048576) (hshort : ∀ i, (st.sp i).length + N ≤ 1048576) :
    Calls Try.prog 22 #[.pointer (some ⟨wp, 0, none⟩), .slice ams T cms, .slice als T cls, .slice ahs T chs, .slice ars T crs, .slice amem N cmem, .slice aend N cend] w fun e w' => e = .returned (.tuple #[]) ∧ Kept w w' O Q true mo n3 wp (runsTo gb nm ln st N) := by
  obtain ⟨i76, hi76, hz76, hs76, hb76⟩ := info_parts Try.info76
  have I76 := Hid.mk' (And.intro hi76 (And.intro hz76 (And.intro hs76 hb76))); clear hi76 hz76 hs76 hb76
  obtain ⟨i80, hi80, hz80, hs80, hb80⟩ := info_parts Try.info80
  have I80 := Hid.mk' (And.intro hi80 (And.intro hz80 (And.intro hs80 hb80))); clear hi80 hz80 hs80 hb80
  obtain ⟨i32', hi32, hz32, hs32, hb32⟩ := info_parts Try.info32
  have I32 := Hid.mk' (And.intro hi32 (And.intro hz32 (And.intro hs32 hb32))); clear hi32 hz32 hs32 hb32
  have H := Hid.mk' h; clear h
  have HMS := Hid.mk' hms; have HLS := Hid.mk' hls; have HHS := Hid.mk' hhs; have HRS := Hid.mk' hrs; have HRN := Hid.mk' hrn; have HMEM := Hid.mk' hmem; have HEND := Hid.mk' hend
  clear hms hls hhs hrs hrn hmem hend
  have HSUM := Hid.mk' hsum; have HSTR := Hid.mk' hstr; have HSH := Hid.mk' hshort
  clear hsum hstr hshort
  go_enter Try.func22, Try.ntmps22
  go_wp2_with (at_make; refine wpList_make_full _ rfl _ _ 74 rfl w.heap.size 76 i76 (.agg #[.int .i32 0, .int .u32 0, .int .i64 0]) 3 Try.underlying74 I76.out.1 I76.out.2.1 I76.out.2.2.1 _ _ _ _ T rfl rfl rfl rfl (by rw [I76.out.2.2.2]; omega) (by unfold maxLen; omega) (Nat.le_refl _) ?_)
  intro w1 hown1 hgrow1
  rw [zRow_made] at hown1
  have F1 := Hid.mk' (FillN.start hown1 (cRow mo n3 gb))
  have L1 : Below w.heap.size w w1 := (Below.refl _ _).grown hgrow1 (Nat.le_refl _) (by intro k hk; cases hk)
  have G1 : Hid (∀ k, Q k → k < w.heap.size) := H.out.lt
  clear hown1 hgrow1
  generalize hg1 : w.heap.size = g1 at *
  go_wp2_with fail
  go_loopw [15] (fun i wr => ∃ k : Nat, k ≤ T ∧ i = .int .i64 k ∧ Hid (FillN wr g1 g1 T 3 76 (cRow mo n3 gb) zRow (k * 3)) ∧ Below g1 w wr) (fun i _ => T - (intOf i).toNat)
  case atStart => exact ⟨0, Nat.zero_le _, rfl, F1, L1⟩
  case round =>
    clear F1 L1
    obtain ⟨k, hk, rfl, F, hnx⟩ := hrel
    by_cases hlt : k < T
    · rcases HMS.out.cells with h0 | ⟨b1, o1, rfl, hb1, _, hc1⟩
      · exfalso; omega
      · rcases HLS.out.cells with h0 | ⟨b2, o2, rfl, hb2, _, hc2⟩
        · exfalso; omega
        · rcases HHS.out.cells with h0 | ⟨b3, o3, rfl, hb3, _, hc3⟩
          · exfalso; omega
          · rw [hg1] at hb1 hb2 hb3
            have e1 := (hnx.cell (p := ⟨b1, o1 + k, none⟩) hb1).trans (hc1 k (by omega))
            have e2 := (hnx.cell (p := ⟨b2, o2 + k, none⟩) hb2).trans (hc2 k (by omega))
            have e3 := (hnx.cell (p := ⟨b3, o3 + k, none⟩) hb3).trans (hc3 k (by omega))
            have f1 : Hid (cMs mo n3 gb k = .int .i32 (mon mo n3 (gb + k))) := rfl
            have f2 : Hid (cLs gb k = .int .u32 ((gb + k : Nat) : Int)) := rfl
            have f3 : Hid (cHs gb k = .int .i64 (((gb + k : Nat) : Int) * 3 + 1)) := rfl
            rw [f1.out] at e1
            rw [f2.out] at e2
            rw [f3.out] at e3
            clear hc1 hc2 hc3 f1 f2 f3
            have z0 := F.out.cell (j := k * 3) (by omega) (by omega)
            have z1 := F.out.cell (j := k * 3 + 1) (by omega) (by omega)
            have z2 := F.out.cell (j := k * 3 + 2) (by omega) (by omega)
            have y0 := F.out.frozen (k * 3)
            have y1 := F.out.frozen (k * 3 + 1)
            have y2 := F.out.frozen (k * 3 + 2)
            have HP3 := Hid.mk' (put3 F.out (cRow_0 mo n3 gb k) (cRow_1 mo n3 gb k) (cRow_2 mo n3 gb k))
            generalize mon mo n3 (gb + k) = v1 at *
            generalize ((gb + k : Nat) : Int) * 3 + 1 = v3 at *
            generalize ((gb + k : Nat) : Int) = v2 at *
            have k1 : (((wr.setCell ⟨g1, k * 3, none⟩ (.int .i32 v1)).setCell ⟨g1, k * 3 + 1, none⟩ (.int .u32 v2)).setCell ⟨g1, k * 3 + 2, none⟩ (.int .i64 v3)).cell? ⟨b1, o1 + k, none⟩ = some (.int .i32 v1) := (far3 _ _ _ (by omega)).trans e1
            have k2 : (((wr.setCell ⟨g1, k * 3, none⟩ (.int .i32 v1)).setCell ⟨g1, k * 3 + 1, none⟩ (.int .u32 v2)).setCell ⟨g1, k * 3 + 2, none⟩ (.int .i64 v3)).cell? ⟨b2, o2 + k, none⟩ = some (.int .u32 v2) := (far3 _ _ _ (by omega)).trans e2
            have k3 : (((wr.setCell ⟨g1, k * 3, none⟩ (.int .i32 v1)).setCell ⟨g1, k * 3 + 1, none⟩ (.int .u32 v2)).setCell ⟨g1, k * 3 + 2, none⟩ (.int .i64 v3)).cell? ⟨b3, o3 + k, none⟩ = some (.int .i64 v3) := (far3 _ _ _ (by omega)).trans e3
            have hk0 : (0 : Int) ≤ (k : Int) := by omega
            have hkT : (k : Int) < (T : Int) := by omega
            go_wp2_with fail
            go_region_held3 (fun w' => w'.cell? ⟨b1, o1 + k, none⟩ = some (.int .i32 v1) ∧ w'.cell? ⟨b2, o2 + k, none⟩ = some (.int .u32 v2) ∧ w'.cell? ⟨b3, o3 + k, none⟩ = some (.int .i64 v3)) (go_keep) (fail)
            go_wp2_with fail
            go_roundw
            case rel => exact ⟨k + 1, by omega, by go_num, HP3, (((hnx.setCell (p := ⟨g1, k * 3, none⟩) (Nat.le_refl _) _).setCell (p := ⟨g1, k * 3 + 1, none⟩) (Nat.le_refl _) _).setCell (p := ⟨g1, k * 3 + 2, none⟩) (Nat.le_refl _) _).drew⟩
            case measure => simp [intOf]; omega
    · obtain rfl : T = k := by omega
      have D1 := Hid.mk' (F.out.rd (O := Q) (by unfold maxLen; omega) (fun e => by have := G1.out g1 e; omega))
      have K1 : Hid (g1 < wr.heap.size) := F.out.lt
      clear F hlt hk
      have hnn : ∀ wx, (binOp .neq 23 (.slice ars T crs) (.slice none 0 0)).run Try.prog wx = .ok (.bool true) wx := fun wx => (run_neq_slice_nil_any (P := Try.prog) wx 23 2 ars T crs 0 0 Try.underlying23).trans (by rw [HRN.out]; rfl)
      go_wp2_with (at_make; refine wpList_make_full _ rfl _ _ 77 rfl g1 32 i32' (.int .i64 0) 1 Try.underlying77 I32.out.1 I32.out.2.1 I32.out.2.2.1 _ _ _ _ T rfl rfl rfl rfl (by rw [I32.out.2.2.2]; omega) (by unfold maxLen; omega) (Nat.le_of_lt K1.out) ?_)
      intro w2 hown2 hgrow2
      have F2 := Hid.mk' (Fill.start hown2 (cRs gb))
      have L2 : Below wr.heap.size wr w2 := (Below.refl _ _).grown hgrow2 (Nat.le_refl _) (by intro k hk; cases hk)
      clear hown2 hgrow2 hnn
      generalize hg2 : wr.heap.size = g2 at *
      go_wp2_with fail
      go_loopw [17] (fun i wq => ∃ k : Nat, k ≤ T ∧ i = .int .i64 k ∧ Hid (Fill wq g1 g2 T 32 (cRs gb) (.int .i64 0) k) ∧ Below g2 wr wq) (fun i _ => T - (intOf i).toNat)
      case atStart => exact ⟨0, Nat.zero_le _, rfl, F2, L2⟩
      case round =>
        clear F2 L2
        obtain ⟨k, hk, rfl, F, hny⟩ := hrel
        have hnz : Hid (Below g1 w _) := hnx.trans (hny.mono (Nat.le_of_lt K1.out))
        by_cases hlt : k < T
        · rcases HRS.out.cells with h0 | ⟨b1, o1, rfl, hb1, _, hc1⟩
          · exfalso; omega
          · rw [hg1] at hb1
            have e1 := (hnz.out.cell (p := ⟨b1, o1 + k, none⟩) hb1).trans (hc1 k (by omega))
            have f1 : Hid (cRs gb k = .int .i64 (((gb + k : Nat) : Int) * 5 + 2)) := rfl
            rw [f1.out] at e1
            have z0 := F.out.cell hlt
            have y0 := F.out.frozen k
            have HP1 := Hid.mk' (F.out.put f1.out)
            clear hc1 f1
            generalize ((gb + k : Nat) : Int) * 5 + 2 = v1 at *
            go_wp2_with fail
            go_roundw
            case rel => exact ⟨k + 1, by omega, by go_num, HP1, hny.setCell (p := ⟨g2, k, none⟩) (Nat.le_refl _) _⟩
            case measure => simp [intOf]; omega
        · obtain rfl : T = k := by omega
          have D2 := Hid.mk' (F.out.rd (O := Q) (by unfold maxLen; omega) (fun e => by have := G1.out g2 e; have := K1.out; omega))
          have D1' := Hid.mk' (D1.out.below (by rw [hg2]; exact hny))
          have K2 : Hid (g2 < _) := F.out.lt
          clear F hlt hk D1 hnx hny
          have hB3 : Hid (g1 ≤ wr.heap.size) := by have h1 := K1.out; exact Nat.le_of_lt (by have h2 := K2.out; omega)
          go_wp2_with (at_make; refine wpList_make_full _ rfl _ _ 78 rfl g1 80 i80 (.agg #[.string ⟨#[]⟩, .int .i64 0, .bool false, .int .i64 0]) 4 Try.underlying78 I80.out.1 I80.out.2.1 I80.out.2.2.1 _ _ _ _ N rfl rfl rfl rfl (by rw [I80.out.2.2.2]; omega) (by unfold maxLen; omega) hB3.out ?_)
          intro w3 hown3 hgrow3
          rw [zRun_made] at hown3
          have F3 := Hid.mk' (FillN.start hown3 (cRun nm ln))
          have L3 : Below wr.heap.size wr w3 := (Below.refl _ _).grown hgrow3 (Nat.le_refl _) (by intro k hk; cases hk)
          clear hown3 hgrow3
          generalize hg3 : wr.heap.size = g3 at *
          go_wp2_with fail
          go_loopw [19] (fun i wq => ∃ k : Nat, k ≤ N ∧ i = .int .i64 k ∧ Hid (FillN wq g1 g3 N 4 80 (cRun nm ln) zRun (k * 4)) ∧ Below g3 wr wq) (fun i _ => N - (intOf i).toNat)
          case atStart => exact ⟨0, Nat.zero_le _, rfl, F3, L3⟩
          case round =>
            clear F3 L3
            obtain ⟨k, hk, rfl, F, hny⟩ := hrel
            have hnw : Hid (Below g1 w _) := hnz.out.trans (hny.mono hB3.out)
            by_cases hlt : k < N
            · rcases HMEM.out.cells with h0 | ⟨b1, o1, rfl, hb1, _, hc1⟩
              · exfalso; omega
              · rcases HEND.out.cells with h0 | ⟨b2, o2, rfl, hb2, _, hc2⟩
                · exfalso; omega
                · rw [hg1] at hb1 hb2
                  have e1 := (hnw.out.cell (p := ⟨b1, o1 + k, none⟩) hb1).trans (hc1 k (by omega))
                  have e2 := (hnw.out.cell (p := ⟨b2, o2 + k, none⟩) hb2).trans (hc2 k (by omega))
                  have f1 : Hid (cNm nm k = .string (nm k)) := rfl
                  have f2 : Hid (cEn ln k = .int .i64 ((sumTo ln (k + 1) : Nat) : Int)) := rfl
                  rw [f1.out] at e1
                  rw [f2.out] at e2
                  clear hc1 hc2 f1 f2
                  have z0 := F.out.cell (j := k * 4) (by omega) (by omega)
                  have z1 := F.out.cell (j := k * 4 + 1) (by omega) (by omega)
                  have z2 := F.out.cell (j := k * 4 + 2) (by omega) (by omega)
                  have z3 := F.out.cell (j := k * 4 + 3) (by omega) (by omega)
                  have y0 := F.out.frozen (k * 4)
                  have y1 := F.out.frozen (k * 4 + 1)
                  have y2 := F.out.frozen (k * 4 + 2)
                  have y3 := F.out.frozen (k * 4 + 3)
                  have HP4 := Hid.mk' (put4 F.out (cRun0 nm ln k) (cRun1 nm ln k) (cRun2 nm ln k) (cRun3 nm ln k))
                  generalize nm k = v1 at *
                  generalize ((sumTo ln (k + 1) : Nat) : Int) = v2 at *
                  have hgg : g1 ≤ g3 := hB3.out
                  have k1 : ((((wr.setCell ⟨g3, k * 4, none⟩ (.string v1)).setCell ⟨g3, k * 4 + 1, none⟩ (.int .i64 0)).setCell ⟨g3, k * 4 + 2, none⟩ (.bool false)).setCell ⟨g3, k * 4 + 3, none⟩ (.int .i64 v2)).cell? ⟨b1, o1 + k, none⟩ = some (.string v1) := (far4 _ _ _ _ (by omega)).trans e1
                  have k2 : ((((wr.setCell ⟨g3, k * 4, none⟩ (.string v1)).setCell ⟨g3, k * 4 + 1, none⟩ (.int .i64 0)).setCell ⟨g3, k * 4 + 2, none⟩ (.bool false)).setCell ⟨g3, k * 4 + 3, none⟩ (.int .i64 v2)).cell? ⟨b2, o2 + k, none⟩ = some (.int .i64 v2) := (far4 _ _ _ _ (by omega)).trans e2
                  have hk0 : (0 : Int) ≤ (k : Int) := by omega
                  have hkT : (k : Int) < (N : Int) := by omega
                  go_wp2_with fail
                  go_region_held3 (fun w' => w'.cell? ⟨b1, o1 + k, none⟩ = some (.string v1) ∧ w'.cell? ⟨b2, o2 + k, none⟩ = some (.int .i64 v2)) (go_keep) (fail)
                  go_wp2_with fail
                  go_roundw
                  case rel => exact ⟨k + 1, by omega, by go_num, HP4, ((((hny.setCell (p := ⟨g3, k * 4, none⟩) (Nat.le_refl _) _).setCell (p := ⟨g3, k * 4 + 1, none⟩) (Nat.le_refl _) _).setCell (p := ⟨g3, k * 4 + 2, none⟩) (Nat.le_refl _) _).setCell (p := ⟨g3, k * 4 + 3, none⟩) (Nat.le_refl _) _).drew⟩
                  case measure => simp [intOf]; omega
            · obtain rfl : N = k := by omega
              have D3 := Hid.mk' (F.out.rd (O := Q) (by unfold maxLen; omega) (fun e => by have h1 := G1.out g3 e; have h2 := hB3.out; omega))
              have D1'' := Hid.mk' (D1'.out.below (by rw [hg3]; exact hny))
              have D2' := Hid.mk' (D2.out.below (by rw [hg3]; exact hny))
              have D3lt : Hid (g3 < wr.heap.size) := F.out.lt
              clear F hlt hk D1' D2 hny
              go_wp2_with fail
              have hB4 : g1 ≤ wr.heap.size := by have h1 := D3lt.out; have h2 := hB3.out; omega
              have hbl : ∀ o, Below wr.heap.size wr (wr.alloc o) := fun o => (Below.refl _ _).alloc (Nat.le_refl _) o
              refine (keep_any _ O Q true mo n3 wp wr.heap.size gb T N st d nm ln g1 g2 g3 (some ⟨g2, 0, none⟩) T ?_ ?_ ?_ hfew HSH.out).mono ?_
              · exact H.out.below (by rw [hg1]; exact hnw.out.trans ((hbl _).mono hB4))
              · refine { pq := fun e => ?_, plt := by simp, c1 := ?_, c2 := ?_, c3 := ?_, rows := D1''.out.below (hbl _), rates := D2'.out.below (hbl _), rnil := rfl, rlen := rfl, runs := D3.out.below (hbl _), sum := HSUM.out, tot := hT, cnt := hN, str := HSTR.out }
                · have h1 := G1.out _ e; omega
                · exact (cell_of_row _ wr.heap.size 1 _ 85 (0, 0) (heap_alloc_new wr _)).trans rfl
                · exact (cell_of_row _ wr.heap.size 2 _ 85 (0, 0) (heap_alloc_new wr _)).trans rfl
                · exact (cell_of_row _ wr.heap.size 3 _ 85 (0, 0) (heap_alloc_new wr _)).trans rfl
              · exact ⟨fun _ => ⟨rfl, rfl⟩, fun e => by cases e⟩
              · rintro e w' ⟨rfl, HKP⟩
                have HKQ := Hid.mk' (HKP.of_below (w := w) (by rw [hg1]; exact hnw.out.trans ((hbl _).mono hB4)))
                clear HKP hbl
                go_wp2_with fail
                go_end0
                exact ⟨rfl, HKQ.out⟩

set_option maxRecDepth 100000 in
set_option maxHeartbeats 2000000 in
theorem zzkeep_no (w : World) (O Q : Nat → Prop) (mo : Nat → Int) (n3 wp gb T N : Nat) (st : St) (d : WData) (nm : Nat → ByteArray) (ln : Nat → Nat) (ams als ahs amem aend : Option Addr) (cms cls chs cmem cend : Nat)
    (h : WI w O Q false mo n3 wp st d) (hms : Rd w Q ams T cms 1 (cMs mo n3 gb)) (hls : Rd w Q als T cls 1 (cLs gb)) (hhs : Rd w Q ahs T chs 1 (cHs gb))
    (hmem : Rd w Q amem N cmem 1 (cNm nm)) (hend : Rd w Q aend N cend 1 (cEn ln)) (hsum : sumTo ln N ≤ T) (hT : T ≤ 131072) (hN : N ≤ 65536) (hstr : ∀ i, i < N → (nm i).size ≤ maxLen) (hfew : st.n + N ≤ 1048576) (hshort : ∀ i, (st.sp i).length + N ≤ 1048576) :
    Calls Try.prog 22 #[.pointer (some ⟨wp, 0, none⟩), .slice ams T cms, .slice als T cls, .slice ahs T chs, .slice none 0 0, .slice amem N cmem, .slice aend N cend] w fun e w' => e = .returned (.tuple #[]) ∧ Kept w w' O Q false mo n3 wp (runsTo gb nm ln st N) := by
  obtain ⟨i76, hi76, hz76, hs76, hb76⟩ := info_parts Try.info76
  have I76 := Hid.mk' (And.intro hi76 (And.intro hz76 (And.intro hs76 hb76))); clear hi76 hz76 hs76 hb76
  obtain ⟨i80, hi80, hz80, hs80, hb80⟩ := info_parts Try.info80
  have I80 := Hid.mk' (And.intro hi80 (And.intro hz80 (And.intro hs80 hb80))); clear hi80 hz80 hs80 hb80
  have H := Hid.mk' h; clear h
  have HMS := Hid.mk' hms; have HLS := Hid.mk' hls; have HHS := Hid.mk' hhs; have HMEM := Hid.mk' hmem; have HEND := Hid.mk' hend
  clear hms hls hhs hmem hend
  have HSUM := Hid.mk' hsum; have HSTR := Hid.mk' hstr; have HSH := Hid.mk' hshort
  clear hsum hstr hshort
  go_enter Try.func22, Try.ntmps22
  go_wp2_with (at_make; refine wpList_make_full _ rfl _ _ 74 rfl w.heap.size 76 i76 (.agg #[.int .i32 0, .int .u32 0, .int .i64 0]) 3 Try.underlying74 I76.out.1 I76.out.2.1 I76.out.2.2.1 _ _ _ _ T rfl rfl rfl rfl (by rw [I76.out.2.2.2]; omega) (by unfold maxLen; omega) (Nat.le_refl _) ?_)
  intro w1 hown1 hgrow1
  rw [zRow_made] at hown1
  have F1 := Hid.mk' (FillN.start hown1 (cRow mo n3 gb))
  have L1 : Below w.heap.size w w1 := (Below.refl _ _).grown hgrow1 (Nat.le_refl _) (by intro k hk; cases hk)
  have G1 : Hid (∀ k, Q k → k < w.heap.size) := H.out.lt
  clear hown1 hgrow1
  generalize hg1 : w.heap.size = g1 at *
  go_wp2_with fail
  go_loopw [15] (fun i wr => ∃ k : Nat, k ≤ T ∧ i = .int .i64 k ∧ Hid (FillN wr g1 g1 T 3 76 (cRow mo n3 gb) zRow (k * 3)) ∧ Below g1 w wr) (fun i _ => T - (intOf i).toNat)
  case atStart => exact ⟨0, Nat.zero_le _, rfl, F1, L1⟩
  case round =>
    clear F1 L1
    obtain ⟨k, hk, rfl, F, hnx⟩ := hrel
    by_cases hlt : k < T
    · rcases HMS.out.cells with h0 | ⟨b1, o1, rfl, hb1, _, hc1⟩
      · exfalso; omega
      · rcases HLS.out.cells with h0 | ⟨b2, o2, rfl, hb2, _, hc2⟩
        · exfalso; omega
        · rcases HHS.out.cells with h0 | ⟨b3, o3, rfl, hb3, _, hc3⟩
          · exfalso; omega
          · rw [hg1] at hb1 hb2 hb3
            have e1 := (hnx.cell (p := ⟨b1, o1 + k, none⟩) hb1).trans (hc1 k (by omega))
            have e2 := (hnx.cell (p := ⟨b2, o2 + k, none⟩) hb2).trans (hc2 k (by omega))
            have e3 := (hnx.cell (p := ⟨b3, o3 + k, none⟩) hb3).trans (hc3 k (by omega))
            have f1 : Hid (cMs mo n3 gb k = .int .i32 (mon mo n3 (gb + k))) := rfl
            have f2 : Hid (cLs gb k = .int .u32 ((gb + k : Nat) : Int)) := rfl
            have f3 : Hid (cHs gb k = .int .i64 (((gb + k : Nat) : Int) * 3 + 1)) := rfl
            rw [f1.out] at e1
            rw [f2.out] at e2
            rw [f3.out] at e3
            clear hc1 hc2 hc3 f1 f2 f3
            have z0 := F.out.cell (j := k * 3) (by omega) (by omega)
            have z1 := F.out.cell (j := k * 3 + 1) (by omega) (by omega)
            have z2 := F.out.cell (j := k * 3 + 2) (by omega) (by omega)
            have y0 := F.out.frozen (k * 3)
            have y1 := F.out.frozen (k * 3 + 1)
            have y2 := F.out.frozen (k * 3 + 2)
            have HP3 := Hid.mk' (put3 F.out (cRow_0 mo n3 gb k) (cRow_1 mo n3 gb k) (cRow_2 mo n3 gb k))
            generalize mon mo n3 (gb + k) = v1 at *
            generalize ((gb + k : Nat) : Int) * 3 + 1 = v3 at *
            generalize ((gb + k : Nat) : Int) = v2 at *
            have k1 : (((wr.setCell ⟨g1, k * 3, none⟩ (.int .i32 v1)).setCell ⟨g1, k * 3 + 1, none⟩ (.int .u32 v2)).setCell ⟨g1, k * 3 + 2, none⟩ (.int .i64 v3)).cell? ⟨b1, o1 + k, none⟩ = some (.int .i32 v1) := (far3 _ _ _ (by omega)).trans e1
            have k2 : (((wr.setCell ⟨g1, k * 3, none⟩ (.int .i32 v1)).setCell ⟨g1, k * 3 + 1, none⟩ (.int .u32 v2)).setCell ⟨g1, k * 3 + 2, none⟩ (.int .i64 v3)).cell? ⟨b2, o2 + k, none⟩ = some (.int .u32 v2) := (far3 _ _ _ (by omega)).trans e2
            have k3 : (((wr.setCell ⟨g1, k * 3, none⟩ (.int .i32 v1)).setCell ⟨g1, k * 3 + 1, none⟩ (.int .u32 v2)).setCell ⟨g1, k * 3 + 2, none⟩ (.int .i64 v3)).cell? ⟨b3, o3 + k, none⟩ = some (.int .i64 v3) := (far3 _ _ _ (by omega)).trans e3
            have hk0 : (0 : Int) ≤ (k : Int) := by omega
            have hkT : (k : Int) < (T : Int) := by omega
            go_wp2_with fail
            go_region_held3 (fun w' => w'.cell? ⟨b1, o1 + k, none⟩ = some (.int .i32 v1) ∧ w'.cell? ⟨b2, o2 + k, none⟩ = some (.int .u32 v2) ∧ w'.cell? ⟨b3, o3 + k, none⟩ = some (.int .i64 v3)) (go_keep) (fail)
            go_wp2_with fail
            go_roundw
            case rel => exact ⟨k + 1, by omega, by go_num, HP3, (((hnx.setCell (p := ⟨g1, k * 3, none⟩) (Nat.le_refl _) _).setCell (p := ⟨g1, k * 3 + 1, none⟩) (Nat.le_refl _) _).setCell (p := ⟨g1, k * 3 + 2, none⟩) (Nat.le_refl _) _).drew⟩
            case measure => simp [intOf]; omega
    · obtain rfl : T = k := by omega
      have D1 := Hid.mk' (F.out.rd (O := Q) (by unfold maxLen; omega) (fun e => by have := G1.out g1 e; omega))
      have K1 : Hid (g1 < wr.heap.size) := F.out.lt
      clear F hlt hk
      have hnn : ∀ wx, (binOp .neq 23 (.slice none 0 0) (.slice none 0 0)).run Try.prog wx = .ok (.bool false) wx := fun wx => run_neq_slice_nil_any (P := Try.prog) wx 23 2 none 0 0 0 0 Try.underlying23
      have D1' := D1
      have D2 : Hid (Rd wr Q none 0 0 1 (cRs gb)) := Rd.empty _ _ _ _
      have hnz := Hid.mk' hnx
      clear D1 hnx
      have hB3 : Hid (g1 ≤ wr.heap.size) := by have h1 := K1.out; exact Nat.le_of_lt (by exact h1)
      go_wp2_with (at_make; refine wpList_make_full _ rfl _ _ 78 rfl g1 80 i80 (.agg #[.string ⟨#[]⟩, .int .i64 0, .bool false, .int .i64 0]) 4 Try.underlying78 I80.out.1 I80.out.2.1 I80.out.2.2.1 _ _ _ _ N rfl rfl rfl rfl (by rw [I80.out.2.2.2]; omega) (by unfold maxLen; omega) hB3.out ?_)
      intro w3 hown3 hgrow3
      rw [zRun_made] at hown3
      have F3 := Hid.mk' (FillN.start hown3 (cRun nm ln))
      have L3 : Below wr.heap.size wr w3 := (Below.refl _ _).grown hgrow3 (Nat.le_refl _) (by intro k hk; cases hk)
      clear hown3 hgrow3
      generalize hg3 : wr.heap.size = g3 at *
      go_wp2_with fail
      go_loopw [19] (fun i wq => ∃ k : Nat, k ≤ N ∧ i = .int .i64 k ∧ Hid (FillN wq g1 g3 N 4 80 (cRun nm ln) zRun (k * 4)) ∧ Below g3 wr wq) (fun i _ => N - (intOf i).toNat)
      case atStart => exact ⟨0, Nat.zero_le _, rfl, F3, L3⟩
      case round =>
        clear F3 L3
        obtain ⟨k, hk, rfl, F, hny⟩ := hrel
        have hnw : Hid (Below g1 w _) := hnz.out.trans (hny.mono hB3.out)
        by_cases hlt : k < N
        · rcases HMEM.out.cells with h0 | ⟨b1, o1, rfl, hb1, _, hc1⟩
          · exfalso; omega
          · rcases HEND.out.cells with h0 | ⟨b2, o2, rfl, hb2, _, hc2⟩
            · exfalso; omega
            · rw [hg1] at hb1 hb2
              have e1 := (hnw.out.cell (p := ⟨b1, o1 + k, none⟩) hb1).trans (hc1 k (by omega))
              have e2 := (hnw.out.cell (p := ⟨b2, o2 + k, none⟩) hb2).trans (hc2 k (by omega))
              have f1 : Hid (cNm nm k = .string (nm k)) := rfl
              have f2 : Hid (cEn ln k = .int .i64 ((sumTo ln (k + 1) : Nat) : Int)) := rfl
              rw [f1.out] at e1
              rw [f2.out] at e2
              clear hc1 hc2 f1 f2
              have z0 := F.out.cell (j := k * 4) (by omega) (by omega)
              have z1 := F.out.cell (j := k * 4 + 1) (by omega) (by omega)
              have z2 := F.out.cell (j := k * 4 + 2) (by omega) (by omega)
              have z3 := F.out.cell (j := k * 4 + 3) (by omega) (by omega)
              have y0 := F.out.frozen (k * 4)
              have y1 := F.out.frozen (k * 4 + 1)
              have y2 := F.out.frozen (k * 4 + 2)
              have y3 := F.out.frozen (k * 4 + 3)
              have HP4 := Hid.mk' (put4 F.out (cRun0 nm ln k) (cRun1 nm ln k) (cRun2 nm ln k) (cRun3 nm ln k))
              generalize nm k = v1 at *
              generalize ((sumTo ln (k + 1) : Nat) : Int) = v2 at *
              have hgg : g1 ≤ g3 := hB3.out
              have k1 : ((((wr.setCell ⟨g3, k * 4, none⟩ (.string v1)).setCell ⟨g3, k * 4 + 1, none⟩ (.int .i64 0)).setCell ⟨g3, k * 4 + 2, none⟩ (.bool false)).setCell ⟨g3, k * 4 + 3, none⟩ (.int .i64 v2)).cell? ⟨b1, o1 + k, none⟩ = some (.string v1) := (far4 _ _ _ _ (by omega)).trans e1
              have k2 : ((((wr.setCell ⟨g3, k * 4, none⟩ (.string v1)).setCell ⟨g3, k * 4 + 1, none⟩ (.int .i64 0)).setCell ⟨g3, k * 4 + 2, none⟩ (.bool false)).setCell ⟨g3, k * 4 + 3, none⟩ (.int .i64 v2)).cell? ⟨b2, o2 + k, none⟩ = some (.int .i64 v2) := (far4 _ _ _ _ (by omega)).trans e2
              have hk0 : (0 : Int) ≤ (k : Int) := by omega
              have hkT : (k : Int) < (N : Int) := by omega
              go_wp2_with fail
              go_region_held3 (fun w' => w'.cell? ⟨b1, o1 + k, none⟩ = some (.string v1) ∧ w'.cell? ⟨b2, o2 + k, none⟩ = some (.int .i64 v2)) (go_keep) (fail)
              go_wp2_with fail
              go_roundw
              case rel => exact ⟨k + 1, by omega, by go_num, HP4, ((((hny.setCell (p := ⟨g3, k * 4, none⟩) (Nat.le_refl _) _).setCell (p := ⟨g3, k * 4 + 1, none⟩) (Nat.le_refl _) _).setCell (p := ⟨g3, k * 4 + 2, none⟩) (Nat.le_refl _) _).setCell (p := ⟨g3, k * 4 + 3, none⟩) (Nat.le_refl _) _).drew⟩
              case measure => simp [intOf]; omega
        · obtain rfl : N = k := by omega
          have D3 := Hid.mk' (F.out.rd (O := Q) (by unfold maxLen; omega) (fun e => by have h1 := G1.out g3 e; have h2 := hB3.out; omega))
          have D1'' := Hid.mk' (D1'.out.below (by rw [hg3]; exact hny))
          have D2' := Hid.mk' (D2.out.below (by rw [hg3]; exact hny))
          have D3lt : Hid (g3 < wr.heap.size) := F.out.lt
          clear F hlt hk D1' D2 hny
          go_wp2_with fail
          have hB4 : g1 ≤ wr.heap.size := by have h1 := D3lt.out; have h2 := hB3.out; omega
          have hbl : ∀ o, Below wr.heap.size wr (wr.alloc o) := fun o => (Below.refl _ _).alloc (Nat.le_refl _) o
          refine (keep_any _ O Q false mo n3 wp wr.heap.size gb T N st d nm ln g1 0 g3 none 0 ?_ ?_ ?_ hfew HSH.out).mono ?_
          · exact H.out.below (by rw [hg1]; exact hnw.out.trans ((hbl _).mono hB4))
          · refine { pq := fun e => ?_, plt := by simp, c1 := ?_, c2 := ?_, c3 := ?_, rows := D1''.out.below (hbl _), rates := D2'.out.below (hbl _), rnil := rfl, rlen := rfl, runs := D3.out.below (hbl _), sum := HSUM.out, tot := hT, cnt := hN, str := HSTR.out }
            · have h1 := G1.out _ e; omega
            · exact (cell_of_row _ wr.heap.size 1 _ 85 (0, 0) (heap_alloc_new wr _)).trans rfl
            · exact (cell_of_row _ wr.heap.size 2 _ 85 (0, 0) (heap_alloc_new wr _)).trans rfl
            · exact (cell_of_row _ wr.heap.size 3 _ 85 (0, 0) (heap_alloc_new wr _)).trans rfl
          · exact ⟨(fun e => by cases e), fun _ => ⟨rfl, rfl⟩⟩
          · rintro e w' ⟨rfl, HKP⟩
            have HKQ := Hid.mk' (HKP.of_below (w := w) (by rw [hg1]; exact hnw.out.trans ((hbl _).mono hB4)))
            clear HKP hbl
            go_wp2_with fail
            go_end0
            exact ⟨rfl, HKQ.out⟩
end Go.Proofs.Qxb6000061a
