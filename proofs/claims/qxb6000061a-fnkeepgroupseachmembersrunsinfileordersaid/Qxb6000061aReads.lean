/-
  THE WALKS OF ZZNewWork (21) AND OF WHAT READS A Work: ZZMembers (24), ZZSpans (25), ZZPlace (29), ZZSpanLen (43), ZZSpanRatesLen (44), ZZSpanRow (45), ZZSpanRate (46).
-/
import Derived.Test.Qxb6000061aWork2
import Derived.WalkSpells
import Derived.WalkLawsBesides
import Derived.BigQuiet
namespace Go.Proofs.Qxb6000061a
open Go.RowKit

set_option maxHeartbeats 400000 in
theorem new_any (w : World) : Calls Try.prog 21 #[] w fun e w' => e = .returned (.pointer (some ⟨w.heap.size + 1, 0, none⟩)) ∧ w' = (w.alloc (.map #[] 0)).alloc (.cells #[.string ⟨#[]⟩, .bool false, .map (some w.heap.size), .slice none 0 0] 73) := by
  have hmm := @run_makeMap Try.prog
  go_enter Try.func21, Try.ntmps21
  go_wp2
  go_ret
  exact ⟨rfl, rfl⟩

variable {w : World} {O Q : Nat → Prop} {rt : Bool} {mo : Nat → Int} {n3 wp : Nat} {st : St} {d : WData}

set_option maxHeartbeats 400000 in
theorem members_any (h : WI w O Q rt mo n3 wp st d) : Calls Try.prog 24 #[.pointer (some ⟨wp, 0, none⟩)] w fun e w' => e = .returned (.int .i64 (st.n : Int)) ∧ w' = w := by
  have c3 := h.cell3
  clear h
  go_enter Try.func24, Try.ntmps24
  go_wp2
  go_ret
  exact ⟨rfl, rfl⟩

set_option maxHeartbeats 400000 in
theorem spans_any (h : WI w O Q rt mo n3 wp st d) (p : Nat) (q : Int) (hq : q = p) (hp : p < st.n) : Calls Try.prog 25 #[.pointer (some ⟨wp, 0, none⟩), .int .i64 q] w fun e w' => e = .returned (.int .i64 ((st.sp p).length : Int)) ∧ w' = w := by
  subst hq
  obtain ⟨g, hsa, _, hc, _⟩ := h.spansAt (by omega)
  have c3 := h.cell3
  rw [hsa] at c3
  have cp := hc p hp
  have hdc : Hid (d.cell st p = .slice (d.va p) (st.sp p).length (d.vcap p)) := rfl
  rw [hdc.out] at cp
  clear h hc hsa
  go_enter Try.func25, Try.ntmps25
  go_wp2
  go_ret
  exact ⟨rfl, rfl⟩

set_option maxHeartbeats 400000 in
theorem place_any (h : WI w O Q rt mo n3 wp st d) (s : ByteArray) (hs : s.size ≤ maxLen) : Calls Try.prog 29 #[.pointer (some ⟨wp, 0, none⟩), .string s] w fun e w' => e = .returned (.tuple #[.int .i64 (((st.m s).getD 0 : Nat) : Int), .bool (st.m s).isSome]) ∧ w' = w := by
  have c2 := h.cell2
  have hl := h.map.look_ok s hs
  clear h
  generalize (st.m s).isSome = ok at *
  generalize (st.m s).getD 0 = v at *
  go_enter Try.func29, Try.ntmps29
  go_wp2
  go_ret2
  exact ⟨rfl, rfl⟩

/-- the two cells of a span -/
theorem WI.spanAt (h : WI w O Q rt mo n3 wp st d) {p k : Nat} {x : Nat × Nat} (hp : p < st.n) (hx : (st.sp p)[k]? = some x) :
    ∃ sg g scap vcap L rv tv, w.cell? ⟨wp, 3, none⟩ = some (.slice (some ⟨sg, 0, none⟩) st.n scap) ∧ w.cell? ⟨sg, p, none⟩ = some (.slice (some ⟨g, 0, none⟩) L vcap) ∧ k < L ∧ L ≤ 1048576 ∧ w.cell? ⟨g, k * 2, none⟩ = some rv ∧ w.cell? ⟨g, k * 2 + 1, none⟩ = some tv ∧ SpanIs w Q rt mo n3 rv tv x := by
  have hk := (List.getElem?_eq_some_iff.1 hx).1
  obtain ⟨sg, hsa, _, hc, _⟩ := h.spansAt (by omega)
  obtain ⟨g, hva, _, hi⟩ := h.innerAt hp (by omega)
  have c3 := h.cell3
  rw [hsa] at c3
  have cp := hc p hp
  unfold WData.cell at cp
  rw [hva] at cp
  exact ⟨sg, g, _, _, _, _, _, c3, cp, hk, h.short p, (hi k hk).1, (hi k hk).2, h.span p hp k x hx⟩

set_option maxHeartbeats 400000 in
theorem spanLen_any (h : WI w O Q rt mo n3 wp st d) (p k : Nat) (q r : Int) (hq : q = p) (hr : r = k) (x : Nat × Nat) (hp : p < st.n) (hx : (st.sp p)[k]? = some x) : Calls Try.prog 43 #[.pointer (some ⟨wp, 0, none⟩), .int .i64 q, .int .i64 r] w fun e w' => e = .returned (.int .i64 (x.2 : Int)) ∧ w' = w := by
  subst hq hr
  obtain ⟨sg, g, scap, vcap, L, rv, tv, c3, cp, hk, hL, c0, _, hS⟩ := h.spanAt hp hx
  obtain ⟨a, c, rfl, _⟩ := hS.rows
  have hf := h.few
  clear h hS hx
  generalize x.2 = sz at *
  go_enter Try.func43, Try.ntmps43
  go_wp2
  go_ret
  exact ⟨rfl, rfl⟩

set_option maxHeartbeats 400000 in
theorem ratesLen_yes (h : WI w O Q true mo n3 wp st d) (p k : Nat) (q r : Int) (hq : q = p) (hr : r = k) (x : Nat × Nat) (hp : p < st.n) (hx : (st.sp p)[k]? = some x) : Calls Try.prog 44 #[.pointer (some ⟨wp, 0, none⟩), .int .i64 q, .int .i64 r] w fun e w' => e = .returned (.int .i64 (x.2 : Int)) ∧ w' = w := by
  subst hq hr
  obtain ⟨sg, g, scap, vcap, L, rv, tv, c3, cp, hk, hL, _, c1, hS⟩ := h.spanAt hp hx
  obtain ⟨a, n, c, rfl, ha, hn, _⟩ := hS.rates
  rw [if_pos rfl] at hn
  have hnil := fun wx => Lib.run_eql_slice_nil (P := Try.prog) wx 77 32 a n c 0 0 Try.underlying77
  rw [ha] at hnil
  clear h hS hx ha
  subst hn
  generalize x.2 = sz at *
  go_enter Try.func44, Try.ntmps44
  go_wp2
  go_ret
  exact ⟨rfl, rfl⟩

set_option maxHeartbeats 400000 in
theorem ratesLen_no (h : WI w O Q false mo n3 wp st d) (p k : Nat) (q r : Int) (hq : q = p) (hr : r = k) (x : Nat × Nat) (hp : p < st.n) (hx : (st.sp p)[k]? = some x) : Calls Try.prog 44 #[.pointer (some ⟨wp, 0, none⟩), .int .i64 q, .int .i64 r] w fun e w' => e = .returned (.int .i64 (-1)) ∧ w' = w := by
  subst hq hr
  obtain ⟨sg, g, scap, vcap, L, rv, tv, c3, cp, hk, hL, _, c1, hS⟩ := h.spanAt hp hx
  obtain ⟨a, n, c, rfl, ha, hn, _⟩ := hS.rates
  obtain rfl : a = none := by cases a with
    | none => rfl
    | some _ => cases ha
  have hn' : n = 0 := by simpa using hn
  subst hn'
  have hnil : ∀ wx, (binOp .eql 77 (.slice none 0 c) (.slice none 0 0)).run Try.prog wx = .ok (.bool true) wx := fun wx => Lib.run_eql_slice_nil (P := Try.prog) wx 77 32 none 0 c 0 0 Try.underlying77
  clear h hS hx ha hn
  go_enter Try.func44, Try.ntmps44
  go_wp2
  go_ret
  exact ⟨rfl, rfl⟩

set_option maxHeartbeats 400000 in
theorem rateAt_any (h : WI w O Q true mo n3 wp st d) (p k j : Nat) (q r t : Int) (hq : q = p) (hr : r = k) (ht : t = j) (x : Nat × Nat) (hp : p < st.n) (hx : (st.sp p)[k]? = some x) (hj : j < x.2) : Calls Try.prog 46 #[.pointer (some ⟨wp, 0, none⟩), .int .i64 q, .int .i64 r, .int .i64 t] w fun e w' => e = .returned (.int .i64 (((x.1 + j : Nat) : Int) * 5 + 2)) ∧ w' = w := by
  subst hq hr ht
  obtain ⟨sg, g, scap, vcap, L, rv, tv, c3, cp, hk, hL, _, c1, hS⟩ := h.spanAt hp hx
  obtain ⟨a, n, c, rfl, _, hn, hrd⟩ := hS.rates
  rw [if_pos rfl] at hn
  subst hn
  rcases hrd.cells with h0 | ⟨b, off, rfl, _, _, hc⟩
  · exfalso; omega
  · have hcj := hc j (by omega)
    have hcv : Hid (cRs x.1 j = .int .i64 (((x.1 + j : Nat) : Int) * 5 + 2)) := rfl
    rw [hcv.out] at hcj
    have hle := hrd.le
    have hroom := hrd.room
    unfold maxLen at hroom
    clear h hS hx hc hrd
    generalize ((x.1 + j : Nat) : Int) * 5 + 2 = v at *
    generalize x.2 = sz at *
    go_enter Try.func46, Try.ntmps46
    go_wp2
    go_ret
    exact ⟨rfl, rfl⟩

set_option maxHeartbeats 400000 in
theorem rowAt_any (h : WI w O Q rt mo n3 wp st d) (p k j : Nat) (q r t : Int) (hq : q = p) (hr : r = k) (ht : t = j) (x : Nat × Nat) (hp : p < st.n) (hx : (st.sp p)[k]? = some x) (hj : j < x.2) :
    Calls Try.prog 45 #[.pointer (some ⟨wp, 0, none⟩), .int .i64 q, .int .i64 r, .int .i64 t] w fun e w' => e = .returned (.tuple #[.int .i32 (mon mo n3 (x.1 + j)), .int .u32 ((x.1 + j : Nat) : Int), .int .i64 (((x.1 + j : Nat) : Int) * 3 + 1)]) ∧ Below w.heap.size w w' := by
  subst hq hr ht
  obtain ⟨sg, g, scap, vcap, L, rv, tv, c3, cp, hk, hL, c0, _, hS⟩ := h.spanAt hp hx
  obtain ⟨a, c, rfl, hrd⟩ := hS.rows
  rcases hrd.cells with h0 | ⟨b, off, rfl, _, _, hc⟩
  · exfalso; omega
  · have e0 := hc (j * 3) (by omega)
    have e1 := hc (j * 3 + 1) (by omega)
    have e2 := hc (j * 3 + 2) (by omega)
    have f0 : Hid (cRow mo n3 x.1 (j * 3) = .int .i32 (mon mo n3 (x.1 + j))) := by show cRow mo n3 x.1 (j * 3) = _; unfold cRow; rw [if_pos (by omega), show j * 3 / 3 = j from by omega]
    have f1 : Hid (cRow mo n3 x.1 (j * 3 + 1) = .int .u32 ((x.1 + j : Nat) : Int)) := by show cRow mo n3 x.1 (j * 3 + 1) = _; unfold cRow; rw [if_neg (by omega), if_pos (by omega), show (j * 3 + 1) / 3 = j from by omega]
    have f2 : Hid (cRow mo n3 x.1 (j * 3 + 2) = .int .i64 (((x.1 + j : Nat) : Int) * 3 + 1)) := by show cRow mo n3 x.1 (j * 3 + 2) = _; unfold cRow; rw [if_neg (by omega), if_neg (by omega), show (j * 3 + 2) / 3 = j from by omega]
    rw [f0.out] at e0
    rw [f1.out, ← Nat.add_assoc] at e1
    rw [f2.out, ← Nat.add_assoc] at e2
    have hle := hrd.le
    have hroom := hrd.room
    unfold maxLen at hroom
    clear h hS hx hc hrd f0 f1 f2
    generalize mon mo n3 (x.1 + j) = v0 at *
    generalize ((x.1 + j : Nat) : Int) * 3 + 1 = v2 at *
    generalize ((x.1 + j : Nat) : Int) = v1 at *
    generalize x.2 = sz at *
    go_enter Try.func45, Try.ntmps45
    go_wp2
    go_region
    all_goals go_wp2
    all_goals go_ret3
    all_goals exact ⟨rfl, ((Below.refl _ _).alloc (Nat.le_refl _) _).drew⟩
end Go.Proofs.Qxb6000061a
