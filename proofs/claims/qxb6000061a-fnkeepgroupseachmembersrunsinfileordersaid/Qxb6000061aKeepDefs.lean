/-
  (*Work).keep (42): WHAT ITS WALK SPEAKS OF.
-/
import Derived.Test.Qxb6000061aWork2
namespace Go.Proofs.Qxb6000061a
open Go.RowKit

def cRun (nm : Nat → ByteArray) (ln : Nat → Nat) : Nat → Value := fun i => if i % 4 = 0 then .string (nm (i / 4)) else if i % 4 = 1 then .int .i64 0 else if i % 4 = 2 then .bool false else .int .i64 ((sumTo ln (i / 4 + 1) : Nat) : Int)
theorem cRun0 (nm : Nat → ByteArray) (ln : Nat → Nat) (k : Nat) : cRun nm ln (k * 4) = .string (nm k) := by unfold cRun; rw [if_pos (by omega), show k * 4 / 4 = k from by omega]
theorem cRun1 (nm : Nat → ByteArray) (ln : Nat → Nat) (k : Nat) : cRun nm ln (k * 4 + 1) = .int .i64 0 := by unfold cRun; rw [if_neg (by omega), if_pos (by omega)]
theorem cRun2 (nm : Nat → ByteArray) (ln : Nat → Nat) (k : Nat) : cRun nm ln (k * 4 + 2) = .bool false := by unfold cRun; rw [if_neg (by omega), if_neg (by omega), if_pos (by omega)]
theorem cRun3 (nm : Nat → ByteArray) (ln : Nat → Nat) (k : Nat) : cRun nm ln (k * 4 + 3) = .int .i64 ((sumTo ln (k + 1) : Nat) : Int) := by unfold cRun; rw [if_neg (by omega), if_neg (by omega), if_neg (by omega), show (k * 4 + 3) / 4 = k from by omega]

/-- the part that keep is handed -/
structure PartIn (w : World) (Q : Nat → Prop) (rt : Bool) (mo : Nat → Int) (n3 gb T N pp : Nat) (nm : Nat → ByteArray) (ln : Nat → Nat) (ra : Option Addr) (rc : Nat) (ta : Option Addr) (tn tc : Nat) (ua : Option Addr) (uc : Nat) : Prop where
  pq : ¬ Q pp
  plt : pp < w.heap.size
  c1 : w.cell? ⟨pp, 1, none⟩ = some (.slice ra T rc)
  c2 : w.cell? ⟨pp, 2, none⟩ = some (.slice ta tn tc)
  c3 : w.cell? ⟨pp, 3, none⟩ = some (.slice ua N uc)
  rows : Rd w Q ra T rc 3 (cRow mo n3 gb)
  rates : Rd w Q ta tn tc 1 (cRs gb)
  rnil : ta.isNone = !rt
  rlen : tn = if rt = true then T else 0
  runs : Rd w Q ua N uc 4 (cRun nm ln)
  sum : sumTo ln N ≤ T
  tot : T ≤ 131072
  cnt : N ≤ 65536
  str : ∀ i, i < N → (nm i).size ≤ maxLen

/-- what has become of the Work -/
def Kept (w w' : World) (O Q : Nat → Prop) (rt : Bool) (mo : Nat → Int) (n3 wp : Nat) (st : St) : Prop :=
  ∃ d O' Q', WI w' O' Q' rt mo n3 wp st d ∧ (∀ k, O' k → O k ∨ w.heap.size ≤ k) ∧ (∀ k, Q' k → Q k ∨ w.heap.size ≤ k) ∧ (∀ k, O k → O' k) ∧ (∀ k, Q k → Q' k) ∧ Keep O w w'

theorem PartIn.later {w w' : World} {O Q Q1 : Nat → Prop} {rt : Bool} {mo : Nat → Int} {n3 gb T N pp : Nat} {nm : Nat → ByteArray} {ln : Nat → Nat} {ra : Option Addr} {rc : Nat} {ta : Option Addr} {tn tc : Nat} {ua : Option Addr} {uc : Nat}
    (h : PartIn w Q rt mo n3 gb T N pp nm ln ra rc ta tn tc ua uc) (hk : Keep O w w') (hO : ∀ k, O k → Q1 k) (hQ : ∀ k, k < w.heap.size → Q1 k → Q k) : PartIn w' Q1 rt mo n3 gb T N pp nm ln ra rc ta tn tc ua uc := by
  have hq : Keep Q1 w w' := hk.mono fun i _ e => hO i e
  have hpp : ¬ Q1 pp := fun e => h.pq (hQ pp h.plt e)
  exact { pq := hpp, plt := Nat.lt_of_lt_of_le h.plt hk.size, c1 := (hq.cell (p := ⟨pp, 1, none⟩) h.plt hpp).trans h.c1, c2 := (hq.cell (p := ⟨pp, 2, none⟩) h.plt hpp).trans h.c2, c3 := (hq.cell (p := ⟨pp, 3, none⟩) h.plt hpp).trans h.c3,
          rows := (h.rows.weaken hQ).keep hq, rates := (h.rates.weaken hQ).keep hq, rnil := h.rnil, rlen := h.rlen, runs := (h.runs.weaken hQ).keep hq, sum := h.sum, tot := h.tot, cnt := h.cnt, str := h.str }

theorem at_new {st : St} {s : ByteArray} (hs : st.m s = none) : (st.place s).at s = st.n := by
  rw [place_new hs]
  show ((updM st.m s st.n) s).getD 0 = st.n
  unfold updM
  rw [if_pos rfl]; rfl
theorem at_old {st : St} {s : ByteArray} {i : Nat} (hs : st.m s = some i) : (st.place s).at s = i := by
  rw [place_old hs]
  show (st.m s).getD 0 = i
  rw [hs]; rfl
theorem at_lt {st : St} (h : ∀ s i, st.m s = some i → i < st.n) (s : ByteArray) : (st.place s).at s < (st.place s).n := by
  cases hs : st.m s with
  | none => rw [at_new hs, place_new hs]; exact Nat.lt_succ_self _
  | some i => rw [at_old hs, place_old hs]; exact h s i hs
theorem place_n (st : St) (s : ByteArray) : (st.place s).n ≤ st.n + 1 := by
  unfold St.place
  by_cases h : (st.m s).isSome = true
  · rw [if_pos h]; omega
  · rw [if_neg h]; exact Nat.le_refl _
theorem place_len (st : St) (s : ByteArray) (i : Nat) : ((st.place s).sp i).length ≤ (st.sp i).length := by
  unfold St.place
  by_cases h : (st.m s).isSome = true
  · rw [if_pos h]; exact Nat.le_refl _
  · rw [if_neg h]
    show (if i = st.n then [] else st.sp i).length ≤ _
    by_cases e : i = st.n
    · rw [if_pos e]; exact Nat.zero_le _
    · rw [if_neg e]; exact Nat.le_refl _
theorem add_len (st : St) (s : ByteArray) (x : Nat × Nat) (i : Nat) : ((st.add s x).sp i).length ≤ (st.sp i).length + 1 := by
  have h := place_len st s i
  show (if i = (st.place s).at s then (st.place s).sp i ++ [x] else (st.place s).sp i).length ≤ _
  by_cases e : i = (st.place s).at s
  · rw [if_pos e, List.length_append]; simp; omega
  · rw [if_neg e]; omega
theorem runsTo_n (gb : Nat) (nm : Nat → ByteArray) (ln : Nat → Nat) (st : St) : ∀ k, (runsTo gb nm ln st k).n ≤ st.n + k
  | 0 => Nat.le_refl _
  | k + 1 => by
    have h1 := runsTo_n gb nm ln st k
    have h2 := place_n (runsTo gb nm ln st k) (nm k)
    show ((runsTo gb nm ln st k).place (nm k)).n ≤ _
    omega
theorem runsTo_len (gb : Nat) (nm : Nat → ByteArray) (ln : Nat → Nat) (st : St) (i : Nat) : ∀ k, ((runsTo gb nm ln st k).sp i).length ≤ (st.sp i).length + k
  | 0 => Nat.le_refl _
  | k + 1 => by
    have h1 := runsTo_len gb nm ln st i k
    have h2 := add_len (runsTo gb nm ln st k) (nm k) (gb + sumTo ln k, ln k) i
    show (((runsTo gb nm ln st k).add (nm k) (gb + sumTo ln k, ln k)).sp i).length ≤ _
    omega

/-- in the midst of a round: the Work as it stands, the part, the run's own box -/
structure Mid (w wc : World) (O Q O1 Q1 : Nat → Prop) (rt : Bool) (mo : Nat → Int) (n3 wp pp gb T N : Nat) (nm : Nat → ByteArray) (ln : Nat → Nat) (ra : Option Addr) (rc : Nat) (ta : Option Addr) (tn tc : Nat) (ua : Option Addr) (uc : Nat) (st : St) (d : WData) (bx : Nat) (s : ByteArray) (en : Nat) : Prop where
  wi : WI wc O1 Q1 rt mo n3 wp st d
  part : PartIn wc Q1 rt mo n3 gb T N pp nm ln ra rc ta tn tc ua uc
  o1 : ∀ k, O1 k → O k ∨ w.heap.size ≤ k
  q1 : ∀ k, Q1 k → Q k ∨ w.heap.size ≤ k
  o2 : ∀ k, O k → O1 k
  q2 : ∀ k, Q k → Q1 k
  keep : Keep O w wc
  bxq : ¬ Q1 bx
  bxlt : bx < wc.heap.size
  b0 : wc.cell? ⟨bx, 0, none⟩ = some (.string s)
  b3 : wc.cell? ⟨bx, 3, none⟩ = some (.int .i64 (en : Int))

theorem Mid.below {w wc wd : World} {O Q O1 Q1 : Nat → Prop} {rt : Bool} {mo : Nat → Int} {n3 wp pp gb T N : Nat} {nm : Nat → ByteArray} {ln : Nat → Nat} {ra : Option Addr} {rc : Nat} {ta : Option Addr} {tn tc : Nat} {ua : Option Addr} {uc : Nat} {st : St} {d : WData} {bx : Nat} {s : ByteArray} {en : Nat}
    (h : Mid w wc O Q O1 Q1 rt mo n3 wp pp gb T N nm ln ra rc ta tn tc ua uc st d bx s en) (hb : Below wc.heap.size wc wd) : Mid w wd O Q O1 Q1 rt mo n3 wp pp gb T N nm ln ra rc ta tn tc ua uc st d bx s en where
  wi := h.wi.below hb
  part := h.part.later (Keep.of_below (O := noO) hb) (fun _ e => e.elim) (fun _ _ e => e)
  o1 := h.o1
  q1 := h.q1
  o2 := h.o2
  q2 := h.q2
  keep := h.keep.trans (Keep.of_below (O := noO) hb) (fun _ _ e => e.elim)
  bxq := h.bxq
  bxlt := Nat.lt_of_lt_of_le h.bxlt hb.size
  b0 := (hb.cell (p := ⟨bx, 0, none⟩) h.bxlt).trans h.b0
  b3 := (hb.cell (p := ⟨bx, 3, none⟩) h.bxlt).trans h.b3

/-! ### the span that is cut out of the part -/
theorem cRow_shift (mo : Nat → Int) (n3 gb fr i : Nat) : cRow mo n3 gb (fr * 3 + i) = cRow mo n3 (gb + fr) i := by
  unfold cRow
  rw [show (fr * 3 + i) % 3 = i % 3 from by omega, show gb + (fr * 3 + i) / 3 = gb + fr + i / 3 from by omega]
theorem cRs_shift (gb fr i : Nat) : cRs gb (fr + i) = cRs (gb + fr) i := by unfold cRs; rw [Nat.add_assoc]

/-- where a cut begins: at an empty one Go keeps the array's own address -/
def cutA (g fr en sz : Nat) : Option Addr := if en = fr then some ⟨g, 0, none⟩ else some ⟨g, fr * sz, none⟩
theorem cutA_same (g en sz : Nat) : cutA g en en sz = some ⟨g, 0, none⟩ := if_pos rfl
theorem cutA_ne {g fr en sz : Nat} (h : ¬ en = fr) : cutA g fr en sz = some ⟨g, fr * sz, none⟩ := if_neg h
theorem cutA_some (g fr en sz : Nat) : (cutA g fr en sz).isNone = false := by
  by_cases h : en = fr
  · subst h; rw [cutA_same]; rfl
  · rw [cutA_ne h]; rfl

theorem rows_cut {w : World} {Q : Nat → Prop} {g T fr en sz : Nat} {c c' : Nat → Value} (h : Rd w Q (some ⟨g, 0, none⟩) T T sz c) (h1 : fr ≤ en) (h2 : en ≤ T) (hc : ∀ i, c (fr * sz + i) = c' i) :
    Rd w Q (cutA g fr en sz) (en - fr) (en - fr) sz c' := by
  refine ⟨Nat.le_refl _, by have := h.room; omega, ?_, ?_⟩
  · intro e
    by_cases he : en = fr
    · omega
    · rw [cutA_ne he] at e; cases e
  · by_cases he : en = fr
    · left; omega
    · right
      rw [cutA_ne he]
      rcases h.cells with h0 | ⟨b, off, hx, hlt, hq, hcc⟩
      · omega
      · simp only [Option.some.injEq, Addr.mk.injEq, and_true] at hx
        obtain ⟨rfl, rfl⟩ := hx
        refine ⟨g, fr * sz, rfl, hlt, hq, fun i hi => ?_⟩
        have hm : fr * sz + (en - fr) * sz = en * sz := by rw [← Nat.add_mul]; congr 1; omega
        have hm2 : en * sz ≤ T * sz := Nat.mul_le_mul_right _ h2
        have := hcc (fr * sz + i) (by omega)
        rw [Nat.zero_add] at this
        rw [this, hc]

/-- a box of two cells that the round has laid for the span -/
structure Box (w0 w : World) (O Q : Nat → Prop) (bx pp sx : Nat) (rv tv : Value) : Prop where
  q : Q sx
  o : ¬ O sx
  far : w0.heap.size ≤ sx
  nb : bx ≠ sx
  np : pp ≠ sx
  lt : sx < w.heap.size
  c0 : w.cell? ⟨sx, 0, none⟩ = some rv
  c1 : w.cell? ⟨sx, 1, none⟩ = some tv
  f1 : w.frozen? ⟨sx, 1, none⟩ = false

theorem Box.set {w0 w : World} {O Q : Nat → Prop} {bx pp sx : Nat} {rv tv : Value} (B : Box w0 w O Q bx pp sx rv tv) (v : Value) : Box w0 (w.setCell ⟨sx, 1, none⟩ v).drew O Q bx pp sx rv v := by
  refine ⟨B.q, B.o, B.far, B.nb, B.np, by simpa using B.lt, ?_, ?_, ?_⟩
  · exact (World.cell?_setCell_other w ⟨sx, 1, none⟩ ⟨sx, 0, none⟩ v (by simp)).trans B.c0
  · exact World.cell?_setCell_same w ⟨sx, 1, none⟩ v B.c1
  · exact (World.frozen?_setCell w ⟨sx, 1, none⟩ ⟨sx, 1, none⟩ v).trans B.f1

theorem span_yes {w : World} {Q : Nat → Prop} {mo : Nat → Int} {n3 gb T N pp : Nat} {nm : Nat → ByteArray} {ln : Nat → Nat} {rg tg : Nat} {ua : Option Addr} {uc : Nat}
    (h : PartIn w Q true mo n3 gb T N pp nm ln (some ⟨rg, 0, none⟩) T (some ⟨tg, 0, none⟩) T T ua uc) {fr en : Nat} (h1 : fr ≤ en) (h2 : en ≤ T) :
    SpanIs w Q true mo n3 (.slice (cutA rg fr en 3) (en - fr) (en - fr)) (.slice (cutA tg fr en 1) (en - fr) (en - fr)) (gb + fr, en - fr) := by
  refine ⟨⟨_, _, rfl, rows_cut h.rows h1 h2 (cRow_shift mo n3 gb fr)⟩, ⟨_, _, _, rfl, cutA_some _ _ _ _, rfl, ?_⟩⟩
  exact rows_cut (c' := cRs (gb + fr)) h.rates h1 h2 (fun i => by rw [Nat.mul_one]; exact cRs_shift gb fr i)
theorem span_no {w : World} {Q : Nat → Prop} {mo : Nat → Int} {n3 gb T N pp : Nat} {nm : Nat → ByteArray} {ln : Nat → Nat} {rg : Nat} {ta : Option Addr} {tn tc : Nat} {ua : Option Addr} {uc : Nat}
    (h : PartIn w Q false mo n3 gb T N pp nm ln (some ⟨rg, 0, none⟩) T ta tn tc ua uc) {fr en : Nat} (h1 : fr ≤ en) (h2 : en ≤ T) :
    SpanIs w Q false mo n3 (.slice (cutA rg fr en 3) (en - fr) (en - fr)) (.slice none 0 0) (gb + fr, en - fr) :=
  ⟨⟨_, _, rfl, rows_cut h.rows h1 h2 (cRow_shift mo n3 gb fr)⟩, ⟨_, _, _, rfl, rfl, rfl, Rd.empty _ _ _ _⟩⟩

section
variable {w wc : World} {O Q O1 Q1 : Nat → Prop} {rt : Bool} {mo : Nat → Int} {n3 wp pp gb T N : Nat} {nm : Nat → ByteArray} {ln : Nat → Nat} {ra : Option Addr} {rc : Nat} {ta : Option Addr} {tn tc : Nat} {ua : Option Addr} {uc : Nat} {st : St} {d : WData} {bx : Nat} {s : ByteArray} {en : Nat}

theorem Mid.turn (h : Mid w wc O Q O1 Q1 rt mo n3 wp pp gb T N nm ln ra rc ta tn tc ua uc st d bx s en) {W' : World} {g : Nat} {st' : St} {d' : WData} (hw : WI W' (plus O1 g) (plus Q1 g) rt mo n3 wp st' d') (hk : Keep O1 wc W') (hg : O1 g ∨ wc.heap.size ≤ g) :
    Mid w W' O Q (plus O1 g) (plus Q1 g) rt mo n3 wp pp gb T N nm ln ra rc ta tn tc ua uc st' d' bx s en := by
  have hq : ∀ k, k < wc.heap.size → plus Q1 g k → Q1 k := fun k hk e => e.elim (fun e => e) (fun e => by
    subst e
    rcases hg with e | e
    · exact h.wi.oq _ e
    · omega)
  have hs := h.keep.size
  have hbx : ¬ plus Q1 g bx := fun e => h.bxq (hq bx h.bxlt e)
  refine { wi := hw, part := h.part.later hk (fun k e => .inl (h.wi.oq k e)) hq, o1 := ?_, q1 := ?_, o2 := fun k e => .inl (h.o2 k e), q2 := fun k e => .inl (h.q2 k e), keep := ?_, bxq := hbx, bxlt := Nat.lt_of_lt_of_le h.bxlt hk.size, b0 := ?_, b3 := ?_ }
  · intro k e
    rcases e with e | e
    · exact h.o1 k e
    · subst e
      rcases hg with e | e
      · exact h.o1 _ e
      · right; omega
  · intro k e
    rcases e with e | e
    · exact h.q1 k e
    · subst e
      rcases hg with e | e
      · exact h.q1 _ (h.wi.oq _ e)
      · right; omega
  · exact h.keep.trans hk (fun k hk e => (h.o1 k e).elim (fun e => e) (fun e => by omega))
  · exact (hk.cell (p := ⟨bx, 0, none⟩) h.bxlt (fun e => h.bxq (h.wi.oq _ e))).trans h.b0
  · exact (hk.cell (p := ⟨bx, 3, none⟩) h.bxlt (fun e => h.bxq (h.wi.oq _ e))).trans h.b3

/-- a new box sx: the data keep clear of it, too -/
theorem Mid.addQ (h : Mid w wc O Q O1 Q1 rt mo n3 wp pp gb T N nm ln ra rc ta tn tc ua uc st d bx s en) {we : World} {sx : Nat} (hb : Below wc.heap.size wc we) (h1 : wc.heap.size ≤ sx) (h2 : sx < we.heap.size) :
    Mid w we O Q O1 (plus Q1 sx) rt mo n3 wp pp gb T N nm ln ra rc ta tn tc ua uc st d bx s en := by
  have hs := h.keep.size
  have hq : ∀ k, k < wc.heap.size → plus Q1 sx k → Q1 k := fun k hk e => e.elim (fun e => e) (fun e => by omega)
  have kb : Keep noO wc we := Keep.of_below hb
  refine { wi := ?_, part := h.part.later kb (fun _ e => e.elim) hq, o1 := h.o1, q1 := ?_, o2 := h.o2, q2 := fun k e => .inl (h.q2 k e), keep := h.keep.trans kb (fun _ _ e => e.elim), bxq := fun e => h.bxq (hq bx h.bxlt e), bxlt := Nat.lt_of_lt_of_le h.bxlt hb.size, b0 := (hb.cell (p := ⟨bx, 0, none⟩) h.bxlt).trans h.b0, b3 := (hb.cell (p := ⟨bx, 3, none⟩) h.bxlt).trans h.b3 }
  · exact h.wi.later kb (fun _ _ e => e) (fun k e => e.elim .inl (fun e => .inr (by omega))) (fun k e => e.elim (fun e => Nat.lt_of_lt_of_le (h.wi.lt k e) hb.size) (fun e => by omega)) (fun k e => .inl (h.wi.oq k e)) (fun _ e => e.elim)
  · intro k e
    rcases e with e | e
    · exact h.q1 k e
    · right; omega
/-- the box is written -/
theorem Mid.boxed (h : Mid w wc O Q O1 Q1 rt mo n3 wp pp gb T N nm ln ra rc ta tn tc ua uc st d bx s en) {sx o : Nat} {u : Value} (hq : Q1 sx) (ho : ¬ O1 sx) (hf : w.heap.size ≤ sx) :
    Mid w (wc.setCell ⟨sx, o, none⟩ u) O Q O1 Q1 rt mo n3 wp pp gb T N nm ln ra rc ta tn tc ua uc st d bx s en := by
  have kb := keep_setCell (w := wc) (b := sx) (o := o) (u := u)
  have hbx : ¬ bx = sx := fun e => h.bxq (e ▸ hq)
  exact { wi := h.wi.keep kb (fun k e => e ▸ hq) (fun k e e' => ho (e' ▸ e)), part := h.part.later kb (fun k e => e ▸ hq) (fun _ _ e => e), o1 := h.o1, q1 := h.q1, o2 := h.o2, q2 := h.q2, keep := h.keep.trans kb (fun k hk e => by omega), bxq := h.bxq, bxlt := Nat.lt_of_lt_of_le h.bxlt kb.size, b0 := (kb.cell (p := ⟨bx, 0, none⟩) h.bxlt hbx).trans h.b0, b3 := (kb.cell (p := ⟨bx, 3, none⟩) h.bxlt hbx).trans h.b3 }

theorem Mid.newName (h : Mid w wc O Q O1 Q1 rt mo n3 wp pp gb T N nm ln ra rc ta tn tc ua uc st d bx s en) (hm : st.m s = none) (hn : st.n < 1048576) {w1 w2 : World} {g cap : Nat} {o : Obj} (k1 : Keep (fun k => k = d.mb) wc w1) (hm1 : MapAt w1 d.mb (st.n + 1) (updM st.m s st.n))
    (hgrow : (w1.alloc o).grownBy w2 (Value.slice d.sa st.n d.scap).ownBlock) (hown : w2.ownsRow 0 90 1 (.slice (some ⟨g, 0, none⟩) (st.n + 1) cap) (st.n + 1) (rowOf (d.cell st) st.n ++ [.slice none 0 0]))
    (hat : (Value.slice d.sa st.n d.scap).ownBlock = some g ∨ g = w1.heap.size + 1) :
    Mid w (w2.setCell ⟨wp, 3, none⟩ (.slice (some ⟨g, 0, none⟩) (st.n + 1) cap)) O Q (plus O1 g) (plus Q1 g) rt mo n3 wp pp gb T N nm ln ra rc ta tn tc ua uc (st.place s) (d.grow st.n g cap) bx s en := by
  have k2 : Keep (fun k => some k = (Value.slice d.sa st.n d.scap).ownBlock) w1 w2 := ((Keep.refl _ w1).alloc o).trans (Keep.of_grown hgrow) (fun _ _ e => e)
  have hw := h.wi.newName hm hn k1 hm1 k2 hown (hat.elim .inl (fun e => .inr (by omega)))
  have hs1 := k1.size
  have hob : ∀ k, some k = (Value.slice d.sa st.n d.scap).ownBlock → O1 k := fun k e => by
    obtain ⟨x, hx, rfl⟩ := ownBlock_slice e.symm
    exact (h.wi.sblk x hx).1
  refine h.turn hw ?_ (hat.elim (fun e => .inl (hob g e.symm)) (fun e => .inr (by omega)))
  have q1 : Keep O1 wc w1 := k1.mono (fun i _ e => by subst e; exact h.wi.omb)
  have q2 : Keep O1 wc w2 := q1.trans k2 (fun i _ e => hob i e)
  exact q2.setCell _ _ (fun _ => h.wi.owp)

theorem Mid.push (h : Mid w wc O Q O1 Q1 rt mo n3 wp pp gb T N nm ln ra rc ta tn tc ua uc st d bx s en) {i : Nat} (hi : i < st.n) {x : Nat × Nat} {rv tv : Value} (hx : SpanIs wc Q1 rt mo n3 rv tv x) (hsh : (st.sp i).length < 1048576) {w2 : World} {g cap sg : Nat} {o : Obj} (hsg : d.sa = some ⟨sg, 0, none⟩)
    (hgrow : (wc.alloc o).grownBy w2 (d.cell st i).ownBlock) (hown : w2.ownsRow 0 92 2 (.slice (some ⟨g, 0, none⟩) ((st.sp i).length + 1) cap) ((st.sp i).length + 1) (rowOf (d.two i) ((st.sp i).length * 2) ++ [rv, tv]))
    (hat : (d.cell st i).ownBlock = some g ∨ g = wc.heap.size + 1) :
    Mid w (w2.setCell ⟨sg, i, none⟩ (.slice (some ⟨g, 0, none⟩) ((st.sp i).length + 1) cap)) O Q (plus O1 g) (plus Q1 g) rt mo n3 wp pp gb T N nm ln ra rc ta tn tc ua uc (st.push i x) (d.put i (st.sp i).length g cap rv tv) bx s en := by
  have k1 : Keep (fun k => some k = (d.cell st i).ownBlock) wc w2 := ((Keep.refl _ wc).alloc o).trans (Keep.of_grown hgrow) (fun _ _ e => e)
  have hw := h.wi.push hi hx hsh hsg k1 hown (hat.elim .inl (fun e => .inr (by omega)))
  have hob : ∀ k, some k = (d.cell st i).ownBlock → O1 k := fun k e => by
    obtain ⟨x, hx, rfl⟩ := ownBlock_slice e.symm
    exact (h.wi.iblk i hi x hx).1
  refine h.turn hw ?_ (hat.elim (fun e => .inl (hob g e.symm)) (fun e => .inr (by omega)))
  have q1 : Keep O1 wc w2 := k1.mono (fun i _ e => hob i e)
  exact q1.setCell _ _ (fun _ => (h.wi.sblk _ hsg).1)
end
end Go.Proofs.Qxb6000061a
