/-
  keepPart (20): WHAT ITS WALK SPEAKS OF.
-/
import Derived.Test.Qxb6000061aSmall
namespace Go.Proofs.Qxb6000061a
open Go.RowKit

theorem Try.info69 : (Try.prog.info? 69).map (fun i => (i.zero, i.size, i.bytes)) = some (some (.int .u32 0), 1, 4) := by kernel_rfl
theorem Try.info2 : (Try.prog.info? 2).map (fun i => (i.zero, i.size, i.bytes)) = some (some (.int .i64 0), 1, 8) := by kernel_rfl
theorem Try.info3 : (Try.prog.info? 3).map (fun i => (i.zero, i.size, i.bytes)) = some (some (.int .i64 0), 1, 8) := by kernel_rfl
theorem Try.info21' : (Try.prog.info? 21).map (fun i => (i.zero, i.size, i.bytes)) = some (some (.int .i32 0), 1, 4) := by kernel_rfl
theorem Try.info9' : (Try.prog.info? 9).map (fun i => (i.zero, i.size, i.bytes)) = some (some (.string ⟨#[]⟩), 1, 16) := by kernel_rfl

/-! ### a row that is being filled from its head -/
def pt (c : Nat → Value) (z : Value) (k : Nat) : Nat → Value := fun i => if i < k then c i else z
theorem pt_at (c : Nat → Value) (z : Value) (k : Nat) : pt c z k k = z := if_neg (Nat.lt_irrefl _)
theorem pt_zero (c : Nat → Value) (z : Value) (n : Nat) : rowOf (fun _ => z) n = rowOf (pt c z 0) n := rowOf_congr fun _ _ => (if_neg (Nat.not_lt_zero _)).symm
theorem pt_step (c : Nat → Value) (z : Value) (k n : Nat) : (rowOf (pt c z k) n).set k (c k) = rowOf (pt c z (k + 1)) n := by
  rw [rowOf_set]
  refine rowOf_congr fun i _ => ?_
  unfold updV pt
  by_cases e : i = k
  · subst e; rw [if_pos rfl, if_pos (by omega)]
  · rw [if_neg e]
    by_cases h : i < k
    · rw [if_pos h, if_pos (by omega)]
    · rw [if_neg h, if_neg (by omega)]
theorem pt_full (c : Nat → Value) (z : Value) (n : Nat) : rowOf (pt c z n) n = rowOf c n := rowOf_congr fun _ hi => if_pos hi

/-- the row at block g, of n one-cell elements of type e: c's, the first k -/
def Fill (w : World) (base g n : Nat) (e : TypeId) (c : Nat → Value) (z : Value) (k : Nat) : Prop :=
  w.ownsRow base e 1 (.slice (some ⟨g, 0, none⟩) n n) n (rowOf (pt c z k) n)
theorem Fill.start {w : World} {base g n : Nat} {e : TypeId} {z : Value} (h : w.ownsRow base e 1 (.slice (some ⟨g, 0, none⟩) n n) n (madeCells #[z] n).toList) (c : Nat → Value) : Fill w base g n e c z 0 := by
  unfold Fill; rw [← pt_zero, ← rowOf_zero]; exact h
theorem Fill.cell {w : World} {base g n : Nat} {e : TypeId} {c : Nat → Value} {z : Value} {k : Nat} (h : Fill w base g n e c z k) (hk : k < n) : w.cell? ⟨g, k, none⟩ = some z := by
  rw [World.ownsRow.cellAt h k (by omega), rowOf_at hk, pt_at]
theorem Fill.frozen {w : World} {base g n : Nat} {e : TypeId} {c : Nat → Value} {z : Value} {k : Nat} (h : Fill w base g n e c z k) (j : Nat) : w.frozen? ⟨g, j, none⟩ = false := World.ownsRow.frozenAt h j
theorem Fill.put {w : World} {base g n : Nat} {e : TypeId} {c : Nat → Value} {z : Value} {k : Nat} (h : Fill w base g n e c z k) {v : Value} (hv : c k = v) : Fill (w.setCell ⟨g, k, none⟩ v) base g n e c z (k + 1) := by
  have := (World.ownsRow.stored h k (c k)).1
  rw [pt_step] at this
  subst hv
  exact this
theorem Fill.keep {O : Nat → Prop} {w w' : World} {base g n : Nat} {e : TypeId} {c : Nat → Value} {z : Value} {k : Nat} (h : Fill w base g n e c z k) (hk : Keep O w w') (ho : ¬ O g) : Fill w' base g n e c z k :=
  hk.ownsRow h (fun k e => by simp [Value.ownBlock] at e; subst e; exact ho)
theorem Fill.far {w : World} {base g n : Nat} {e : TypeId} {c : Nat → Value} {z : Value} {k : Nat} (h : Fill w base g n e c z k) {b o : Nat} (u : Value) (hne : g ≠ b) : Fill (w.setCell ⟨b, o, none⟩ u) base g n e c z k :=
  h.keep ((Keep.refl (fun k => k = b) w).setCell _ _ (fun _ => rfl)) hne
theorem Fill.lt {w : World} {base g n : Nat} {e : TypeId} {c : Nat → Value} {z : Value} {k : Nat} (h : Fill w base g n e c z k) : g < w.heap.size := (World.ownsRow.lt h g rfl).2
theorem Fill.rd {w : World} {O : Nat → Prop} {base g n : Nat} {e : TypeId} {c : Nat → Value} {z : Value} (h : Fill w base g n e c z n) (hm : n ≤ maxLen) (hO : ¬ O g) : Rd w O (some ⟨g, 0, none⟩) n n 1 c := by
  unfold Fill at h
  rw [pt_full] at h
  exact Rd.of_own (by rw [Nat.mul_one]; exact h) hm hO

def cMs (mo : Nat → Int) (n3 g0 : Nat) : Nat → Value := fun j => .int .i32 (mon mo n3 (g0 + j))
def cLs (g0 : Nat) : Nat → Value := fun j => .int .u32 ((g0 + j : Nat) : Int)
def cHs (g0 : Nat) : Nat → Value := fun j => .int .i64 (((g0 + j : Nat) : Int) * 3 + 1)
def cRs (g0 : Nat) : Nat → Value := fun j => .int .i64 (((g0 + j : Nat) : Int) * 5 + 2)
def cNm (nm : Nat → ByteArray) : Nat → Value := fun i => .string (nm i)
def cEn (ln : Nat → Nat) : Nat → Value := fun i => .int .i64 ((sumTo ln (i + 1) : Nat) : Int)

/-- a part, as keepPart lays it out: T rows from the global place g0 on, N runs -/
structure Part (w : World) (O : Nat → Prop) (rt : Bool) (mo : Nat → Int) (n3 g0 T N : Nat) (nm : Nat → ByteArray) (ln : Nat → Nat) (ams als ahs ars amem aend : Option Addr) (Tr : Nat) : Prop where
  ms : Rd w O ams T T 1 (cMs mo n3 g0)
  ls : Rd w O als T T 1 (cLs g0)
  hs : Rd w O ahs T T 1 (cHs g0)
  rs : Rd w O ars Tr Tr 1 (cRs g0)
  rnil : ars.isNone = !rt
  rlen : Tr = if rt = true then T else 0
  mem : Rd w O amem N N 1 (cNm nm)
  ends : Rd w O aend N N 1 (cEn ln)

theorem Part.keep {w w' : World} {O : Nat → Prop} {rt : Bool} {mo : Nat → Int} {n3 g0 T N : Nat} {nm : Nat → ByteArray} {ln : Nat → Nat} {ams als ahs ars amem aend : Option Addr} {Tr : Nat} (h : Part w O rt mo n3 g0 T N nm ln ams als ahs ars amem aend Tr) (hk : Keep O w w') : Part w' O rt mo n3 g0 T N nm ln ams als ahs ars amem aend Tr :=
  ⟨h.ms.keep hk, h.ls.keep hk, h.hs.keep hk, h.rs.keep hk, h.rnil, h.rlen, h.mem.keep hk, h.ends.keep hk⟩
theorem Part.weaken {w : World} {O O' : Nat → Prop} {rt : Bool} {mo : Nat → Int} {n3 g0 T N : Nat} {nm : Nat → ByteArray} {ln : Nat → Nat} {ams als ahs ars amem aend : Option Addr} {Tr : Nat} (h : Part w O rt mo n3 g0 T N nm ln ams als ahs ars amem aend Tr) (hO : ∀ k, k < w.heap.size → O' k → O k) : Part w O' rt mo n3 g0 T N nm ln ams als ahs ars amem aend Tr :=
  ⟨h.ms.weaken hO, h.ls.weaken hO, h.hs.weaken hO, h.rs.weaken hO, h.rnil, h.rlen, h.mem.weaken hO, h.ends.weaken hO⟩

/-- what keepPart hands back -/
def PartTold (rt : Bool) (mo : Nat → Int) (n3 g0 T N : Nat) (nm : Nat → ByteArray) (ln : Nat → Nat) (e : Ending) (w' : World) : Prop :=
  ∃ ams als ahs ars amem aend Tr, e = .returned (.tuple #[.slice ams T T, .slice als T T, .slice ahs T T, .slice ars Tr Tr, .slice amem N N, .slice aend N N]) ∧ Part w' noO rt mo n3 g0 T N nm ln ams als ahs ars amem aend Tr

theorem str_eq {a b : ByteArray} (h : a = b) : Value.string a = .string b := by rw [h]

theorem step3 {w wr : World} {g1 g2 g3 T j : Nat} {e1 e2 e3 : TypeId} {c1 c2 c3 : Nat → Value} {z1 z2 z3 : Value} (R1 : Fill wr g1 g1 T e1 c1 z1 j) (R2 : Fill wr g1 g2 T e2 c2 z2 j) (R3 : Fill wr g1 g3 T e3 c3 z3 j) (hb : Below g1 w wr)
    (n12 : g1 < g2) (n23 : g2 < g3) {v1 v2 v3 : Value} (h1 : c1 j = v1) (h2 : c2 j = v2) (h3 : c3 j = v3) :
    Fill (((wr.setCell ⟨g1, j, none⟩ v1).setCell ⟨g2, j, none⟩ v2).setCell ⟨g3, j, none⟩ v3) g1 g1 T e1 c1 z1 (j + 1) ∧ Fill (((wr.setCell ⟨g1, j, none⟩ v1).setCell ⟨g2, j, none⟩ v2).setCell ⟨g3, j, none⟩ v3) g1 g2 T e2 c2 z2 (j + 1) ∧
    Fill (((wr.setCell ⟨g1, j, none⟩ v1).setCell ⟨g2, j, none⟩ v2).setCell ⟨g3, j, none⟩ v3) g1 g3 T e3 c3 z3 (j + 1) ∧ Below g1 w (((wr.setCell ⟨g1, j, none⟩ v1).setCell ⟨g2, j, none⟩ v2).setCell ⟨g3, j, none⟩ v3) := by
  refine ⟨((R1.put h1).far v2 (by omega)).far v3 (by omega), ((R2.far v1 (by omega)).put h2).far v3 (by omega), ((R3.far v1 (by omega)).far v2 (by omega)).put h3, ?_⟩
  exact ((hb.setCell (p := ⟨g1, j, none⟩) (Nat.le_refl _) v1).setCell (p := ⟨g2, j, none⟩) (by show g1 ≤ g2; omega) v2).setCell (p := ⟨g3, j, none⟩) (by show g1 ≤ g3; omega) v3
theorem step4 {w wr : World} {g1 g2 g3 g4 T j : Nat} {e1 e2 e3 e4 : TypeId} {c1 c2 c3 c4 : Nat → Value} {z1 z2 z3 z4 : Value} (R1 : Fill wr g1 g1 T e1 c1 z1 j) (R2 : Fill wr g1 g2 T e2 c2 z2 j) (R3 : Fill wr g1 g3 T e3 c3 z3 j) (R4 : Fill wr g1 g4 T e4 c4 z4 j) (hb : Below g1 w wr)
    (n12 : g1 < g2) (n23 : g2 < g3) (n34 : g3 < g4) {v1 v2 v3 v4 : Value} (h1 : c1 j = v1) (h2 : c2 j = v2) (h3 : c3 j = v3) (h4 : c4 j = v4) :
    Fill ((((wr.setCell ⟨g1, j, none⟩ v1).setCell ⟨g2, j, none⟩ v2).setCell ⟨g3, j, none⟩ v3).setCell ⟨g4, j, none⟩ v4) g1 g1 T e1 c1 z1 (j + 1) ∧ Fill ((((wr.setCell ⟨g1, j, none⟩ v1).setCell ⟨g2, j, none⟩ v2).setCell ⟨g3, j, none⟩ v3).setCell ⟨g4, j, none⟩ v4) g1 g2 T e2 c2 z2 (j + 1) ∧
    Fill ((((wr.setCell ⟨g1, j, none⟩ v1).setCell ⟨g2, j, none⟩ v2).setCell ⟨g3, j, none⟩ v3).setCell ⟨g4, j, none⟩ v4) g1 g3 T e3 c3 z3 (j + 1) ∧ Fill ((((wr.setCell ⟨g1, j, none⟩ v1).setCell ⟨g2, j, none⟩ v2).setCell ⟨g3, j, none⟩ v3).setCell ⟨g4, j, none⟩ v4) g1 g4 T e4 c4 z4 (j + 1) ∧
    Below g1 w ((((wr.setCell ⟨g1, j, none⟩ v1).setCell ⟨g2, j, none⟩ v2).setCell ⟨g3, j, none⟩ v3).setCell ⟨g4, j, none⟩ v4) := by
  obtain ⟨q1, q2, q3, q⟩ := step3 R1 R2 R3 hb n12 n23 h1 h2 h3
  refine ⟨q1.far v4 (by omega), q2.far v4 (by omega), q3.far v4 (by omega), (((R4.far v1 (by omega)).far v2 (by omega)).far v3 (by omega)).put h4, ?_⟩
  exact q.setCell (p := ⟨g4, j, none⟩) (by show g1 ≤ g4; omega) v4
theorem step2 {w wr : World} {B B' g1 g2 N i : Nat} {e1 e2 : TypeId} {c1 c2 : Nat → Value} {z1 z2 : Value} (R1 : Fill wr B g1 N e1 c1 z1 i) (R2 : Fill wr B g2 N e2 c2 z2 i) (hb : Below B' w wr) (hB : B' ≤ g1) (n12 : g1 < g2) {v1 v2 : Value} (h1 : c1 i = v1) (h2 : c2 i = v2) :
    Fill ((wr.setCell ⟨g1, i, none⟩ v1).setCell ⟨g2, i, none⟩ v2) B g1 N e1 c1 z1 (i + 1) ∧ Fill ((wr.setCell ⟨g1, i, none⟩ v1).setCell ⟨g2, i, none⟩ v2) B g2 N e2 c2 z2 (i + 1) ∧ Below B' w ((wr.setCell ⟨g1, i, none⟩ v1).setCell ⟨g2, i, none⟩ v2) := by
  refine ⟨(R1.put h1).far v2 (by omega), (R2.far v1 (by omega)).put h2, ?_⟩
  exact (hb.setCell (p := ⟨g1, i, none⟩) hB v1).setCell (p := ⟨g2, i, none⟩) (by show B' ≤ g2; omega) v2
end Go.Proofs.Qxb6000061a
