/-
  ONE STATEMENT OF keep: 'w.spans[m] = append(w.spans[m], s)': a region that draws its order and holds an append, walked by itself.
-/
import Derived.Test.Qxb6000061aKeepDefs
import Derived.WalkSpells
import Derived.WalkLawsBesides
import Derived.Deep.RegionLaw
namespace Go.Proofs.Qxb6000061a
open Go.RowKit

/-- region n of a text -/
def regionOf (n : Nat) : Code → Option Code
  | .region k ops b => if k = n then some (.region k ops b) else none
  | .seq a b => match regionOf n a with
    | some c => some c
    | none => regionOf n b
  | .block _ c => regionOf n c
  | .scope c => regionOf n c
  | .loop c => regionOf n c
  | .cond _ a b => match regionOf n a with
    | some c => some c
    | none => regionOf n b
  | _ => none

theorem Try.info92 : (Try.prog.info? 92).map (fun i => (i.zero, i.size, i.bytes)) = some (some (.agg #[.slice none 0 0, .slice none 0 0]), 2, 48) := by kernel_rfl

/-- a post that speaks of the way that ends by itself alone -/
def Only (R : Act → World → Prop) : Exit → Act → World → Prop
  | .normal, a, w => R a w
  | _, _, _ => False
theorem Only.out {P : Program} {c : Code} {R : Act → World → Prop} {Q : Exit → Act → World → Prop} {a : Act} {w : World} (h : c.wp P (Only R) a w) (hq : ∀ a' w', R a' w' → Q .normal a' w') : c.wp P Q a w :=
  Code.wp_mono (fun e a' w' q => by cases e <;> first | exact hq _ _ q | exact (q : False).elim) h

set_option maxRecDepth 1000000 in
set_option maxHeartbeats 8000000 in
theorem region12 {R : Act → World → Prop} (wc : World) (wp sx sg m n scap L vcap : Nat) (va ra : Option Addr) (rn rc : Nat) (ta : Option Addr) (tn tc : Nat) (xs : List Value)
    (u1 u2 u3 u4 u5 u6 u8 u10 u11 u12 u13 u14 u15 u16 u17 u18 u19 u20 u21 u22 u23 u24 u25 u26 u27 u28 u29 u30 u31 u32 u33 u34 u35 u36 u37 u38 u39 u40 u41 u42 u43 u44 u45 u46 u47 u48 u49 u50 u51 u52 u53 u54 u55 u56 u57 u58 u59 u60 u61 u62 u63 u64 u65 u66 u67 u68 u69 u70 u71 u72 u73 u74 u75 u76 u77 u78 u79 u80 u81 u82 u83 u84 u85 u86 u87 u88 u89 u90 u91 u92 u93 u94 u95 u96 u97 : Value)
    (c3 : wc.cell? ⟨wp, 3, none⟩ = some (.slice (some ⟨sg, 0, none⟩) n scap)) (cm : wc.cell? ⟨sg, m, none⟩ = some (.slice va L vcap)) (fm : wc.frozen? ⟨sg, m, none⟩ = false)
    (s0 : wc.cell? ⟨sx, 0, none⟩ = some (.slice ra rn rc)) (s1 : wc.cell? ⟨sx, 1, none⟩ = some (.slice ta tn tc)) (hm : m < n) (hL : L < 1048576)
    (hown : wc.ownsRow 0 92 2 (.slice va L vcap) L xs) (hnb : ∀ b, (Value.slice va L vcap).ownBlock = some b → b ≠ wp ∧ b ≠ sg)
    (hQ : ∀ (v79 v80 v81 v82 v83 v84 v85 v86 v87 v88 v89 v90 v91 v92 v93 v94 : Value) (g cap : Nat) (w2 : World), (wc.alloc (.cells #[.slice ra rn rc, .slice ta tn tc] 92)).grownBy w2 (Value.slice va L vcap).ownBlock → w2.ownsRow 0 92 2 (.slice (some ⟨g, 0, none⟩) (L + 1) cap) (L + 1) (xs ++ [.slice ra rn rc, .slice ta tn tc]) →
      ((Value.slice va L vcap).ownBlock = some g ∨ g = wc.heap.size + 1) → R ⟨#[.pointer (some ⟨wp, 0, none⟩), u1, u2, u3, u4, u5, u6, .int .i64 (m : Int), u8, .pointer (some ⟨sx, 0, none⟩), u10, u11, u12, u13, u14, u15, u16, u17, u18, u19, u20, u21, u22, u23, u24, u25, u26, u27, u28, u29, u30, u31, u32, u33, u34, u35, u36, u37, u38, u39, u40, u41, u42, u43, u44, u45, u46, u47, u48, u49, u50, u51, u52, u53, u54, u55, u56, u57, u58, u59, u60, u61, u62, u63, u64, u65, u66, u67, u68, u69, u70, u71, u72, u73, u74, u75, u76, u77, u78, v79, v80, v81, v82, v83, v84, v85, v86, v87, v88, v89, v90, v91, v92, v93, v94, u95, u96, u97], []⟩ (w2.setCell ⟨sg, m, none⟩ (.slice (some ⟨g, 0, none⟩) (L + 1) cap))) :
    Code.wp Try.prog ((Try.f42.body.bind (regionOf 12)).getD .skip) (Only R) ⟨#[.pointer (some ⟨wp, 0, none⟩), u1, u2, u3, u4, u5, u6, .int .i64 (m : Int), u8, .pointer (some ⟨sx, 0, none⟩), u10, u11, u12, u13, u14, u15, u16, u17, u18, u19, u20, u21, u22, u23, u24, u25, u26, u27, u28, u29, u30, u31, u32, u33, u34, u35, u36, u37, u38, u39, u40, u41, u42, u43, u44, u45, u46, u47, u48, u49, u50, u51, u52, u53, u54, u55, u56, u57, u58, u59, u60, u61, u62, u63, u64, u65, u66, u67, u68, u69, u70, u71, u72, u73, u74, u75, u76, u77, u78, u79, u80, u81, u82, u83, u84, u85, u86, u87, u88, u89, u90, u91, u92, u93, u94, u95, u96, u97], []⟩ wc := by
  obtain ⟨i92, hi92, hz92, hs92, hb92⟩ := info_parts Try.info92
  have I92 := Hid.mk' (And.intro hi92 (And.intro hz92 (And.intro hs92 hb92))); clear hi92 hz92 hs92 hb92
  have HOWN : Hid (∀ o, (wc.alloc o).drew.ownsRow 0 92 2 (.slice va L vcap) L xs) := fun o => hown.alloc o
  have HNB := Hid.mk' hnb
  have HQ := Hid.mk' hQ
  clear hown hnb hQ
  have hm0 : (m : Int) < (n : Int) := by omega
  have hwpl : Hid (wp < wc.heap.size) := cell_lt c3
  have HSGL : Hid (sg < wc.heap.size) := cell_lt cm
  have HNEWS : Hid (∀ j u, [Value.slice ra rn rc, Value.slice ta tn tc][j]? = some u → (wc.alloc (.cells #[.slice ra rn rc, .slice ta tn tc] 92)).drew.cell? ((⟨wc.heap.size, 0, none⟩ : Addr).add j) = some u) := World.news_of_block (w := (wc.alloc (.cells #[.slice ra rn rc, .slice ta tn tc] 92)).drew) (cs := #[.slice ra rn rc, .slice ta tn tc]) (t := 92) (fr := (0, 0)) (heap_alloc_new wc _)
  have HONE : Hid (∀ u ∈ [Value.slice ra rn rc, Value.slice ta tn tc], u.oneCell' = true) := fun u hu => by simp at hu; rcases hu with rfl | rfl <;> rfl
  have H5 : Hid (L + 1 ≤ maxLen) := by show L + 1 ≤ maxLen; unfold maxLen; omega
  have H8 : Hid (∀ o, (wc.alloc o).drew.heap.size = wc.heap.size + 1) := fun o => by simp
  have ca1 : ∀ o, (wc.alloc o).cell? ⟨wp, 3, none⟩ = some (.slice (some ⟨sg, 0, none⟩) n scap) := fun o => (World.cell?_alloc_lt _ _ _ (by exact hwpl.out)).trans c3
  have ca2 : ∀ o, (wc.alloc o).cell? ⟨sg, m, none⟩ = some (.slice va L vcap) := fun o => (World.cell?_alloc_lt _ _ _ (by exact HSGL.out)).trans cm
  conv => arg 2; whnf
  go_region_law (refine step_append_lies _ (by rfl) (.tmp 90) (.tmp 92) 90 (by rfl) 0 92 i92 (.agg #[.slice none 0 0, .slice none 0 0]) 2 48 Try.underlying90 I92.out.1 I92.out.2.1 I92.out.2.2.1 I92.out.2.2.2 (by rfl) (by omega) (.slice va L vcap) L xs (by simp [Act.eval]) (HOWN.out _) ⟨wc.heap.size, 0, none⟩ 1 1 [.slice ra rn rc, .slice ta tn tc] (by simp [Act.eval]) (by rfl) HNEWS.out HONE.out (by omega) H5.out (by omega) (Nat.zero_le _) (wc.heap.size + 1) (H8.out _) ?_; intro g cap w2 hown2 hgrow hat hlt3; have c3w := (hgrow.cell_far ⟨wp, 3, none⟩ (by have := hwpl.out; simp; omega) (fun e => (HNB.out wp e.symm).1 rfl)).trans (ca1 _); have cmw := (hgrow.cell_far ⟨sg, m, none⟩ (by have := HSGL.out; simp; omega) (fun e => (HNB.out sg e.symm).2 rfl)).trans (ca2 _); have fmw := (hgrow.frozen_far ⟨sg, m, none⟩ (by have := HSGL.out; simp; omega) (fun e => (HNB.out sg e.symm).2 rfl)).trans ((World.frozen?_alloc_old _ _ _ (Nat.ne_of_lt HSGL.out)).trans fm))
  all_goals exact HQ.out _ _ _ _ _ _ _ _ _ _ _ _ _ _ _ _ _ _ _ ⟨hgrow.os, hgrow.tape, hgrow.output, hgrow.size, hgrow.block⟩ hown2 hat
end Go.Proofs.Qxb6000061a
