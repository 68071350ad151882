/-
  THE WALKS OF THE GUARDS ON SIZES: zzBytes (26, 15), keepOneFits (27), keepTwoFits (16).
-/
import Derived.Test.Qxb6000061aSmall
namespace Go.Proofs.Qxb6000061a
open Go.RowKit

/-- a bool, and what it tells if it is true -/
def BoolTold (p : Prop) (e : Ending) : Prop := ∃ b : Bool, e = .returned (.bool b) ∧ (b = true → p)
theorem BoolTold.no {p : Prop} : BoolTold p (.returned (.bool false)) := ⟨false, rfl, by intro h; cases h⟩
theorem BoolTold.yes {p : Prop} (h : p) : BoolTold p (.returned (.bool true)) := ⟨true, rfl, fun _ => h⟩

def Small3 (n1 n2 n3 : Nat) : Prop := n1 ≤ 1048576 ∧ n2 ≤ 1048576 ∧ n3 ≤ 1048576
def Small5 (n1 n2 n3 n4 n5 : Nat) : Prop := n1 ≤ 1048576 ∧ n2 ≤ 1048576 ∧ n3 ≤ 1048576 ∧ n4 ≤ 1048576 ∧ n5 ≤ 1048576

set_option maxHeartbeats 1000000 in
theorem zb26_any (w : World) (O : Nat → Prop) (a1 : Option Addr) (n1 c1 : Nat) (nm : Nat → ByteArray) (a2 : Option Addr) (n2 c2 : Nat) (t : Int) (a3 : Option Addr) (n3 c3 : Nat) (ct : Int) (wr' : Bool)
    (h1 : Rd w O a1 n1 c1 1 (fun i => .string (nm i))) (hs : ∀ i, i < n1 → (nm i).size ≤ maxLen) :
    Calls Try.prog 26 #[.slice a1 n1 c1, .slice a2 n2 c2, .int .u8 t, .slice a3 n3 c3, .int .u16 ct, .bool wr'] w fun e w' => BoolTold (Small3 n1 n2 n3) e ∧ w' = w := by
  have H1 := Hid.mk' h1; clear h1
  have HS := Hid.mk' hs; clear hs
  by_cases hb1 : 1048576 < n1
  · go_enter Try.func26, Try.ntmps26
    go_wp2_with fail
    go_ret
    exact ⟨BoolTold.no, rfl⟩
  · go_enter Try.func26, Try.ntmps26
    go_wp2_with fail
    go_loop [12, 13, 14] (fun _ s i => ∃ k t : Nat, k ≤ n1 ∧ i = .int .i64 k ∧ s = .int .i64 t ∧ t ≤ 1048576) (fun _ _ i => n1 - (intOf i).toNat)
    case atStart => exact ⟨0, n1, Nat.zero_le _, rfl, rfl, by omega⟩
    case round =>
      obtain ⟨k, t, hk, rfl, rfl, ht⟩ := hrel
      by_cases hlt : k < n1
      · rcases H1.out.cells with h0 | ⟨b, off, rfl, _, _, hc⟩
        · exfalso; omega
        · have hcx := hc k (by omega)
          have hsk := HS.out k (by omega)
          unfold maxLen at hsk
          clear hc
          generalize nm k = s at *
          by_cases hbig : 1048576 < s.size
          · go_wp2_with fail
            go_ret
            exact ⟨BoolTold.no, rfl⟩
          · by_cases hbig2 : 1048576 < t + s.size
            · go_wp2_with fail
              go_ret
              exact ⟨BoolTold.no, rfl⟩
            · go_wp2_with fail
              go_round
              case rel => exact ⟨k + 1, t + s.size, by omega, by go_num, by go_num, by omega⟩
              case measure => simp [intOf]; omega
      · obtain rfl : k = n1 := by omega
        by_cases hb2 : 1048576 < n2
        · go_wp2_with fail
          go_ret
          exact ⟨BoolTold.no, rfl⟩
        · by_cases hb2' : 1048576 < t + n2
          · go_wp2_with fail
            go_ret
            exact ⟨BoolTold.no, rfl⟩
          · by_cases hb3 : 1048576 < n3
            · go_wp2_with fail
              go_ret
              exact ⟨BoolTold.no, rfl⟩
            · by_cases hb3' : 1048576 < t + n2 + n3
              · go_wp2_with fail
                go_ret
                exact ⟨BoolTold.no, rfl⟩
              · go_wp2_with fail
                go_ret
                exact ⟨BoolTold.yes ⟨by omega, by omega, by omega⟩, rfl⟩

def One (ln : Nat → Nat) (n1 n2 n3 : Nat) : Prop := n1 ≤ 65536 ∧ n2 ≤ 524288 ∧ n3 ≤ 262144 ∧ sumTo ln (min n1 n2) ≤ 65536

set_option maxHeartbeats 1000000 in
theorem one_any (w : World) (O : Nat → Prop) (a1 : Option Addr) (n1 c1 : Nat) (nm : Nat → ByteArray) (a2 : Option Addr) (n2 c2 : Nat) (ln : Nat → Nat) (a3 : Option Addr) (n3 c3 : Nat)
    (h1 : Rd w O a1 n1 c1 1 (fun i => .string (nm i))) (hs : ∀ i, i < n1 → (nm i).size ≤ maxLen) (h2 : Rd w O a2 n2 c2 1 (fun i => .int .u16 (ln i : Nat))) (hl : ∀ i, i < n2 → ln i ≤ 65535) (hn : Small3 n1 n2 n3) :
    Calls Try.prog 27 #[.slice a1 n1 c1, .slice a2 n2 c2, .slice a3 n3 c3] w fun e w' => BoolTold (One ln n1 n2 n3) e ∧ w' = w := by
  obtain ⟨hn1, hn2, hn3⟩ := hn
  have H1 := Hid.mk' h1; clear h1
  have HS := Hid.mk' hs; clear hs
  have H2 := Hid.mk' h2; clear h2
  have HL := Hid.mk' hl; clear hl
  by_cases hb : 262144 < n3
  · go_enter Try.func27, Try.ntmps27
    go_wp2_with fail
    go_ret
    exact ⟨BoolTold.no, rfl⟩
  · go_enter Try.func27, Try.ntmps27
    go_wp2_with fail
    refine (bytes_any w O a1 n1 c1 a2 n2 c2 nm H1.out HS.out hn1 hn2).mono ?_
    rintro e w' ⟨⟨b, ok, rfl, hb1, hok⟩, hw⟩
    subst w'
    cases ok with
    | false =>
      clear hok
      go_wp2_with fail
      go_ret
      exact ⟨BoolTold.no, rfl⟩
    | true =>
      obtain ⟨hm1, hm2⟩ := hok rfl
      clear hok
      by_cases hbig : 1048576 < b + 4 * n3
      · go_wp2_with fail
        go_ret
        exact ⟨BoolTold.no, rfl⟩
      · go_wp2_with fail
        refine (rows_any w O a1 n1 c1 a2 n2 c2 ln H2.out HL.out hn1).mono ?_
        rintro e w' ⟨rfl, hw⟩
        subst w'
        by_cases hsum : sumTo ln (min n1 n2) ≤ 65536
        · have HSUM := Hid.mk' hsum
          have hd : decide (((sumTo ln (min n1 n2) : Nat) : Int) ≤ 65536) = true := by simp; omega
          clear hsum
          go_wp2_with fail
          go_ret
          exact ⟨BoolTold.yes ⟨hm1, hm2, by omega, HSUM.out⟩, rfl⟩
        · have hd : decide (((sumTo ln (min n1 n2) : Nat) : Int) ≤ 65536) = false := by simp; omega
          clear hsum
          go_wp2_with fail
          go_ret
          exact ⟨BoolTold.no, rfl⟩

set_option maxHeartbeats 2000000 in
theorem zb15_any (w : World) (O : Nat → Prop) (a1 : Option Addr) (n1 c1 : Nat) (nm1 : Nat → ByteArray) (a2 : Option Addr) (n2 c2 : Nat) (t1 : Int) (a3 : Option Addr) (n3 c3 : Nat) (nm3 : Nat → ByteArray) (a4 : Option Addr) (n4 c4 : Nat) (t2 : Int) (a5 : Option Addr) (n5 c5 : Nat) (wr' : Bool)
    (h1 : Rd w O a1 n1 c1 1 (fun i => .string (nm1 i))) (hs1 : ∀ i, i < n1 → (nm1 i).size ≤ maxLen) (h3 : Rd w O a3 n3 c3 1 (fun i => .string (nm3 i))) (hs3 : ∀ i, i < n3 → (nm3 i).size ≤ maxLen) :
    Calls Try.prog 15 #[.slice a1 n1 c1, .slice a2 n2 c2, .int .u8 t1, .slice a3 n3 c3, .slice a4 n4 c4, .int .u8 t2, .slice a5 n5 c5, .bool wr'] w fun e w' => BoolTold (Small5 n1 n2 n3 n4 n5) e ∧ w' = w := by
  have H1 := Hid.mk' h1; clear h1
  have HS := Hid.mk' hs1; clear hs1
  have H3 := Hid.mk' h3; clear h3
  have HS3 := Hid.mk' hs3; clear hs3
  by_cases hb1 : 1048576 < n1
  · go_enter Try.func15, Try.ntmps15
    go_wp2_with fail
    go_ret
    exact ⟨BoolTold.no, rfl⟩
  · go_enter Try.func15, Try.ntmps15
    go_wp2_with fail
    go_loop [16, 17, 18] (fun _ s i => ∃ k t : Nat, k ≤ n1 ∧ i = .int .i64 k ∧ s = .int .i64 t ∧ t ≤ 1048576) (fun _ _ i => n1 - (intOf i).toNat)
    case atStart => exact ⟨0, n1, Nat.zero_le _, rfl, rfl, by omega⟩
    case round =>
      obtain ⟨k, t, hk, rfl, rfl, ht⟩ := hrel
      by_cases hlt : k < n1
      · rcases H1.out.cells with h0 | ⟨b, off, rfl, _, _, hc⟩
        · exfalso; omega
        · have hcx := hc k (by omega)
          have hsk := HS.out k (by omega)
          unfold maxLen at hsk
          clear hc
          generalize nm1 k = s at *
          by_cases hbig : 1048576 < s.size
          · go_wp2_with fail
            go_ret
            exact ⟨BoolTold.no, rfl⟩
          · by_cases hbig2 : 1048576 < t + s.size
            · go_wp2_with fail
              go_ret
              exact ⟨BoolTold.no, rfl⟩
            · go_wp2_with fail
              go_round
              case rel => exact ⟨k + 1, t + s.size, by omega, by go_num, by go_num, by omega⟩
              case measure => simp [intOf]; omega
      · obtain rfl : k = n1 := by omega
        clear hlt hk
        by_cases hb2 : 1048576 < n2
        · go_wp2_with fail
          go_ret
          exact ⟨BoolTold.no, rfl⟩
        · by_cases hb2' : 1048576 < t + n2
          · go_wp2_with fail
            go_ret
            exact ⟨BoolTold.no, rfl⟩
          · by_cases hb3 : 1048576 < n3
            · go_wp2_with fail
              go_ret
              exact ⟨BoolTold.no, rfl⟩
            · by_cases hb3' : 1048576 < t + n2 + n3
              · go_wp2_with fail
                go_ret
                exact ⟨BoolTold.no, rfl⟩
              · go_wp2_with fail
                go_loop [16, 17, 19] (fun _ s i => ∃ j u : Nat, j ≤ n3 ∧ i = .int .i64 j ∧ s = .int .i64 u ∧ u ≤ 1048576) (fun _ _ i => n3 - (intOf i).toNat)
                case atStart => exact ⟨0, t + n2 + n3, Nat.zero_le _, rfl, by go_num, by omega⟩
                case round =>
                  obtain ⟨j, u, hj, rfl, rfl, hu⟩ := hrel
                  by_cases hlt : j < n3
                  · rcases H3.out.cells with h0 | ⟨b, off, rfl, _, _, hc⟩
                    · exfalso; omega
                    · have hcx := hc j (by omega)
                      have hsk := HS3.out j (by omega)
                      unfold maxLen at hsk
                      clear hc
                      generalize nm3 j = s at *
                      by_cases hbig : 1048576 < s.size
                      · go_wp2_with fail
                        go_ret
                        exact ⟨BoolTold.no, rfl⟩
                      · by_cases hbig2 : 1048576 < u + s.size
                        · go_wp2_with fail
                          go_ret
                          exact ⟨BoolTold.no, rfl⟩
                        · go_wp2_with fail
                          go_round
                          case rel => exact ⟨j + 1, u + s.size, by omega, by go_num, by go_num, by omega⟩
                          case measure => simp [intOf]; omega
                  · obtain rfl : j = n3 := by omega
                    by_cases hb4 : 1048576 < n4
                    · go_wp2_with fail
                      go_ret
                      exact ⟨BoolTold.no, rfl⟩
                    · by_cases hb4' : 1048576 < u + n4
                      · go_wp2_with fail
                        go_ret
                        exact ⟨BoolTold.no, rfl⟩
                      · by_cases hb5 : 1048576 < n5
                        · go_wp2_with fail
                          go_ret
                          exact ⟨BoolTold.no, rfl⟩
                        · by_cases hb5' : 1048576 < u + n4 + n5
                          · go_wp2_with fail
                            go_ret
                            exact ⟨BoolTold.no, rfl⟩
                          · go_wp2_with fail
                            go_ret
                            exact ⟨BoolTold.yes ⟨by omega, by omega, by omega, by omega, by omega⟩, rfl⟩

def Two (ln1 ln2 : Nat → Nat) (n1 n2 n3 n4 n5 : Nat) : Prop := n1 ≤ 65536 ∧ n2 ≤ 524288 ∧ n3 ≤ 65536 ∧ n4 ≤ 524288 ∧ n5 ≤ 262144 ∧ sumTo ln1 (min n1 n2) ≤ 65536 ∧ sumTo ln2 (min n3 n4) ≤ 65536

set_option maxHeartbeats 1000000 in
theorem two_any (w : World) (O : Nat → Prop) (a1 : Option Addr) (n1 c1 : Nat) (nm1 : Nat → ByteArray) (a2 : Option Addr) (n2 c2 : Nat) (ln1 : Nat → Nat) (a3 : Option Addr) (n3 c3 : Nat) (nm3 : Nat → ByteArray) (a4 : Option Addr) (n4 c4 : Nat) (ln2 : Nat → Nat) (a5 : Option Addr) (n5 c5 : Nat)
    (h1 : Rd w O a1 n1 c1 1 (fun i => .string (nm1 i))) (hs1 : ∀ i, i < n1 → (nm1 i).size ≤ maxLen) (h2 : Rd w O a2 n2 c2 1 (fun i => .int .u16 (ln1 i : Nat))) (hl1 : ∀ i, i < n2 → ln1 i ≤ 65535)
    (h3 : Rd w O a3 n3 c3 1 (fun i => .string (nm3 i))) (hs3 : ∀ i, i < n3 → (nm3 i).size ≤ maxLen) (h4 : Rd w O a4 n4 c4 1 (fun i => .int .u16 (ln2 i : Nat))) (hl2 : ∀ i, i < n4 → ln2 i ≤ 65535) (hn : Small5 n1 n2 n3 n4 n5) :
    Calls Try.prog 16 #[.slice a1 n1 c1, .slice a2 n2 c2, .slice a3 n3 c3, .slice a4 n4 c4, .slice a5 n5 c5] w fun e w' => BoolTold (Two ln1 ln2 n1 n2 n3 n4 n5) e ∧ w' = w := by
  obtain ⟨hn1, hn2, hn3, hn4, hn5⟩ := hn
  have H1 := Hid.mk' h1; clear h1
  have HS1 := Hid.mk' hs1; clear hs1
  have H2 := Hid.mk' h2; clear h2
  have HL1 := Hid.mk' hl1; clear hl1
  have H3 := Hid.mk' h3; clear h3
  have HS3 := Hid.mk' hs3; clear hs3
  have H4 := Hid.mk' h4; clear h4
  have HL2 := Hid.mk' hl2; clear hl2
  by_cases hb : 262144 < n5
  · go_enter Try.func16, Try.ntmps16
    go_wp2_with fail
    go_ret
    exact ⟨BoolTold.no, rfl⟩
  · go_enter Try.func16, Try.ntmps16
    go_wp2_with fail
    refine (bytes_any w O a1 n1 c1 a2 n2 c2 nm1 H1.out HS1.out hn1 hn2).mono ?_
    rintro e w' ⟨⟨b, ok, rfl, hb1, hok⟩, hw⟩
    subst w'
    cases ok with
    | false =>
      clear hok
      go_wp2_with fail
      go_ret
      exact ⟨BoolTold.no, rfl⟩
    | true =>
      obtain ⟨hm1, hm2⟩ := hok rfl
      clear hok
      go_wp2_with fail
      refine (bytes_any w O a3 n3 c3 a4 n4 c4 nm3 H3.out HS3.out hn3 hn4).mono ?_
      rintro e w' ⟨⟨b', ok, rfl, hb2, hok⟩, hw⟩
      subst w'
      cases ok with
      | false =>
        clear hok
        go_wp2_with fail
        go_ret
        exact ⟨BoolTold.no, rfl⟩
      | true =>
        obtain ⟨hm3, hm4⟩ := hok rfl
        clear hok
        by_cases hbig : 1048576 < b + b' + 4 * n5
        · go_wp2_with fail
          go_ret
          exact ⟨BoolTold.no, rfl⟩
        · go_wp2_with fail
          refine (rows_any w O a1 n1 c1 a2 n2 c2 ln1 H2.out HL1.out hn1).mono ?_
          rintro e w' ⟨rfl, hw⟩
          subst w'
          by_cases hsum : sumTo ln1 (min n1 n2) ≤ 65536
          · have HSUM := Hid.mk' hsum
            have hd : decide (((sumTo ln1 (min n1 n2) : Nat) : Int) ≤ 65536) = true := by simp; omega
            clear hsum
            go_wp2_with fail
            refine (rows_any w O a3 n3 c3 a4 n4 c4 ln2 H4.out HL2.out hn3).mono ?_
            rintro e w' ⟨rfl, hw⟩
            subst w'
            clear hd
            by_cases hsum : sumTo ln2 (min n3 n4) ≤ 65536
            · have HSUM2 := Hid.mk' hsum
              have hd : decide (((sumTo ln2 (min n3 n4) : Nat) : Int) ≤ 65536) = true := by simp; omega
              clear hsum
              go_wp2_with fail
              go_ret
              exact ⟨BoolTold.yes ⟨hm1, hm2, hm3, hm4, by omega, HSUM.out, HSUM2.out⟩, rfl⟩
            · have hd : decide (((sumTo ln2 (min n3 n4) : Nat) : Int) ≤ 65536) = false := by simp; omega
              clear hsum
              go_wp2_with fail
              go_ret
              exact ⟨BoolTold.no, rfl⟩
          · have hd : decide (((sumTo ln1 (min n1 n2) : Nat) : Int) ≤ 65536) = false := by simp; omega
            clear hsum
            go_wp2_with fail
            go_ret
            exact ⟨BoolTold.no, rfl⟩
end Go.Proofs.Qxb6000061a
