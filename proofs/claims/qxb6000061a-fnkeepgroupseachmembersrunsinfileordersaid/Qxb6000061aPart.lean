/-
  THE WALK OF keepPart (20), both ways.
-/
import Derived.Test.Qxb6000061aPartYes
import Derived.Test.Qxb6000061aPartNo
namespace Go.Proofs.Qxb6000061a
open Go.RowKit

theorem part_any (w : World) (a1 : Option Addr) (n1 c1 : Nat) (nm : Nat → ByteArray) (a2 : Option Addr) (n2 c2 : Nat) (ln : Nat → Nat) (t : Nat) (a3 : Option Addr) (n3 c3 : Nat) (mo : Nat → Int) (g0 : Nat) (q : Int) (hq : q = g0) (rt : Bool)
    (h1 : Rd w noO a1 n1 c1 1 (cNm nm)) (h2 : Rd w noO a2 n2 c2 1 (fun i => .int .u16 (ln i : Nat))) (hl : ∀ i, i < n2 → ln i ≤ 65535) (h3 : Rd w noO a3 n3 c3 1 (fun i => .int .i32 (mo i)))
    (ht : t ≤ 255) (hg0 : g0 ≤ 131072) (hn1 : n1 ≤ 65536) (hsum : sumTo ln (min n1 n2) ≤ 65536) :
    Calls Try.prog 20 #[.slice a1 n1 c1, .slice a2 n2 c2, .int .u8 t, .slice a3 n3 c3, .int .i64 q, .bool rt] w fun e w' => PartTold rt mo n3 g0 (t + sumTo ln (min n1 n2)) (min n1 n2) nm ln e w' ∧ Below w.heap.size w w' := by
  subst hq
  cases rt with
  | true => exact part_true w a1 n1 c1 nm a2 n2 c2 ln t a3 n3 c3 mo g0 h1 h2 hl h3 ht hg0 hn1 hsum
  | false => exact part_false w a1 n1 c1 nm a2 n2 c2 ln t a3 n3 c3 mo g0 h1 h2 hl h3 ht hg0 hn1 hsum
end Go.Proofs.Qxb6000061a
