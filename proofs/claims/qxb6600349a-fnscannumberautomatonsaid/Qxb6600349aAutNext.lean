/-
  THE WALKS OF numNext (25), a theorem a state.
-/
import Derived.Test.Qxb6600349aNumTops
import Derived.Test.Qxb6600349aAutLaw
namespace Go.Proofs.Qxb6600349a
open Go.RowKit

theorem byte_classes (c : Int) : c = 45 ∨ c = 48 ∨ c = 46 ∨ c = 101 ∨ c = 69 ∨ c = 43 ∨ (49 ≤ c ∧ c ≤ 57) ∨ (c < 48 ∧ ¬ c = 45 ∧ ¬ c = 46 ∧ ¬ c = 43) ∨ (57 < c ∧ ¬ c = 101 ∧ ¬ c = 69) := by omega

set_option maxRecDepth 100000 in
set_option maxHeartbeats 1000000 in
theorem next0 (c : Int) (w : World) : Calls Try.prog 25 #[.int .i64 0, .int .u8 c] w fun e w' => e = .returned (.int .i64 (nx 0 c)) ∧ w' = w := by
  rcases byte_classes c with rfl | rfl | rfl | rfl | rfl | rfl | h | h | h
  iterate 6
    · go_enter Try.func25, Try.ntmps25
      go_wp2
      go_ret
      exact ⟨ret_int' (by decide), rfl⟩
  · have d1 : decide (48 ≤ c) = true := by simp; omega
    have d2 : decide (c ≤ 57) = true := by simp; omega
    have b1 : (c == 45) = false := by simp; omega
    have b2 : (c == 48) = false := by simp; omega
    have b3 : (c == 46) = false := by simp; omega
    have b4 : (c == 101) = false := by simp; omega
    have b5 : (c == 69) = false := by simp; omega
    have b6 : (c == 43) = false := by simp; omega
    have HN : Hid (nx 0 c = nx 0 49) := by simp only [nx]; (repeat (first | rw [if_pos (by omega)] | rw [if_neg (by omega)])); exact rfl
    go_enter Try.func25, Try.ntmps25
    go_wp2
    go_ret
    exact ⟨ret_int' (by rw [HN.out]; decide), rfl⟩
  · have d1 : decide (48 ≤ c) = false := by simp; omega
    have b1 : (c == 45) = false := by simp; omega
    have b2 : (c == 48) = false := by simp; omega
    have b3 : (c == 46) = false := by simp; omega
    have b4 : (c == 101) = false := by simp; omega
    have b5 : (c == 69) = false := by simp; omega
    have b6 : (c == 43) = false := by simp; omega
    have HN : Hid (nx 0 c = -1) := by simp only [nx]; (repeat rw [if_neg (by omega)]); exact rfl
    go_enter Try.func25, Try.ntmps25
    go_wp2
    go_ret
    exact ⟨ret_int' (by rw [HN.out]), rfl⟩
  · have d1 : decide (48 ≤ c) = true := by simp; omega
    have d2 : decide (c ≤ 57) = false := by simp; omega
    have b1 : (c == 45) = false := by simp; omega
    have b2 : (c == 48) = false := by simp; omega
    have b3 : (c == 46) = false := by simp; omega
    have b4 : (c == 101) = false := by simp; omega
    have b5 : (c == 69) = false := by simp; omega
    have b6 : (c == 43) = false := by simp; omega
    have HN : Hid (nx 0 c = -1) := by simp only [nx]; (repeat rw [if_neg (by omega)]); exact rfl
    go_enter Try.func25, Try.ntmps25
    go_wp2
    go_ret
    exact ⟨ret_int' (by rw [HN.out]), rfl⟩

set_option maxRecDepth 100000 in
set_option maxHeartbeats 1000000 in
theorem next1 (c : Int) (w : World) : Calls Try.prog 25 #[.int .i64 1, .int .u8 c] w fun e w' => e = .returned (.int .i64 (nx 1 c)) ∧ w' = w := by
  rcases byte_classes c with rfl | rfl | rfl | rfl | rfl | rfl | h | h | h
  iterate 6
    · go_enter Try.func25, Try.ntmps25
      go_wp2
      go_ret
      exact ⟨ret_int' (by decide), rfl⟩
  · have d1 : decide (48 ≤ c) = true := by simp; omega
    have d2 : decide (c ≤ 57) = true := by simp; omega
    have b1 : (c == 45) = false := by simp; omega
    have b2 : (c == 48) = false := by simp; omega
    have b3 : (c == 46) = false := by simp; omega
    have b4 : (c == 101) = false := by simp; omega
    have b5 : (c == 69) = false := by simp; omega
    have b6 : (c == 43) = false := by simp; omega
    have HN : Hid (nx 1 c = nx 1 49) := by simp only [nx]; (repeat (first | rw [if_pos (by omega)] | rw [if_neg (by omega)])); exact rfl
    go_enter Try.func25, Try.ntmps25
    go_wp2
    go_ret
    exact ⟨ret_int' (by rw [HN.out]; decide), rfl⟩
  · have d1 : decide (48 ≤ c) = false := by simp; omega
    have b1 : (c == 45) = false := by simp; omega
    have b2 : (c == 48) = false := by simp; omega
    have b3 : (c == 46) = false := by simp; omega
    have b4 : (c == 101) = false := by simp; omega
    have b5 : (c == 69) = false := by simp; omega
    have b6 : (c == 43) = false := by simp; omega
    have HN : Hid (nx 1 c = -1) := by simp only [nx]; (repeat rw [if_neg (by omega)]); exact rfl
    go_enter Try.func25, Try.ntmps25
    go_wp2
    go_ret
    exact ⟨ret_int' (by rw [HN.out]), rfl⟩
  · have d1 : decide (48 ≤ c) = true := by simp; omega
    have d2 : decide (c ≤ 57) = false := by simp; omega
    have b1 : (c == 45) = false := by simp; omega
    have b2 : (c == 48) = false := by simp; omega
    have b3 : (c == 46) = false := by simp; omega
    have b4 : (c == 101) = false := by simp; omega
    have b5 : (c == 69) = false := by simp; omega
    have b6 : (c == 43) = false := by simp; omega
    have HN : Hid (nx 1 c = -1) := by simp only [nx]; (repeat rw [if_neg (by omega)]); exact rfl
    go_enter Try.func25, Try.ntmps25
    go_wp2
    go_ret
    exact ⟨ret_int' (by rw [HN.out]), rfl⟩

set_option maxRecDepth 100000 in
set_option maxHeartbeats 1000000 in
theorem next2 (c : Int) (w : World) : Calls Try.prog 25 #[.int .i64 2, .int .u8 c] w fun e w' => e = .returned (.int .i64 (nx 2 c)) ∧ w' = w := by
  rcases byte_classes c with rfl | rfl | rfl | rfl | rfl | rfl | h | h | h
  iterate 6
    · go_enter Try.func25, Try.ntmps25
      go_wp2
      go_ret
      exact ⟨ret_int' (by decide), rfl⟩
  · have d1 : decide (48 ≤ c) = true := by simp; omega
    have d2 : decide (c ≤ 57) = true := by simp; omega
    have b1 : (c == 45) = false := by simp; omega
    have b2 : (c == 48) = false := by simp; omega
    have b3 : (c == 46) = false := by simp; omega
    have b4 : (c == 101) = false := by simp; omega
    have b5 : (c == 69) = false := by simp; omega
    have b6 : (c == 43) = false := by simp; omega
    have HN : Hid (nx 2 c = nx 2 49) := by simp only [nx]; (repeat (first | rw [if_pos (by omega)] | rw [if_neg (by omega)])); exact rfl
    go_enter Try.func25, Try.ntmps25
    go_wp2
    go_ret
    exact ⟨ret_int' (by rw [HN.out]; decide), rfl⟩
  · have d1 : decide (48 ≤ c) = false := by simp; omega
    have b1 : (c == 45) = false := by simp; omega
    have b2 : (c == 48) = false := by simp; omega
    have b3 : (c == 46) = false := by simp; omega
    have b4 : (c == 101) = false := by simp; omega
    have b5 : (c == 69) = false := by simp; omega
    have b6 : (c == 43) = false := by simp; omega
    have HN : Hid (nx 2 c = -1) := by simp only [nx]; (repeat rw [if_neg (by omega)]); exact rfl
    go_enter Try.func25, Try.ntmps25
    go_wp2
    go_ret
    exact ⟨ret_int' (by rw [HN.out]), rfl⟩
  · have d1 : decide (48 ≤ c) = true := by simp; omega
    have d2 : decide (c ≤ 57) = false := by simp; omega
    have b1 : (c == 45) = false := by simp; omega
    have b2 : (c == 48) = false := by simp; omega
    have b3 : (c == 46) = false := by simp; omega
    have b4 : (c == 101) = false := by simp; omega
    have b5 : (c == 69) = false := by simp; omega
    have b6 : (c == 43) = false := by simp; omega
    have HN : Hid (nx 2 c = -1) := by simp only [nx]; (repeat rw [if_neg (by omega)]); exact rfl
    go_enter Try.func25, Try.ntmps25
    go_wp2
    go_ret
    exact ⟨ret_int' (by rw [HN.out]), rfl⟩

set_option maxRecDepth 100000 in
set_option maxHeartbeats 1000000 in
theorem next3 (c : Int) (w : World) : Calls Try.prog 25 #[.int .i64 3, .int .u8 c] w fun e w' => e = .returned (.int .i64 (nx 3 c)) ∧ w' = w := by
  rcases byte_classes c with rfl | rfl | rfl | rfl | rfl | rfl | h | h | h
  iterate 6
    · go_enter Try.func25, Try.ntmps25
      go_wp2
      go_ret
      exact ⟨ret_int' (by decide), rfl⟩
  · have d1 : decide (48 ≤ c) = true := by simp; omega
    have d2 : decide (c ≤ 57) = true := by simp; omega
    have b1 : (c == 45) = false := by simp; omega
    have b2 : (c == 48) = false := by simp; omega
    have b3 : (c == 46) = false := by simp; omega
    have b4 : (c == 101) = false := by simp; omega
    have b5 : (c == 69) = false := by simp; omega
    have b6 : (c == 43) = false := by simp; omega
    have HN : Hid (nx 3 c = nx 3 49) := by simp only [nx]; (repeat (first | rw [if_pos (by omega)] | rw [if_neg (by omega)])); exact rfl
    go_enter Try.func25, Try.ntmps25
    go_wp2
    go_ret
    exact ⟨ret_int' (by rw [HN.out]; decide), rfl⟩
  · have d1 : decide (48 ≤ c) = false := by simp; omega
    have b1 : (c == 45) = false := by simp; omega
    have b2 : (c == 48) = false := by simp; omega
    have b3 : (c == 46) = false := by simp; omega
    have b4 : (c == 101) = false := by simp; omega
    have b5 : (c == 69) = false := by simp; omega
    have b6 : (c == 43) = false := by simp; omega
    have HN : Hid (nx 3 c = -1) := by simp only [nx]; (repeat rw [if_neg (by omega)]); exact rfl
    go_enter Try.func25, Try.ntmps25
    go_wp2
    go_ret
    exact ⟨ret_int' (by rw [HN.out]), rfl⟩
  · have d1 : decide (48 ≤ c) = true := by simp; omega
    have d2 : decide (c ≤ 57) = false := by simp; omega
    have b1 : (c == 45) = false := by simp; omega
    have b2 : (c == 48) = false := by simp; omega
    have b3 : (c == 46) = false := by simp; omega
    have b4 : (c == 101) = false := by simp; omega
    have b5 : (c == 69) = false := by simp; omega
    have b6 : (c == 43) = false := by simp; omega
    have HN : Hid (nx 3 c = -1) := by simp only [nx]; (repeat rw [if_neg (by omega)]); exact rfl
    go_enter Try.func25, Try.ntmps25
    go_wp2
    go_ret
    exact ⟨ret_int' (by rw [HN.out]), rfl⟩

set_option maxRecDepth 100000 in
set_option maxHeartbeats 1000000 in
theorem next4 (c : Int) (w : World) : Calls Try.prog 25 #[.int .i64 4, .int .u8 c] w fun e w' => e = .returned (.int .i64 (nx 4 c)) ∧ w' = w := by
  rcases byte_classes c with rfl | rfl | rfl | rfl | rfl | rfl | h | h | h
  iterate 6
    · go_enter Try.func25, Try.ntmps25
      go_wp2
      go_ret
      exact ⟨ret_int' (by decide), rfl⟩
  · have d1 : decide (48 ≤ c) = true := by simp; omega
    have d2 : decide (c ≤ 57) = true := by simp; omega
    have b1 : (c == 45) = false := by simp; omega
    have b2 : (c == 48) = false := by simp; omega
    have b3 : (c == 46) = false := by simp; omega
    have b4 : (c == 101) = false := by simp; omega
    have b5 : (c == 69) = false := by simp; omega
    have b6 : (c == 43) = false := by simp; omega
    have HN : Hid (nx 4 c = nx 4 49) := by simp only [nx]; (repeat (first | rw [if_pos (by omega)] | rw [if_neg (by omega)])); exact rfl
    go_enter Try.func25, Try.ntmps25
    go_wp2
    go_ret
    exact ⟨ret_int' (by rw [HN.out]; decide), rfl⟩
  · have d1 : decide (48 ≤ c) = false := by simp; omega
    have b1 : (c == 45) = false := by simp; omega
    have b2 : (c == 48) = false := by simp; omega
    have b3 : (c == 46) = false := by simp; omega
    have b4 : (c == 101) = false := by simp; omega
    have b5 : (c == 69) = false := by simp; omega
    have b6 : (c == 43) = false := by simp; omega
    have HN : Hid (nx 4 c = -1) := by simp only [nx]; (repeat rw [if_neg (by omega)]); exact rfl
    go_enter Try.func25, Try.ntmps25
    go_wp2
    go_ret
    exact ⟨ret_int' (by rw [HN.out]), rfl⟩
  · have d1 : decide (48 ≤ c) = true := by simp; omega
    have d2 : decide (c ≤ 57) = false := by simp; omega
    have b1 : (c == 45) = false := by simp; omega
    have b2 : (c == 48) = false := by simp; omega
    have b3 : (c == 46) = false := by simp; omega
    have b4 : (c == 101) = false := by simp; omega
    have b5 : (c == 69) = false := by simp; omega
    have b6 : (c == 43) = false := by simp; omega
    have HN : Hid (nx 4 c = -1) := by simp only [nx]; (repeat rw [if_neg (by omega)]); exact rfl
    go_enter Try.func25, Try.ntmps25
    go_wp2
    go_ret
    exact ⟨ret_int' (by rw [HN.out]), rfl⟩

set_option maxRecDepth 100000 in
set_option maxHeartbeats 1000000 in
theorem next5 (c : Int) (w : World) : Calls Try.prog 25 #[.int .i64 5, .int .u8 c] w fun e w' => e = .returned (.int .i64 (nx 5 c)) ∧ w' = w := by
  rcases byte_classes c with rfl | rfl | rfl | rfl | rfl | rfl | h | h | h
  iterate 6
    · go_enter Try.func25, Try.ntmps25
      go_wp2
      go_ret
      exact ⟨ret_int' (by decide), rfl⟩
  · have d1 : decide (48 ≤ c) = true := by simp; omega
    have d2 : decide (c ≤ 57) = true := by simp; omega
    have b1 : (c == 45) = false := by simp; omega
    have b2 : (c == 48) = false := by simp; omega
    have b3 : (c == 46) = false := by simp; omega
    have b4 : (c == 101) = false := by simp; omega
    have b5 : (c == 69) = false := by simp; omega
    have b6 : (c == 43) = false := by simp; omega
    have HN : Hid (nx 5 c = nx 5 49) := by simp only [nx]; (repeat (first | rw [if_pos (by omega)] | rw [if_neg (by omega)])); exact rfl
    go_enter Try.func25, Try.ntmps25
    go_wp2
    go_ret
    exact ⟨ret_int' (by rw [HN.out]; decide), rfl⟩
  · have d1 : decide (48 ≤ c) = false := by simp; omega
    have b1 : (c == 45) = false := by simp; omega
    have b2 : (c == 48) = false := by simp; omega
    have b3 : (c == 46) = false := by simp; omega
    have b4 : (c == 101) = false := by simp; omega
    have b5 : (c == 69) = false := by simp; omega
    have b6 : (c == 43) = false := by simp; omega
    have HN : Hid (nx 5 c = -1) := by simp only [nx]; (repeat rw [if_neg (by omega)]); exact rfl
    go_enter Try.func25, Try.ntmps25
    go_wp2
    go_ret
    exact ⟨ret_int' (by rw [HN.out]), rfl⟩
  · have d1 : decide (48 ≤ c) = true := by simp; omega
    have d2 : decide (c ≤ 57) = false := by simp; omega
    have b1 : (c == 45) = false := by simp; omega
    have b2 : (c == 48) = false := by simp; omega
    have b3 : (c == 46) = false := by simp; omega
    have b4 : (c == 101) = false := by simp; omega
    have b5 : (c == 69) = false := by simp; omega
    have b6 : (c == 43) = false := by simp; omega
    have HN : Hid (nx 5 c = -1) := by simp only [nx]; (repeat rw [if_neg (by omega)]); exact rfl
    go_enter Try.func25, Try.ntmps25
    go_wp2
    go_ret
    exact ⟨ret_int' (by rw [HN.out]), rfl⟩

set_option maxRecDepth 100000 in
set_option maxHeartbeats 1000000 in
theorem next6 (c : Int) (w : World) : Calls Try.prog 25 #[.int .i64 6, .int .u8 c] w fun e w' => e = .returned (.int .i64 (nx 6 c)) ∧ w' = w := by
  rcases byte_classes c with rfl | rfl | rfl | rfl | rfl | rfl | h | h | h
  iterate 6
    · go_enter Try.func25, Try.ntmps25
      go_wp2
      go_ret
      exact ⟨ret_int' (by decide), rfl⟩
  · have d1 : decide (48 ≤ c) = true := by simp; omega
    have d2 : decide (c ≤ 57) = true := by simp; omega
    have b1 : (c == 45) = false := by simp; omega
    have b2 : (c == 48) = false := by simp; omega
    have b3 : (c == 46) = false := by simp; omega
    have b4 : (c == 101) = false := by simp; omega
    have b5 : (c == 69) = false := by simp; omega
    have b6 : (c == 43) = false := by simp; omega
    have HN : Hid (nx 6 c = nx 6 49) := by simp only [nx]; (repeat (first | rw [if_pos (by omega)] | rw [if_neg (by omega)])); exact rfl
    go_enter Try.func25, Try.ntmps25
    go_wp2
    go_ret
    exact ⟨ret_int' (by rw [HN.out]; decide), rfl⟩
  · have d1 : decide (48 ≤ c) = false := by simp; omega
    have b1 : (c == 45) = false := by simp; omega
    have b2 : (c == 48) = false := by simp; omega
    have b3 : (c == 46) = false := by simp; omega
    have b4 : (c == 101) = false := by simp; omega
    have b5 : (c == 69) = false := by simp; omega
    have b6 : (c == 43) = false := by simp; omega
    have HN : Hid (nx 6 c = -1) := by simp only [nx]; (repeat rw [if_neg (by omega)]); exact rfl
    go_enter Try.func25, Try.ntmps25
    go_wp2
    go_ret
    exact ⟨ret_int' (by rw [HN.out]), rfl⟩
  · have d1 : decide (48 ≤ c) = true := by simp; omega
    have d2 : decide (c ≤ 57) = false := by simp; omega
    have b1 : (c == 45) = false := by simp; omega
    have b2 : (c == 48) = false := by simp; omega
    have b3 : (c == 46) = false := by simp; omega
    have b4 : (c == 101) = false := by simp; omega
    have b5 : (c == 69) = false := by simp; omega
    have b6 : (c == 43) = false := by simp; omega
    have HN : Hid (nx 6 c = -1) := by simp only [nx]; (repeat rw [if_neg (by omega)]); exact rfl
    go_enter Try.func25, Try.ntmps25
    go_wp2
    go_ret
    exact ⟨ret_int' (by rw [HN.out]), rfl⟩

set_option maxRecDepth 100000 in
set_option maxHeartbeats 1000000 in
theorem next7 (c : Int) (w : World) : Calls Try.prog 25 #[.int .i64 7, .int .u8 c] w fun e w' => e = .returned (.int .i64 (nx 7 c)) ∧ w' = w := by
  rcases byte_classes c with rfl | rfl | rfl | rfl | rfl | rfl | h | h | h
  iterate 6
    · go_enter Try.func25, Try.ntmps25
      go_wp2
      go_ret
      exact ⟨ret_int' (by decide), rfl⟩
  · have d1 : decide (48 ≤ c) = true := by simp; omega
    have d2 : decide (c ≤ 57) = true := by simp; omega
    have b1 : (c == 45) = false := by simp; omega
    have b2 : (c == 48) = false := by simp; omega
    have b3 : (c == 46) = false := by simp; omega
    have b4 : (c == 101) = false := by simp; omega
    have b5 : (c == 69) = false := by simp; omega
    have b6 : (c == 43) = false := by simp; omega
    have HN : Hid (nx 7 c = nx 7 49) := by simp only [nx]; (repeat (first | rw [if_pos (by omega)] | rw [if_neg (by omega)])); exact rfl
    go_enter Try.func25, Try.ntmps25
    go_wp2
    go_ret
    exact ⟨ret_int' (by rw [HN.out]; decide), rfl⟩
  · have d1 : decide (48 ≤ c) = false := by simp; omega
    have b1 : (c == 45) = false := by simp; omega
    have b2 : (c == 48) = false := by simp; omega
    have b3 : (c == 46) = false := by simp; omega
    have b4 : (c == 101) = false := by simp; omega
    have b5 : (c == 69) = false := by simp; omega
    have b6 : (c == 43) = false := by simp; omega
    have HN : Hid (nx 7 c = -1) := by simp only [nx]; (repeat rw [if_neg (by omega)]); exact rfl
    go_enter Try.func25, Try.ntmps25
    go_wp2
    go_ret
    exact ⟨ret_int' (by rw [HN.out]), rfl⟩
  · have d1 : decide (48 ≤ c) = true := by simp; omega
    have d2 : decide (c ≤ 57) = false := by simp; omega
    have b1 : (c == 45) = false := by simp; omega
    have b2 : (c == 48) = false := by simp; omega
    have b3 : (c == 46) = false := by simp; omega
    have b4 : (c == 101) = false := by simp; omega
    have b5 : (c == 69) = false := by simp; omega
    have b6 : (c == 43) = false := by simp; omega
    have HN : Hid (nx 7 c = -1) := by simp only [nx]; (repeat rw [if_neg (by omega)]); exact rfl
    go_enter Try.func25, Try.ntmps25
    go_wp2
    go_ret
    exact ⟨ret_int' (by rw [HN.out]), rfl⟩

set_option maxRecDepth 100000 in
set_option maxHeartbeats 1000000 in
theorem next8 (c : Int) (w : World) : Calls Try.prog 25 #[.int .i64 8, .int .u8 c] w fun e w' => e = .returned (.int .i64 (nx 8 c)) ∧ w' = w := by
  rcases byte_classes c with rfl | rfl | rfl | rfl | rfl | rfl | h | h | h
  iterate 6
    · go_enter Try.func25, Try.ntmps25
      go_wp2
      go_ret
      exact ⟨ret_int' (by decide), rfl⟩
  · have d1 : decide (48 ≤ c) = true := by simp; omega
    have d2 : decide (c ≤ 57) = true := by simp; omega
    have b1 : (c == 45) = false := by simp; omega
    have b2 : (c == 48) = false := by simp; omega
    have b3 : (c == 46) = false := by simp; omega
    have b4 : (c == 101) = false := by simp; omega
    have b5 : (c == 69) = false := by simp; omega
    have b6 : (c == 43) = false := by simp; omega
    have HN : Hid (nx 8 c = nx 8 49) := by simp only [nx]; (repeat (first | rw [if_pos (by omega)] | rw [if_neg (by omega)])); exact rfl
    go_enter Try.func25, Try.ntmps25
    go_wp2
    go_ret
    exact ⟨ret_int' (by rw [HN.out]; decide), rfl⟩
  · have d1 : decide (48 ≤ c) = false := by simp; omega
    have b1 : (c == 45) = false := by simp; omega
    have b2 : (c == 48) = false := by simp; omega
    have b3 : (c == 46) = false := by simp; omega
    have b4 : (c == 101) = false := by simp; omega
    have b5 : (c == 69) = false := by simp; omega
    have b6 : (c == 43) = false := by simp; omega
    have HN : Hid (nx 8 c = -1) := by simp only [nx]; (repeat rw [if_neg (by omega)]); exact rfl
    go_enter Try.func25, Try.ntmps25
    go_wp2
    go_ret
    exact ⟨ret_int' (by rw [HN.out]), rfl⟩
  · have d1 : decide (48 ≤ c) = true := by simp; omega
    have d2 : decide (c ≤ 57) = false := by simp; omega
    have b1 : (c == 45) = false := by simp; omega
    have b2 : (c == 48) = false := by simp; omega
    have b3 : (c == 46) = false := by simp; omega
    have b4 : (c == 101) = false := by simp; omega
    have b5 : (c == 69) = false := by simp; omega
    have b6 : (c == 43) = false := by simp; omega
    have HN : Hid (nx 8 c = -1) := by simp only [nx]; (repeat rw [if_neg (by omega)]); exact rfl
    go_enter Try.func25, Try.ntmps25
    go_wp2
    go_ret
    exact ⟨ret_int' (by rw [HN.out]), rfl⟩
end Go.Proofs.Qxb6600349a
