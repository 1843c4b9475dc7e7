/-
  THE WALK of FnHealthStepsExactlyAtEachThreshold (seat b6630262a).
-/
import Derived.Test.Qxb6630262aRows
import Derived.Test.Qxb6630262aHealth
import Derived.WalkKit
import Derived.ProofKit
namespace Go.Proofs.Qxb6630262a.Steps
open Go.RowKit Go.Proofs.Qxb6630262a.Health

theorem atFloor (a b c d : Int) (s : ByteArray) (w : World) (h0 : s.size ≤ 1048576) (h1 : a < b) (h2 : b < c) (h3 : a ≤ -9223372036854775808) (h4 : -9223372036854775808 ≤ a) :
    Calls Try.prog 4 #[.int .i64 a, .int .i64 b, .int .i64 c, .string s, .int .i64 d] w fun e w' => e = .returned (.bool true) ∧ Grown w w' := by
  go_enter Try.func4, Try.ntmps4
  go_wp2
  go_ret
  exact ⟨rfl, Grown.refl _⟩

set_option maxHeartbeats 1000000 in
theorem notActive (a b c d : Int) (s : ByteArray) (w : World) (h0 : s.size ≤ 1048576) (h1 : a < b) (h2 : b < c) (h3 : -9223372036854775808 < a) (hs : (s.toList == [97, 99, 116, 105, 118, 101]) = false) :
    Calls Try.prog 4 #[.int .i64 a, .int .i64 b, .int .i64 c, .string s, .int .i64 d] w fun e w' => e = .returned (.bool true) ∧ Grown w w' := by
  go_enter Try.func4, Try.ntmps4
  go_wp2_with (first | (go_at_call 10; go_in) | fail)
  refine (ladder_any _ _ _ _).mono ?_
  rintro e w' ⟨rfl, rfl⟩
  go_wp2_with fail
  refine (none_any _ _ _ _ _ _ hs).mono ?_
  rintro e w' ⟨rfl, rfl⟩
  go_wp2_with fail
  refine (none_any _ _ _ _ _ _ hs).mono ?_
  rintro e w' ⟨rfl, rfl⟩
  go_wp2_with fail
  refine (none_any _ _ _ _ _ _ hs).mono ?_
  rintro e w' ⟨rfl, rfl⟩
  go_wp2
  go_ret
  exact ⟨rfl, by repeat (first | exact Grown.refl _ | apply Grown.alloc)⟩

set_option maxHeartbeats 2000000 in
theorem at_stuck (a b c d : Int) (s : ByteArray) (w : World) (h0 : s.size ≤ 1048576) (h1 : a < b) (h2 : b < c) (h3 : -9223372036854775808 < a) (h4 : c ≤ 9223372036854775807) (hs : (s.toList == [97, 99, 116, 105, 118, 101]) = true) (d1 : c ≤ d) :
    Calls Try.prog 4 #[.int .i64 a, .int .i64 b, .int .i64 c, .string s, .int .i64 d] w fun e w' => e = .returned (.bool true) ∧ Grown w w' := by
  go_enter Try.func4, Try.ntmps4
  go_wp2_with (first | (go_at_call 10; go_in) | fail)
  refine (ladder_any _ _ _ _).mono ?_
  rintro e w' ⟨rfl, rfl⟩
  go_wp2_with fail
  refine (stuck_any _ _ _ _ _ _ hs (by omega)).mono ?_
  rintro e w' ⟨rfl, rfl⟩
  go_wp2_with fail
  refine (active_any _ _ _ _ _ _ hs (by omega) (by omega) (by omega)).mono ?_
  rintro e w' ⟨rfl, rfl⟩
  go_wp2_with fail
  refine (stale_any _ _ _ _ _ _ hs (by omega) (by omega) (by omega)).mono ?_
  rintro e w' ⟨rfl, rfl⟩
  go_wp2_with fail
  refine (stale_any _ _ _ _ _ _ hs (by omega) (by omega) (by omega)).mono ?_
  rintro e w' ⟨rfl, rfl⟩
  go_wp2_with fail
  refine (warning_any _ _ _ _ _ _ hs (by omega) (by omega)).mono ?_
  rintro e w' ⟨rfl, rfl⟩
  go_wp2_with fail
  refine (warning_any _ _ _ _ _ _ hs (by omega) (by omega)).mono ?_
  rintro e w' ⟨rfl, rfl⟩
  go_wp2_with fail
  refine (stuck_any _ _ _ _ _ _ hs (by omega)).mono ?_
  rintro e w' ⟨rfl, rfl⟩
  go_wp2
  go_ret
  exact ⟨rfl, by repeat (first | exact Grown.refl _ | apply Grown.alloc)⟩

set_option maxHeartbeats 2000000 in
theorem at_warning (a b c d : Int) (s : ByteArray) (w : World) (h0 : s.size ≤ 1048576) (h1 : a < b) (h2 : b < c) (h3 : -9223372036854775808 < a) (h4 : c ≤ 9223372036854775807) (hs : (s.toList == [97, 99, 116, 105, 118, 101]) = true) (d1 : d < c) (d2 : b ≤ d) :
    Calls Try.prog 4 #[.int .i64 a, .int .i64 b, .int .i64 c, .string s, .int .i64 d] w fun e w' => e = .returned (.bool true) ∧ Grown w w' := by
  go_enter Try.func4, Try.ntmps4
  go_wp2_with (first | (go_at_call 10; go_in) | fail)
  refine (ladder_any _ _ _ _).mono ?_
  rintro e w' ⟨rfl, rfl⟩
  go_wp2_with fail
  refine (warning_any _ _ _ _ _ _ hs (by omega) (by omega)).mono ?_
  rintro e w' ⟨rfl, rfl⟩
  go_wp2_with fail
  refine (active_any _ _ _ _ _ _ hs (by omega) (by omega) (by omega)).mono ?_
  rintro e w' ⟨rfl, rfl⟩
  go_wp2_with fail
  refine (stale_any _ _ _ _ _ _ hs (by omega) (by omega) (by omega)).mono ?_
  rintro e w' ⟨rfl, rfl⟩
  go_wp2_with fail
  refine (stale_any _ _ _ _ _ _ hs (by omega) (by omega) (by omega)).mono ?_
  rintro e w' ⟨rfl, rfl⟩
  go_wp2_with fail
  refine (warning_any _ _ _ _ _ _ hs (by omega) (by omega)).mono ?_
  rintro e w' ⟨rfl, rfl⟩
  go_wp2_with fail
  refine (warning_any _ _ _ _ _ _ hs (by omega) (by omega)).mono ?_
  rintro e w' ⟨rfl, rfl⟩
  go_wp2_with fail
  refine (stuck_any _ _ _ _ _ _ hs (by omega)).mono ?_
  rintro e w' ⟨rfl, rfl⟩
  go_wp2
  go_ret
  exact ⟨rfl, by repeat (first | exact Grown.refl _ | apply Grown.alloc)⟩

set_option maxHeartbeats 2000000 in
theorem at_stale (a b c d : Int) (s : ByteArray) (w : World) (h0 : s.size ≤ 1048576) (h1 : a < b) (h2 : b < c) (h3 : -9223372036854775808 < a) (h4 : c ≤ 9223372036854775807) (hs : (s.toList == [97, 99, 116, 105, 118, 101]) = true) (d1 : d < c) (d2 : d < b) (d3 : a ≤ d) :
    Calls Try.prog 4 #[.int .i64 a, .int .i64 b, .int .i64 c, .string s, .int .i64 d] w fun e w' => e = .returned (.bool true) ∧ Grown w w' := by
  go_enter Try.func4, Try.ntmps4
  go_wp2_with (first | (go_at_call 10; go_in) | fail)
  refine (ladder_any _ _ _ _).mono ?_
  rintro e w' ⟨rfl, rfl⟩
  go_wp2_with fail
  refine (stale_any _ _ _ _ _ _ hs (by omega) (by omega) (by omega)).mono ?_
  rintro e w' ⟨rfl, rfl⟩
  go_wp2_with fail
  refine (active_any _ _ _ _ _ _ hs (by omega) (by omega) (by omega)).mono ?_
  rintro e w' ⟨rfl, rfl⟩
  go_wp2_with fail
  refine (stale_any _ _ _ _ _ _ hs (by omega) (by omega) (by omega)).mono ?_
  rintro e w' ⟨rfl, rfl⟩
  go_wp2_with fail
  refine (stale_any _ _ _ _ _ _ hs (by omega) (by omega) (by omega)).mono ?_
  rintro e w' ⟨rfl, rfl⟩
  go_wp2_with fail
  refine (warning_any _ _ _ _ _ _ hs (by omega) (by omega)).mono ?_
  rintro e w' ⟨rfl, rfl⟩
  go_wp2_with fail
  refine (warning_any _ _ _ _ _ _ hs (by omega) (by omega)).mono ?_
  rintro e w' ⟨rfl, rfl⟩
  go_wp2_with fail
  refine (stuck_any _ _ _ _ _ _ hs (by omega)).mono ?_
  rintro e w' ⟨rfl, rfl⟩
  go_wp2
  go_ret
  exact ⟨rfl, by repeat (first | exact Grown.refl _ | apply Grown.alloc)⟩

set_option maxHeartbeats 2000000 in
theorem at_active (a b c d : Int) (s : ByteArray) (w : World) (h0 : s.size ≤ 1048576) (h1 : a < b) (h2 : b < c) (h3 : -9223372036854775808 < a) (h4 : c ≤ 9223372036854775807) (hs : (s.toList == [97, 99, 116, 105, 118, 101]) = true) (d1 : d < c) (d2 : d < b) (d3 : d < a) :
    Calls Try.prog 4 #[.int .i64 a, .int .i64 b, .int .i64 c, .string s, .int .i64 d] w fun e w' => e = .returned (.bool true) ∧ Grown w w' := by
  go_enter Try.func4, Try.ntmps4
  go_wp2_with (first | (go_at_call 10; go_in) | fail)
  refine (ladder_any _ _ _ _).mono ?_
  rintro e w' ⟨rfl, rfl⟩
  go_wp2_with fail
  refine (active_any _ _ _ _ _ _ hs (by omega) (by omega) (by omega)).mono ?_
  rintro e w' ⟨rfl, rfl⟩
  go_wp2_with fail
  refine (active_any _ _ _ _ _ _ hs (by omega) (by omega) (by omega)).mono ?_
  rintro e w' ⟨rfl, rfl⟩
  go_wp2_with fail
  refine (stale_any _ _ _ _ _ _ hs (by omega) (by omega) (by omega)).mono ?_
  rintro e w' ⟨rfl, rfl⟩
  go_wp2_with fail
  refine (stale_any _ _ _ _ _ _ hs (by omega) (by omega) (by omega)).mono ?_
  rintro e w' ⟨rfl, rfl⟩
  go_wp2_with fail
  refine (warning_any _ _ _ _ _ _ hs (by omega) (by omega)).mono ?_
  rintro e w' ⟨rfl, rfl⟩
  go_wp2_with fail
  refine (warning_any _ _ _ _ _ _ hs (by omega) (by omega)).mono ?_
  rintro e w' ⟨rfl, rfl⟩
  go_wp2_with fail
  refine (stuck_any _ _ _ _ _ _ hs (by omega)).mono ?_
  rintro e w' ⟨rfl, rfl⟩
  go_wp2
  go_ret
  exact ⟨rfl, by repeat (first | exact Grown.refl _ | apply Grown.alloc)⟩

end Go.Proofs.Qxb6630262a.Steps
