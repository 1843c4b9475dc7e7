/-
  THE WALK of FnHealthIsCountOfThresholdsReachedAndShiftFree (seat b6630262a).
-/
import Derived.Test.Qxb6630262aRows
import Derived.Test.Qxb6630262aHealth
import Derived.WalkKit
import Derived.ProofKit
namespace Go.Proofs.Qxb6630262a.Count
open Go.RowKit Go.Proofs.Qxb6630262a.Health

/-- Within the bound of the shift. -/
def withinB (x : Int) : Bool := decide (-1152921504606846976 ≤ x ∧ x ≤ 1152921504606846976)
theorem within_bd {x : Int} (h : withinB x = true) : -1152921504606846976 ≤ x ∧ x ≤ 1152921504606846976 := of_decide_eq_true h
theorem within_out {x : Int} (h : withinB x = false) : ¬ (-1152921504606846976 ≤ x ∧ x ≤ 1152921504606846976) := of_decide_eq_false h

theorem within_val (x : Int) (w : World) (b : Bool) (h : withinB x = b) :
    Calls Try.prog 9 #[.int .i64 x] w fun e w' => e = .returned (.bool b) ∧ w' = w := by
  cases b with
  | true =>
    obtain ⟨h1, h2⟩ := within_bd h
    clear h
    go_enter Try.func9, Try.ntmps9
    go_wp2
    go_ret
    exact ⟨rfl, rfl⟩
  | false =>
    have hn := within_out h
    clear h
    by_cases h1 : -1152921504606846976 ≤ x
    · have h2 : ¬ x ≤ 1152921504606846976 := by omega
      clear hn
      go_enter Try.func9, Try.ntmps9
      go_wp2
      go_ret
      exact ⟨rfl, rfl⟩
    · clear hn
      go_enter Try.func9, Try.ntmps9
      go_wp2
      go_ret
      exact ⟨rfl, rfl⟩

set_option maxHeartbeats 4000000 in
theorem notActive (a b c d k : Int) (s : ByteArray) (w : World) (h0 : s.size ≤ 1048576) (h1 : a ≤ b) (h2 : b ≤ c) (hs : (s.toList == [97, 99, 116, 105, 118, 101]) = false) :
    Calls Try.prog 3 #[.int .i64 a, .int .i64 b, .int .i64 c, .string s, .int .i64 d, .int .i64 k] w fun e w' => e = .returned (.bool true) ∧ Grown w w' := by
  go_enter Try.func3, Try.ntmps3
  go_wp2_with (first | (go_at_call 5; go_in) | fail)
  refine (ladder_any _ _ _ _).mono ?_
  rintro e w' ⟨rfl, rfl⟩
  go_wp2_with fail
  refine (none_any _ _ _ _ _ _ hs).mono ?_
  rintro e w' ⟨rfl, rfl⟩
  go_wp2_with fail
  cases ea : withinB a with
  | false =>
    have Ea : Hid (withinB a = false) := ea
    clear ea
    refine (within_val _ _ _ Ea.out).mono ?_
    rintro e w' ⟨rfl, rfl⟩
    go_wp2
    go_ret
    exact ⟨rfl, by repeat (first | exact Grown.refl _ | apply Grown.alloc)⟩
  | true =>
    have Ea : Hid (withinB a = true) := ea
    clear ea
    refine (within_val _ _ _ Ea.out).mono ?_
    rintro e w' ⟨rfl, rfl⟩
    go_wp2_with fail
    cases eb : withinB b with
    | false =>
      have Eb : Hid (withinB b = false) := eb
      clear eb
      refine (within_val _ _ _ Eb.out).mono ?_
      rintro e w' ⟨rfl, rfl⟩
      go_wp2
      go_ret
      exact ⟨rfl, by repeat (first | exact Grown.refl _ | apply Grown.alloc)⟩
    | true =>
      have Eb : Hid (withinB b = true) := eb
      clear eb
      refine (within_val _ _ _ Eb.out).mono ?_
      rintro e w' ⟨rfl, rfl⟩
      go_wp2_with fail
      cases ec : withinB c with
      | false =>
        have Ec : Hid (withinB c = false) := ec
        clear ec
        refine (within_val _ _ _ Ec.out).mono ?_
        rintro e w' ⟨rfl, rfl⟩
        go_wp2
        go_ret
        exact ⟨rfl, by repeat (first | exact Grown.refl _ | apply Grown.alloc)⟩
      | true =>
        have Ec : Hid (withinB c = true) := ec
        clear ec
        refine (within_val _ _ _ Ec.out).mono ?_
        rintro e w' ⟨rfl, rfl⟩
        go_wp2_with fail
        cases ed : withinB d with
        | false =>
          have Ed : Hid (withinB d = false) := ed
          clear ed
          refine (within_val _ _ _ Ed.out).mono ?_
          rintro e w' ⟨rfl, rfl⟩
          go_wp2
          go_ret
          exact ⟨rfl, by repeat (first | exact Grown.refl _ | apply Grown.alloc)⟩
        | true =>
          have Ed : Hid (withinB d = true) := ed
          clear ed
          refine (within_val _ _ _ Ed.out).mono ?_
          rintro e w' ⟨rfl, rfl⟩
          go_wp2_with fail
          cases ek : withinB k with
          | false =>
            have Ek : Hid (withinB k = false) := ek
            clear ek
            refine (within_val _ _ _ Ek.out).mono ?_
            rintro e w' ⟨rfl, rfl⟩
            go_wp2
            go_ret
            exact ⟨rfl, by repeat (first | exact Grown.refl _ | apply Grown.alloc)⟩
          | true =>
            have Ek : Hid (withinB k = true) := ek
            clear ek
            refine (within_val _ _ _ Ek.out).mono ?_
            rintro e w' ⟨rfl, rfl⟩
            obtain ⟨la, ua⟩ := within_bd Ea.out
            obtain ⟨lb, ub⟩ := within_bd Eb.out
            obtain ⟨lc, uc⟩ := within_bd Ec.out
            obtain ⟨ld, ud⟩ := within_bd Ed.out
            obtain ⟨lk, uk⟩ := within_bd Ek.out
            clear Ea Eb Ec Ed Ek
            go_wp2_with fail
            refine (ladder_any _ _ _ _).mono ?_
            rintro e w' ⟨rfl, rfl⟩
            go_wp2_with fail
            refine (none_any _ _ _ _ _ _ hs).mono ?_
            rintro e w' ⟨rfl, rfl⟩
            go_wp2
            go_ret
            exact ⟨rfl, by repeat (first | exact Grown.refl _ | apply Grown.alloc)⟩

set_option maxHeartbeats 4000000 in
theorem at_stuck (a b c d k : Int) (s : ByteArray) (w : World) (h0 : s.size ≤ 1048576) (h1 : a ≤ b) (h2 : b ≤ c) (hs : (s.toList == [97, 99, 116, 105, 118, 101]) = true) (d1 : c ≤ d) (d2 : b ≤ d) (d3 : a ≤ d) :
    Calls Try.prog 3 #[.int .i64 a, .int .i64 b, .int .i64 c, .string s, .int .i64 d, .int .i64 k] w fun e w' => e = .returned (.bool true) ∧ Grown w w' := by
  go_enter Try.func3, Try.ntmps3
  go_wp2_with (first | (go_at_call 5; go_in) | fail)
  refine (ladder_any _ _ _ _).mono ?_
  rintro e w' ⟨rfl, rfl⟩
  go_wp2_with fail
  refine (stuck_any _ _ _ _ _ _ hs (by omega)).mono ?_
  rintro e w' ⟨rfl, rfl⟩
  go_wp2_with (first | (go_at_call 8; go_in) | fail)
  cases ea : withinB a with
  | false =>
    have Ea : Hid (withinB a = false) := ea
    clear ea
    refine (within_val _ _ _ Ea.out).mono ?_
    rintro e w' ⟨rfl, rfl⟩
    go_wp2
    go_ret
    exact ⟨rfl, by repeat (first | exact Grown.refl _ | apply Grown.alloc)⟩
  | true =>
    have Ea : Hid (withinB a = true) := ea
    clear ea
    refine (within_val _ _ _ Ea.out).mono ?_
    rintro e w' ⟨rfl, rfl⟩
    go_wp2_with fail
    cases eb : withinB b with
    | false =>
      have Eb : Hid (withinB b = false) := eb
      clear eb
      refine (within_val _ _ _ Eb.out).mono ?_
      rintro e w' ⟨rfl, rfl⟩
      go_wp2
      go_ret
      exact ⟨rfl, by repeat (first | exact Grown.refl _ | apply Grown.alloc)⟩
    | true =>
      have Eb : Hid (withinB b = true) := eb
      clear eb
      refine (within_val _ _ _ Eb.out).mono ?_
      rintro e w' ⟨rfl, rfl⟩
      go_wp2_with fail
      cases ec : withinB c with
      | false =>
        have Ec : Hid (withinB c = false) := ec
        clear ec
        refine (within_val _ _ _ Ec.out).mono ?_
        rintro e w' ⟨rfl, rfl⟩
        go_wp2
        go_ret
        exact ⟨rfl, by repeat (first | exact Grown.refl _ | apply Grown.alloc)⟩
      | true =>
        have Ec : Hid (withinB c = true) := ec
        clear ec
        refine (within_val _ _ _ Ec.out).mono ?_
        rintro e w' ⟨rfl, rfl⟩
        go_wp2_with fail
        cases ed : withinB d with
        | false =>
          have Ed : Hid (withinB d = false) := ed
          clear ed
          refine (within_val _ _ _ Ed.out).mono ?_
          rintro e w' ⟨rfl, rfl⟩
          go_wp2
          go_ret
          exact ⟨rfl, by repeat (first | exact Grown.refl _ | apply Grown.alloc)⟩
        | true =>
          have Ed : Hid (withinB d = true) := ed
          clear ed
          refine (within_val _ _ _ Ed.out).mono ?_
          rintro e w' ⟨rfl, rfl⟩
          go_wp2_with fail
          cases ek : withinB k with
          | false =>
            have Ek : Hid (withinB k = false) := ek
            clear ek
            refine (within_val _ _ _ Ek.out).mono ?_
            rintro e w' ⟨rfl, rfl⟩
            go_wp2
            go_ret
            exact ⟨rfl, by repeat (first | exact Grown.refl _ | apply Grown.alloc)⟩
          | true =>
            have Ek : Hid (withinB k = true) := ek
            clear ek
            refine (within_val _ _ _ Ek.out).mono ?_
            rintro e w' ⟨rfl, rfl⟩
            obtain ⟨la, ua⟩ := within_bd Ea.out
            obtain ⟨lb, ub⟩ := within_bd Eb.out
            obtain ⟨lc, uc⟩ := within_bd Ec.out
            obtain ⟨ld, ud⟩ := within_bd Ed.out
            obtain ⟨lk, uk⟩ := within_bd Ek.out
            clear Ea Eb Ec Ed Ek
            go_wp2_with fail
            refine (ladder_any _ _ _ _).mono ?_
            rintro e w' ⟨rfl, rfl⟩
            go_wp2_with fail
            refine (stuck_any _ _ _ _ _ _ hs (by omega)).mono ?_
            rintro e w' ⟨rfl, rfl⟩
            go_wp2
            go_ret
            exact ⟨rfl, by repeat (first | exact Grown.refl _ | apply Grown.alloc)⟩

set_option maxHeartbeats 4000000 in
theorem at_warning (a b c d k : Int) (s : ByteArray) (w : World) (h0 : s.size ≤ 1048576) (h1 : a ≤ b) (h2 : b ≤ c) (hs : (s.toList == [97, 99, 116, 105, 118, 101]) = true) (d1 : d < c) (d2 : b ≤ d) (d3 : a ≤ d) :
    Calls Try.prog 3 #[.int .i64 a, .int .i64 b, .int .i64 c, .string s, .int .i64 d, .int .i64 k] w fun e w' => e = .returned (.bool true) ∧ Grown w w' := by
  go_enter Try.func3, Try.ntmps3
  go_wp2_with (first | (go_at_call 5; go_in) | fail)
  refine (ladder_any _ _ _ _).mono ?_
  rintro e w' ⟨rfl, rfl⟩
  go_wp2_with fail
  refine (warning_any _ _ _ _ _ _ hs (by omega) (by omega)).mono ?_
  rintro e w' ⟨rfl, rfl⟩
  go_wp2_with (first | (go_at_call 8; go_in) | fail)
  cases ea : withinB a with
  | false =>
    have Ea : Hid (withinB a = false) := ea
    clear ea
    refine (within_val _ _ _ Ea.out).mono ?_
    rintro e w' ⟨rfl, rfl⟩
    go_wp2
    go_ret
    exact ⟨rfl, by repeat (first | exact Grown.refl _ | apply Grown.alloc)⟩
  | true =>
    have Ea : Hid (withinB a = true) := ea
    clear ea
    refine (within_val _ _ _ Ea.out).mono ?_
    rintro e w' ⟨rfl, rfl⟩
    go_wp2_with fail
    cases eb : withinB b with
    | false =>
      have Eb : Hid (withinB b = false) := eb
      clear eb
      refine (within_val _ _ _ Eb.out).mono ?_
      rintro e w' ⟨rfl, rfl⟩
      go_wp2
      go_ret
      exact ⟨rfl, by repeat (first | exact Grown.refl _ | apply Grown.alloc)⟩
    | true =>
      have Eb : Hid (withinB b = true) := eb
      clear eb
      refine (within_val _ _ _ Eb.out).mono ?_
      rintro e w' ⟨rfl, rfl⟩
      go_wp2_with fail
      cases ec : withinB c with
      | false =>
        have Ec : Hid (withinB c = false) := ec
        clear ec
        refine (within_val _ _ _ Ec.out).mono ?_
        rintro e w' ⟨rfl, rfl⟩
        go_wp2
        go_ret
        exact ⟨rfl, by repeat (first | exact Grown.refl _ | apply Grown.alloc)⟩
      | true =>
        have Ec : Hid (withinB c = true) := ec
        clear ec
        refine (within_val _ _ _ Ec.out).mono ?_
        rintro e w' ⟨rfl, rfl⟩
        go_wp2_with fail
        cases ed : withinB d with
        | false =>
          have Ed : Hid (withinB d = false) := ed
          clear ed
          refine (within_val _ _ _ Ed.out).mono ?_
          rintro e w' ⟨rfl, rfl⟩
          go_wp2
          go_ret
          exact ⟨rfl, by repeat (first | exact Grown.refl _ | apply Grown.alloc)⟩
        | true =>
          have Ed : Hid (withinB d = true) := ed
          clear ed
          refine (within_val _ _ _ Ed.out).mono ?_
          rintro e w' ⟨rfl, rfl⟩
          go_wp2_with fail
          cases ek : withinB k with
          | false =>
            have Ek : Hid (withinB k = false) := ek
            clear ek
            refine (within_val _ _ _ Ek.out).mono ?_
            rintro e w' ⟨rfl, rfl⟩
            go_wp2
            go_ret
            exact ⟨rfl, by repeat (first | exact Grown.refl _ | apply Grown.alloc)⟩
          | true =>
            have Ek : Hid (withinB k = true) := ek
            clear ek
            refine (within_val _ _ _ Ek.out).mono ?_
            rintro e w' ⟨rfl, rfl⟩
            obtain ⟨la, ua⟩ := within_bd Ea.out
            obtain ⟨lb, ub⟩ := within_bd Eb.out
            obtain ⟨lc, uc⟩ := within_bd Ec.out
            obtain ⟨ld, ud⟩ := within_bd Ed.out
            obtain ⟨lk, uk⟩ := within_bd Ek.out
            clear Ea Eb Ec Ed Ek
            go_wp2_with fail
            refine (ladder_any _ _ _ _).mono ?_
            rintro e w' ⟨rfl, rfl⟩
            go_wp2_with fail
            refine (warning_any _ _ _ _ _ _ hs (by omega) (by omega)).mono ?_
            rintro e w' ⟨rfl, rfl⟩
            go_wp2
            go_ret
            exact ⟨rfl, by repeat (first | exact Grown.refl _ | apply Grown.alloc)⟩

set_option maxHeartbeats 4000000 in
theorem at_stale (a b c d k : Int) (s : ByteArray) (w : World) (h0 : s.size ≤ 1048576) (h1 : a ≤ b) (h2 : b ≤ c) (hs : (s.toList == [97, 99, 116, 105, 118, 101]) = true) (d1 : d < c) (d2 : d < b) (d3 : a ≤ d) :
    Calls Try.prog 3 #[.int .i64 a, .int .i64 b, .int .i64 c, .string s, .int .i64 d, .int .i64 k] w fun e w' => e = .returned (.bool true) ∧ Grown w w' := by
  go_enter Try.func3, Try.ntmps3
  go_wp2_with (first | (go_at_call 5; go_in) | fail)
  refine (ladder_any _ _ _ _).mono ?_
  rintro e w' ⟨rfl, rfl⟩
  go_wp2_with fail
  refine (stale_any _ _ _ _ _ _ hs (by omega) (by omega) (by omega)).mono ?_
  rintro e w' ⟨rfl, rfl⟩
  go_wp2_with (first | (go_at_call 8; go_in) | fail)
  cases ea : withinB a with
  | false =>
    have Ea : Hid (withinB a = false) := ea
    clear ea
    refine (within_val _ _ _ Ea.out).mono ?_
    rintro e w' ⟨rfl, rfl⟩
    go_wp2
    go_ret
    exact ⟨rfl, by repeat (first | exact Grown.refl _ | apply Grown.alloc)⟩
  | true =>
    have Ea : Hid (withinB a = true) := ea
    clear ea
    refine (within_val _ _ _ Ea.out).mono ?_
    rintro e w' ⟨rfl, rfl⟩
    go_wp2_with fail
    cases eb : withinB b with
    | false =>
      have Eb : Hid (withinB b = false) := eb
      clear eb
      refine (within_val _ _ _ Eb.out).mono ?_
      rintro e w' ⟨rfl, rfl⟩
      go_wp2
      go_ret
      exact ⟨rfl, by repeat (first | exact Grown.refl _ | apply Grown.alloc)⟩
    | true =>
      have Eb : Hid (withinB b = true) := eb
      clear eb
      refine (within_val _ _ _ Eb.out).mono ?_
      rintro e w' ⟨rfl, rfl⟩
      go_wp2_with fail
      cases ec : withinB c with
      | false =>
        have Ec : Hid (withinB c = false) := ec
        clear ec
        refine (within_val _ _ _ Ec.out).mono ?_
        rintro e w' ⟨rfl, rfl⟩
        go_wp2
        go_ret
        exact ⟨rfl, by repeat (first | exact Grown.refl _ | apply Grown.alloc)⟩
      | true =>
        have Ec : Hid (withinB c = true) := ec
        clear ec
        refine (within_val _ _ _ Ec.out).mono ?_
        rintro e w' ⟨rfl, rfl⟩
        go_wp2_with fail
        cases ed : withinB d with
        | false =>
          have Ed : Hid (withinB d = false) := ed
          clear ed
          refine (within_val _ _ _ Ed.out).mono ?_
          rintro e w' ⟨rfl, rfl⟩
          go_wp2
          go_ret
          exact ⟨rfl, by repeat (first | exact Grown.refl _ | apply Grown.alloc)⟩
        | true =>
          have Ed : Hid (withinB d = true) := ed
          clear ed
          refine (within_val _ _ _ Ed.out).mono ?_
          rintro e w' ⟨rfl, rfl⟩
          go_wp2_with fail
          cases ek : withinB k with
          | false =>
            have Ek : Hid (withinB k = false) := ek
            clear ek
            refine (within_val _ _ _ Ek.out).mono ?_
            rintro e w' ⟨rfl, rfl⟩
            go_wp2
            go_ret
            exact ⟨rfl, by repeat (first | exact Grown.refl _ | apply Grown.alloc)⟩
          | true =>
            have Ek : Hid (withinB k = true) := ek
            clear ek
            refine (within_val _ _ _ Ek.out).mono ?_
            rintro e w' ⟨rfl, rfl⟩
            obtain ⟨la, ua⟩ := within_bd Ea.out
            obtain ⟨lb, ub⟩ := within_bd Eb.out
            obtain ⟨lc, uc⟩ := within_bd Ec.out
            obtain ⟨ld, ud⟩ := within_bd Ed.out
            obtain ⟨lk, uk⟩ := within_bd Ek.out
            clear Ea Eb Ec Ed Ek
            go_wp2_with fail
            refine (ladder_any _ _ _ _).mono ?_
            rintro e w' ⟨rfl, rfl⟩
            go_wp2_with fail
            refine (stale_any _ _ _ _ _ _ hs (by omega) (by omega) (by omega)).mono ?_
            rintro e w' ⟨rfl, rfl⟩
            go_wp2
            go_ret
            exact ⟨rfl, by repeat (first | exact Grown.refl _ | apply Grown.alloc)⟩

set_option maxHeartbeats 4000000 in
theorem at_active (a b c d k : Int) (s : ByteArray) (w : World) (h0 : s.size ≤ 1048576) (h1 : a ≤ b) (h2 : b ≤ c) (hs : (s.toList == [97, 99, 116, 105, 118, 101]) = true) (d1 : d < c) (d2 : d < b) (d3 : d < a) :
    Calls Try.prog 3 #[.int .i64 a, .int .i64 b, .int .i64 c, .string s, .int .i64 d, .int .i64 k] w fun e w' => e = .returned (.bool true) ∧ Grown w w' := by
  go_enter Try.func3, Try.ntmps3
  go_wp2_with (first | (go_at_call 5; go_in) | fail)
  refine (ladder_any _ _ _ _).mono ?_
  rintro e w' ⟨rfl, rfl⟩
  go_wp2_with fail
  refine (active_any _ _ _ _ _ _ hs (by omega) (by omega) (by omega)).mono ?_
  rintro e w' ⟨rfl, rfl⟩
  go_wp2_with (first | (go_at_call 8; go_in) | fail)
  cases ea : withinB a with
  | false =>
    have Ea : Hid (withinB a = false) := ea
    clear ea
    refine (within_val _ _ _ Ea.out).mono ?_
    rintro e w' ⟨rfl, rfl⟩
    go_wp2
    go_ret
    exact ⟨rfl, by repeat (first | exact Grown.refl _ | apply Grown.alloc)⟩
  | true =>
    have Ea : Hid (withinB a = true) := ea
    clear ea
    refine (within_val _ _ _ Ea.out).mono ?_
    rintro e w' ⟨rfl, rfl⟩
    go_wp2_with fail
    cases eb : withinB b with
    | false =>
      have Eb : Hid (withinB b = false) := eb
      clear eb
      refine (within_val _ _ _ Eb.out).mono ?_
      rintro e w' ⟨rfl, rfl⟩
      go_wp2
      go_ret
      exact ⟨rfl, by repeat (first | exact Grown.refl _ | apply Grown.alloc)⟩
    | true =>
      have Eb : Hid (withinB b = true) := eb
      clear eb
      refine (within_val _ _ _ Eb.out).mono ?_
      rintro e w' ⟨rfl, rfl⟩
      go_wp2_with fail
      cases ec : withinB c with
      | false =>
        have Ec : Hid (withinB c = false) := ec
        clear ec
        refine (within_val _ _ _ Ec.out).mono ?_
        rintro e w' ⟨rfl, rfl⟩
        go_wp2
        go_ret
        exact ⟨rfl, by repeat (first | exact Grown.refl _ | apply Grown.alloc)⟩
      | true =>
        have Ec : Hid (withinB c = true) := ec
        clear ec
        refine (within_val _ _ _ Ec.out).mono ?_
        rintro e w' ⟨rfl, rfl⟩
        go_wp2_with fail
        cases ed : withinB d with
        | false =>
          have Ed : Hid (withinB d = false) := ed
          clear ed
          refine (within_val _ _ _ Ed.out).mono ?_
          rintro e w' ⟨rfl, rfl⟩
          go_wp2
          go_ret
          exact ⟨rfl, by repeat (first | exact Grown.refl _ | apply Grown.alloc)⟩
        | true =>
          have Ed : Hid (withinB d = true) := ed
          clear ed
          refine (within_val _ _ _ Ed.out).mono ?_
          rintro e w' ⟨rfl, rfl⟩
          go_wp2_with fail
          cases ek : withinB k with
          | false =>
            have Ek : Hid (withinB k = false) := ek
            clear ek
            refine (within_val _ _ _ Ek.out).mono ?_
            rintro e w' ⟨rfl, rfl⟩
            go_wp2
            go_ret
            exact ⟨rfl, by repeat (first | exact Grown.refl _ | apply Grown.alloc)⟩
          | true =>
            have Ek : Hid (withinB k = true) := ek
            clear ek
            refine (within_val _ _ _ Ek.out).mono ?_
            rintro e w' ⟨rfl, rfl⟩
            obtain ⟨la, ua⟩ := within_bd Ea.out
            obtain ⟨lb, ub⟩ := within_bd Eb.out
            obtain ⟨lc, uc⟩ := within_bd Ec.out
            obtain ⟨ld, ud⟩ := within_bd Ed.out
            obtain ⟨lk, uk⟩ := within_bd Ek.out
            clear Ea Eb Ec Ed Ek
            go_wp2_with fail
            refine (ladder_any _ _ _ _).mono ?_
            rintro e w' ⟨rfl, rfl⟩
            go_wp2_with fail
            refine (active_any _ _ _ _ _ _ hs (by omega) (by omega) (by omega)).mono ?_
            rintro e w' ⟨rfl, rfl⟩
            go_wp2
            go_ret
            exact ⟨rfl, by repeat (first | exact Grown.refl _ | apply Grown.alloc)⟩

end Go.Proofs.Qxb6630262a.Count
