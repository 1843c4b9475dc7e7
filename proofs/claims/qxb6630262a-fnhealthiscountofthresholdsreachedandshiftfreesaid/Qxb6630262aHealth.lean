/-
  THE WALKS that both statements of seat b6630262a share: zzLadder, Ladder.Health.
-/
import Derived.Test.Qxb6630262aRows
import Derived.WalkKit
import Derived.ProofKit
namespace Go.Proofs.Qxb6630262a.Health
open Go.RowKit

theorem ladder_any (a b c : Int) (w : World) :
    Calls Try.prog 6 #[.int .i64 a, .int .i64 b, .int .i64 c] w fun e w' => e = .returned (.agg #[.int .i64 a, .int .i64 b, .int .i64 c]) ∧ w' = w.alloc (.cells #[.int .i64 a, .int .i64 b, .int .i64 c] 25) := by
  go_enter Try.func6, Try.ntmps6
  go_wp2
  exact bodyPost_ret (v := .agg #[.int .i64 a, .int .i64 b, .int .i64 c]) (by simp [results, Try.results6, go_sem]) rfl ⟨rfl, rfl⟩

theorem none_any (a b c : Int) (s : ByteArray) (d : Int) (w : World) (hs : (s.toList == [97, 99, 116, 105, 118, 101]) = false) :
    Calls Try.prog 7 #[.agg #[.int .i64 a, .int .i64 b, .int .i64 c], .string s, .int .i64 d] w fun e w' => e = .returned (.string ⟨#[110, 111, 110, 101]⟩) ∧ w' = w.alloc (.cells #[.int .i64 a, .int .i64 b, .int .i64 c] 25) := by
  go_enter Try.func7, Try.ntmps7
  go_wp2
  go_ret
  exact ⟨rfl, rfl⟩

theorem stuck_any (a b c : Int) (s : ByteArray) (d : Int) (w : World) (hs : (s.toList == [97, 99, 116, 105, 118, 101]) = true) (h1 : c ≤ d) :
    Calls Try.prog 7 #[.agg #[.int .i64 a, .int .i64 b, .int .i64 c], .string s, .int .i64 d] w fun e w' => e = .returned (.string ⟨#[115, 116, 117, 99, 107]⟩) ∧ w' = w.alloc (.cells #[.int .i64 a, .int .i64 b, .int .i64 c] 25) := by
  go_enter Try.func7, Try.ntmps7
  go_wp2
  go_ret
  exact ⟨rfl, rfl⟩

theorem warning_any (a b c : Int) (s : ByteArray) (d : Int) (w : World) (hs : (s.toList == [97, 99, 116, 105, 118, 101]) = true) (h1 : d < c) (h2 : b ≤ d) :
    Calls Try.prog 7 #[.agg #[.int .i64 a, .int .i64 b, .int .i64 c], .string s, .int .i64 d] w fun e w' => e = .returned (.string ⟨#[119, 97, 114, 110, 105, 110, 103]⟩) ∧ w' = w.alloc (.cells #[.int .i64 a, .int .i64 b, .int .i64 c] 25) := by
  go_enter Try.func7, Try.ntmps7
  go_wp2
  go_ret
  exact ⟨rfl, rfl⟩

theorem stale_any (a b c : Int) (s : ByteArray) (d : Int) (w : World) (hs : (s.toList == [97, 99, 116, 105, 118, 101]) = true) (h1 : d < c) (h2 : d < b) (h3 : a ≤ d) :
    Calls Try.prog 7 #[.agg #[.int .i64 a, .int .i64 b, .int .i64 c], .string s, .int .i64 d] w fun e w' => e = .returned (.string ⟨#[115, 116, 97, 108, 101]⟩) ∧ w' = w.alloc (.cells #[.int .i64 a, .int .i64 b, .int .i64 c] 25) := by
  go_enter Try.func7, Try.ntmps7
  go_wp2
  go_ret
  exact ⟨rfl, rfl⟩

theorem active_any (a b c : Int) (s : ByteArray) (d : Int) (w : World) (hs : (s.toList == [97, 99, 116, 105, 118, 101]) = true) (h1 : d < c) (h2 : d < b) (h3 : d < a) :
    Calls Try.prog 7 #[.agg #[.int .i64 a, .int .i64 b, .int .i64 c], .string s, .int .i64 d] w fun e w' => e = .returned (.string ⟨#[97, 99, 116, 105, 118, 101]⟩) ∧ w' = w.alloc (.cells #[.int .i64 a, .int .i64 b, .int .i64 c] 25) := by
  go_enter Try.func7, Try.ntmps7
  go_wp2
  go_ret
  exact ⟨rfl, rfl⟩

end Go.Proofs.Qxb6630262a.Health
