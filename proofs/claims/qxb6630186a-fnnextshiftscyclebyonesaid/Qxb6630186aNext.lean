/-
  THE WALKS that both statements of seat b6630186a share: Next; and the plain law of the cycle.
-/
import Derived.Test.Qxb6630186aRows
import Derived.WalkKit
import Derived.ProofKit
namespace Go.Proofs.Qxb6630186a.Nx
open Go.RowKit

/-! ### THE PLAIN LAW -/
/-- The number that follows. -/
def nxt (c : Int) : Int := if c = 16777215 then 256 else c + 1
/-- n turned by k places. -/
def rot (n k : Int) : Int := 256 + (n - 256 + k) % 16776960
theorem nxt_in (c : Int) (h1 : 256 ≤ c) (h2 : c ≤ 16777215) : 256 ≤ nxt c ∧ nxt c ≤ 16777215 := by
  unfold nxt; split <;> omega
theorem rot_in (n k : Int) : 256 ≤ rot n k ∧ rot n k ≤ 16777215 := by unfold rot; omega
theorem rot_zero (n : Int) (h1 : 256 ≤ n) (h2 : n ≤ 16777215) : rot n 0 = n := by unfold rot; omega
theorem rot_succ (n k : Int) : nxt (rot n k) = rot n (k + 1) := by
  unfold nxt rot; split <;> omega

/-! ### Next -/
theorem next_any (c : Int) (h1 : 256 ≤ c) (h2 : c ≤ 16777215) (w : World) :
    Calls Try.prog 5 #[.int .u32 c] w fun e w' => e = .returned (.int .u32 (nxt c)) ∧ w' = w := by
  by_cases h : c = 16777215
  · have e : nxt c = 256 := if_pos h
    have h3 : 16777215 ≤ c := by omega
    rw [e]
    clear e h
    go_enter Try.func5, Try.ntmps5
    go_wp2
    go_ret
    exact ⟨rfl, rfl⟩
  · have e : nxt c = c + 1 := if_neg h
    have h3 : c < 16777215 := by omega
    rw [e]
    clear e h
    go_enter Try.func5, Try.ntmps5
    go_wp2
    go_ret
    exact ⟨rfl, rfl⟩

end Go.Proofs.Qxb6630186a.Nx
