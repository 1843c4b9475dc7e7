/-
  THE WALKS of zzInRange, zzRank, zzDist (seat b6630186a), and the plain law of the distance.
-/
import Derived.Test.Qxb6630186aRows
import Derived.Test.Qxb6630186aNext
import Derived.WalkKit
import Derived.ProofKit
namespace Go.Proofs.Qxb6630186a.Dist
open Go.RowKit Go.Proofs.Qxb6630186a.Nx

/-- The forward steps from x to y. -/
def dst (x y : Int) : Int := (y - 256 + 16776960 - (x - 256)) % 16776960
theorem dst_next (x : Int) : dst x (nxt x) = 1 := by
  unfold dst nxt; split <;> omega
theorem dst_both (x y : Int) : dst (nxt x) (nxt y) = dst x y := by
  unfold dst nxt; split <;> split <;> omega

theorem range_yes (c : Int) (h1 : 256 ≤ c) (h2 : c ≤ 16777215) (w : World) :
    Calls Try.prog 6 #[.int .u32 c] w fun e w' => e = .returned (.bool true) ∧ w' = w := by
  go_enter Try.func6, Try.ntmps6
  go_wp2
  go_ret
  exact ⟨rfl, rfl⟩

theorem rank_any (c : Int) (h1 : 256 ≤ c) (h2 : c ≤ 16777215) (w : World) :
    Calls Try.prog 8 #[.int .u32 c] w fun e w' => e = .returned (.int .u64 (c - 256)) ∧ w' = w := by
  go_enter Try.func8, Try.ntmps8
  go_wp2
  go_ret
  exact ⟨rfl, rfl⟩

theorem dist_any (x y : Int) (h1 : 256 ≤ x) (h2 : x ≤ 16777215) (h3 : 256 ≤ y) (h4 : y ≤ 16777215) (w : World) :
    Calls Try.prog 7 #[.int .u32 x, .int .u32 y] w fun e w' => e = .returned (.int .u64 (dst x y)) ∧ w' = w := by
  unfold dst
  go_enter Try.func7, Try.ntmps7
  go_wp2_with fail
  refine (rank_any _ h3 h4 _).mono ?_
  rintro e w' ⟨rfl, rfl⟩
  go_wp2_with fail
  refine (rank_any _ h1 h2 _).mono ?_
  rintro e w' ⟨rfl, rfl⟩
  go_wp2
  go_ret
  exact ⟨rfl, rfl⟩

end Go.Proofs.Qxb6630186a.Dist
