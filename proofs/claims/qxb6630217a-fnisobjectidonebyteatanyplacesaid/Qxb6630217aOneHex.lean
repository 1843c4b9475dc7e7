/-
  THE WALK of isLowerHexB1 (seat b6630217a): a look-up in a table of sixteen.
-/
import Derived.Test.Qxb6630217aRows
import Derived.Test.Qxb6630217aPlain
import Derived.WalkKit
import Derived.ProofKit
namespace Go.Proofs.Qxb6630217a.OneHex
open Go.RowKit Go.Proofs.Qxb6630217a.Plain

def AnswersHex (c : Int) (e : Ending) : Prop := (e = .returned (.bool true) ∧ hexP c) ∨ (e = .returned (.bool false) ∧ ¬ hexP c)

/-- What stands in the table. -/
def tbl (j : Nat) : Int := if j < 10 then 48 + j else 87 + j

theorem tbl_get (k : Nat) (h : k < 16) : (((⟨#[48, 49, 50, 51, 52, 53, 54, 55, 56, 57, 97, 98, 99, 100, 101, 102]⟩ : ByteArray)[k]'h).toNat : Int) = tbl k := by
  have f : ∀ k : Fin 16, (((⟨#[48, 49, 50, 51, 52, 53, 54, 55, 56, 57, 97, 98, 99, 100, 101, 102]⟩ : ByteArray)[k.val]'k.isLt).toNat : Int) = tbl k.val := by decide
  exact f ⟨k, h⟩
theorem tbl_hex (k : Nat) (h : k < 16) : hexP (tbl k) := by
  unfold hexP tbl; split <;> omega
theorem tblHit {k : Nat} {c : Int} (h : k < 16) (e : ((((⟨#[48, 49, 50, 51, 52, 53, 54, 55, 56, 57, 97, 98, 99, 100, 101, 102]⟩ : ByteArray)[k]'h).toNat : Int) == c) = true) : hexP c := by
  have := beq_iff_eq.1 e
  rw [tbl_get k h] at this
  rw [← this]
  exact tbl_hex k h
theorem tblMiss {k : Nat} {c : Int} (h : k < 16) (e : ((((⟨#[48, 49, 50, 51, 52, 53, 54, 55, 56, 57, 97, 98, 99, 100, 101, 102]⟩ : ByteArray)[k]'h).toNat : Int) == c) = false)
    (hall : ∀ j, j < k → tbl j ≠ c) : ∀ j, j < k + 1 → tbl j ≠ c := by
  have := beq_eq_false_iff_ne.1 e
  rw [tbl_get k h] at this
  intro j hj
  by_cases ej : j = k
  · rw [ej]; exact this
  · exact hall j (by omega)

set_option maxHeartbeats 400000 in
theorem hex_any (c : Int) (w : World) :
    Calls Try.prog 8 #[.int .u8 c] w fun e w' => AnswersHex c e ∧ w' = w := by
  go_enter Try.func8, Try.ntmps8
  go_wp2
  go_loop [3] (fun i => ∃ k : Nat, k ≤ 16 ∧ i = .int .i64 k ∧ Hid (∀ j, j < k → tbl j ≠ c)) (fun i => 16 - (intOf i).toNat)
  case atStart => exact ⟨0, Nat.zero_le _, rfl, fun j h => by omega⟩
  case round =>
    obtain ⟨k, hk, rfl, hall⟩ := hrel
    by_cases hlt : k < 16
    · go_wp2
      · go_ret
        exact ⟨.inl ⟨rfl, tblHit hlt ‹_›⟩, rfl⟩
      · go_round
        case rel => exact ⟨k + 1, by omega, by go_num, tblMiss hlt ‹_› hall.out⟩
        case measure => simp [intOf]; omega
    · have F : Hid (¬ hexP c) := by
        intro h
        unfold hexP at h
        rcases h with h | h
        · exact hall.out (c - 48).toNat (by omega) (by unfold tbl; rw [if_pos (by omega)]; omega)
        · exact hall.out (c - 87).toNat (by omega) (by unfold tbl; rw [if_neg (by omega)]; omega)
      go_wp2
      go_ret
      exact ⟨.inr ⟨rfl, F.out⟩, rfl⟩

/-- isLowerHexB1 at a byte of which the answer is known. -/
theorem hex_val (c : Int) (w : World) (b : Bool) (h : hexB c = b) :
    Calls Try.prog 8 #[.int .u8 c] w fun e w' => e = .returned (.bool b) ∧ w' = w := by
  refine (hex_any c w).mono fun e w' ⟨a, hw⟩ => ⟨?_, hw⟩
  rcases a with ⟨a, x⟩ | ⟨a, x⟩
  · rw [a, ← h, (hexB_iff c).2 x]
  · have : hexB c = false := by
      cases e : hexB c with
      | false => rfl
      | true => exact absurd ((hexB_iff c).1 e) x
    rw [a, ← h, this]

end Go.Proofs.Qxb6630217a.OneHex
