/-
  THE WALK of FnIsNameCutAtAnyPlace (seat b6630138a) where the cut lies inside the string.
-/
import Derived.Test.Qxb6630138aRows
import Derived.Test.Qxb6630138aNames
import Derived.Test.Qxb6630138aLetters
import Derived.Test.Qxb6630138aCutPlain
import Derived.WalkKit
import Derived.ProofKit
import Derived.WalkSpells
namespace Go.Proofs.Qxb6630138a.CutWalk
open Go.RowKit Go.Proofs.Qxb6630138a.Plain Go.Proofs.Qxb6630138a.Names Go.Proofs.Qxb6630138a.Letters Go.Proofs.Qxb6630138a.CutPlain

set_option maxHeartbeats 1000000 in
theorem inside (s : ByteArray) (i : Nat) (h0 : s.size ≤ 65536) (h1 : 1 ≤ i) (h2 : i < s.size) (w : World) :
    Calls Try.prog 4 #[.string s, .int .i64 i] w fun e w' => e = .returned (.bool true) ∧ Grown w w' := by
  have hx : (lettersOf (s.extract 0 i)).size = i := by rw [lettersOf_size, ByteArray.size_extract]; omega
  have hy : (lettersOf (s.extract i s.size)).size = s.size - i := by rw [lettersOf_size, ByteArray.size_extract]; omega
  go_enter Try.func4, Try.ntmps4
  go_wp2_with (first | (go_at_call 8; go_in) | fail)
  refine (name_ex _ _ ?_).mono ?_
  case refine_1 => unfold maxLen; omega
  rintro e w' ⟨bW, rfl, HW, rfl⟩
  go_wp2_with fail
  refine (name_ex _ _ ?_).mono ?_
  case refine_1 => rw [ByteArray.size_append, ByteArray.size_extract, size_a]; unfold maxLen; omega
  rintro e w' ⟨bL, rfl, HL, rfl⟩
  go_wp2_with fail
  refine (name_ex _ _ ?_).mono ?_
  case refine_1 => rw [ByteArray.size_append, ByteArray.size_extract, size_a]; unfold maxLen; omega
  rintro e w' ⟨bR, rfl, HR, rfl⟩
  go_wp2_with fail
  all_goals
    refine (letters_any _ _ ?_).mono ?_
    case refine_1 => rw [ByteArray.size_extract]; omega
    rintro e w' ⟨rfl, C1, rfl⟩
    go_wp2_with fail
    refine (letters_any _ _ ?_).mono ?_
    case refine_1 => rw [ByteArray.size_extract]; omega
    rintro e w' ⟨rfl, C2, rfl⟩
    go_wp2_with fail
    refine (name_ex _ _ ?_).mono ?_
    case refine_1 => rw [ByteArray.size_append, ByteArray.size_append, lettersOf_size, lettersOf_size, ByteArray.size_extract, ByteArray.size_extract, size_h]; unfold maxLen; omega
    rintro e w' ⟨bJ, rfl, HJ, rfl⟩
    go_wp2_with fail
    refine (name_ex _ _ ?_).mono ?_
    case refine_1 => rw [ByteArray.size_append, ByteArray.size_append, lettersOf_size, lettersOf_size, ByteArray.size_extract, ByteArray.size_extract, size_hh]; unfold maxLen; omega
    rintro e w' ⟨bD, rfl, HD, rfl⟩
    obtain rfl : bJ = true := HJ.out.trans (nameB_true (joined_name _ _ (by rw [ByteArray.size_extract]; omega) (by rw [ByteArray.size_extract]; omega)))
    obtain rfl : bD = false := HD.out.trans (nameB_false (doubled_no _ _ (by rw [ByteArray.size_extract]; omega)))
    clear HJ HD
  · have hp : (s[i - 1].toNat : Int) = 45 := by assumption
    have key := cut_bool s i h1 h2 (decide ((s[i].toNat : Int) = 45)) (by rw [bt_of_lt (by omega), bt_of_lt h2]; simp [hp])
    rw [← HW.out, ← HL.out, ← HR.out] at key
    clear HW HL HR
    by_cases q : (s[i].toNat : Int) = 45
    · obtain rfl : bW = false := by rw [key]; simp [q]
      clear key
      cases bL <;> cases bR <;>
        (go_wp2; go_ret; exact ⟨rfl, ((Grown.refl _).alloc _ _).alloc _ _⟩)
    · obtain rfl : bW = (bL && bR) := by rw [key]; simp [q]
      clear key
      have q' : ((s[i].toNat : Int) == 45) = false := by simpa using q
      cases bL <;> cases bR <;>
        (go_wp2; go_ret; exact ⟨rfl, ((Grown.refl _).alloc _ _).alloc _ _⟩)
  · have hp : ¬ (s[i - 1].toNat : Int) = 45 := by first | assumption | (have := by assumption; simpa using this)
    have key := cut_bool s i h1 h2 false (by rw [bt_of_lt (by omega), bt_of_lt h2]; simp [hp])
    rw [← HW.out, ← HL.out, ← HR.out] at key
    clear HW HL HR
    obtain rfl : bW = (bL && bR) := by rw [key]; simp
    clear key
    cases bL <;> cases bR <;>
      (go_wp2; go_ret; exact ⟨rfl, ((Grown.refl _).alloc _ _).alloc _ _⟩)

end Go.Proofs.Qxb6630138a.CutWalk
