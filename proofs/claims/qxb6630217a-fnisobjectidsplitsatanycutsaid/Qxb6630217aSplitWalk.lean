/-
  THE WALK of FnIsObjectIDSplitsAtAnyCut (seat b6630217a) where the cut lies inside the string.
-/
import Derived.Test.Qxb6630217aRows
import Derived.Test.Qxb6630217aPlain
import Derived.Test.Qxb6630217aIds
import Derived.WalkKit
import Derived.ProofKit
import Derived.WalkSpells
import Derived.BigQuiet
namespace Go.Proofs.Qxb6630217a.SplitWalk
open Go.RowKit Go.Proofs.Qxb6630217a.Plain Go.Proofs.Qxb6630217a.Ids

/-- The new row's cells spell the zeros. -/
theorem strOf (n : Nat) (w : World) :
    (convert 23 9 (.slice (some ⟨w.heap.size, 0, none⟩) n n)).run Try.prog (w.alloc (.cells (Array.replicate n (.int .u8 48)) 5)) = .ok (.string (zeros n)) (w.alloc (.cells (Array.replicate n (.int .u8 48)) 5)) := by
  have hl : (List.replicate n (48 : UInt8)).length = n := by simp
  have h := run_convert_bytes_back (P := Try.prog) (w.alloc (.cells (Array.replicate n (.int .u8 48)) 5)) 23 9 5 ⟨w.heap.size, 0, none⟩ n (List.replicate n 48) Try.underlying23 Try.underlying5 Try.underlying9 (by
    intro j hj
    have hj' : j < n := by omega
    have ea : (⟨w.heap.size, 0, none⟩ : Addr).add j = ⟨w.heap.size, j, none⟩ := by simp [Addr.add]; omega
    rw [ea, World.cell?_alloc_mark, Array.getElem?_replicate, if_pos hj', List.getElem_replicate]
    rfl)
  rw [hl] at h
  exact h

/-- The three ways of the length's test. -/
theorem len_ways (n : Nat) : (((n : Int) == 40) = true ∧ lenB n = true) ∨ (((n : Int) == 40) = false ∧ ((n : Int) == 64) = true ∧ lenB n = true) ∨ (((n : Int) == 40) = false ∧ ((n : Int) == 64) = false ∧ lenB n = false) := by
  by_cases a : n = 40
  · subst a; exact .inl ⟨rfl, rfl⟩
  · have e1 : ((n : Int) == 40) = false := by simp; omega
    by_cases b : n = 64
    · subst b; exact .inr (.inl ⟨rfl, rfl, rfl⟩)
    · have e2 : ((n : Int) == 64) = false := by simp; omega
      exact .inr (.inr ⟨e1, e2, by unfold lenB; simp [a, b]⟩)

theorem grown_drewN {W w' : World} (h : Grown W w') (n : Nat) : Grown W (w'.drewN n) := h

set_option maxHeartbeats 1000000 in
theorem inside (s : ByteArray) (k : Nat) (h0 : s.size ≤ 1048576) (h1 : k ≤ s.size) (w : World) :
    Calls Try.prog 4 #[.string s, .int .i64 k] w fun e w' => e = .returned (.bool true) ∧ Grown w w' := by
  have hcv := strOf s.size w
  have hz : (zeros s.size).size = s.size := zeros_size _
  rcases len_ways s.size with ⟨g1, hl⟩ | ⟨g1, g2, hl⟩ | ⟨g1, g2, hl⟩
  · have HL : Hid (lenB s.size = true) := hl
    clear hl
    go_enter Try.func4, Try.ntmps4
    go_wp2_with (first | (go_at_call 9; go_in) | fail)
    refine (zero_any _ _ ?_).mono ?_
    case refine_1 => omega
    rintro e w' ⟨rfl, rfl⟩
    go_wp2_with fail
    clear hcv
    refine (id_ex _ _).mono ?_
    rintro e w' ⟨bZ, rfl, HZ, rfl⟩
    obtain rfl : bZ = true := HZ.out.trans ((zeros_id _).trans HL.out)
    clear HZ
    go_wp2_with fail
    go_quiet (fail)
    go_wp2_with fail
    go_quiet (fail)
    go_wp2_with fail
    refine (id_ex _ _).mono ?_
    rintro e w' ⟨bS, rfl, HS, rfl⟩
    go_wp2_with fail
    refine (id_ex _ _).mono ?_
    rintro e w' ⟨bL, rfl, HB, rfl⟩
    cases bL with
    | false =>
      obtain rfl : bS = false := by rw [HS.out, split_bool s k s.size rfl h1, ← HB.out]; simp
      clear HS HB HL
      go_wp2
      go_ret
      exact ⟨rfl, grown_drewN ((Grown.refl _).alloc _ _) _⟩
    | true =>
      go_wp2_with fail
      refine (id_ex _ _).mono ?_
      rintro e w' ⟨bR, rfl, HR, rfl⟩
      obtain rfl : bS = bR := by rw [HS.out, split_bool s k s.size rfl h1, ← HB.out, ← HR.out, HL.out]; simp
      clear HS HB HL HR
      go_wp2
      go_ret
      exact ⟨rfl, grown_drewN ((Grown.refl _).alloc _ _) _⟩
  · have HL : Hid (lenB s.size = true) := hl
    clear hl
    go_enter Try.func4, Try.ntmps4
    go_wp2_with (first | (go_at_call 9; go_in) | fail)
    refine (zero_any _ _ ?_).mono ?_
    case refine_1 => omega
    rintro e w' ⟨rfl, rfl⟩
    go_wp2_with fail
    clear hcv
    refine (id_ex _ _).mono ?_
    rintro e w' ⟨bZ, rfl, HZ, rfl⟩
    obtain rfl : bZ = true := HZ.out.trans ((zeros_id _).trans HL.out)
    clear HZ
    go_wp2_with fail
    go_quiet (fail)
    go_wp2_with fail
    go_quiet (fail)
    go_wp2_with fail
    refine (id_ex _ _).mono ?_
    rintro e w' ⟨bS, rfl, HS, rfl⟩
    go_wp2_with fail
    refine (id_ex _ _).mono ?_
    rintro e w' ⟨bL, rfl, HB, rfl⟩
    cases bL with
    | false =>
      obtain rfl : bS = false := by rw [HS.out, split_bool s k s.size rfl h1, ← HB.out]; simp
      clear HS HB HL
      go_wp2
      go_ret
      exact ⟨rfl, grown_drewN ((Grown.refl _).alloc _ _) _⟩
    | true =>
      go_wp2_with fail
      refine (id_ex _ _).mono ?_
      rintro e w' ⟨bR, rfl, HR, rfl⟩
      obtain rfl : bS = bR := by rw [HS.out, split_bool s k s.size rfl h1, ← HB.out, ← HR.out, HL.out]; simp
      clear HS HB HL HR
      go_wp2
      go_ret
      exact ⟨rfl, grown_drewN ((Grown.refl _).alloc _ _) _⟩
  · have HL : Hid (lenB s.size = false) := hl
    clear hl
    go_enter Try.func4, Try.ntmps4
    go_wp2_with (first | (go_at_call 9; go_in) | fail)
    refine (zero_any _ _ ?_).mono ?_
    case refine_1 => omega
    rintro e w' ⟨rfl, rfl⟩
    go_wp2_with fail
    clear hcv
    refine (id_ex _ _).mono ?_
    rintro e w' ⟨bZ, rfl, HZ, rfl⟩
    obtain rfl : bZ = false := HZ.out.trans ((zeros_id _).trans HL.out)
    clear HZ
    go_wp2_with fail
    go_quiet (fail)
    go_wp2_with fail
    go_quiet (fail)
    go_wp2_with fail
    refine (id_ex _ _).mono ?_
    rintro e w' ⟨bS, rfl, HS, rfl⟩
    obtain rfl : bS = false := by rw [HS.out, split_bool s k s.size rfl h1, HL.out]; simp
    clear HS HL
    go_wp2
    go_ret
    exact ⟨rfl, grown_drewN ((Grown.refl _).alloc _ _) _⟩

end Go.Proofs.Qxb6630217a.SplitWalk
