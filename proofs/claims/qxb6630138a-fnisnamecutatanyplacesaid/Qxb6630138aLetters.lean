/-
  THE WALK of zzb1LettersOf (seat b6630138a): a new row, written in a loop, turned into a string.
-/
import Derived.Test.Qxb6630138aRows
import Derived.Test.Qxb6630138aPlain
import Derived.WalkKit
import Derived.ProofKit
import Derived.Deep.OwnRows
import Derived.Laws.IdiomStrings
namespace Go.Proofs.Qxb6630138a.Letters
open Go.RowKit Go.Proofs.Qxb6630138a.Plain

/-- Every byte turned into one of the letters a to z. -/
def lettersOf (t : ByteArray) : ByteArray := ⟨(t.data.toList.map fun b => 97 + b % 26).toArray⟩

theorem Try.info5 : (Try.prog.info? 5).map (fun i => (i.zero, i.size, i.bytes)) = some (some (.int .u8 0), 1, 1) := by kernel_rfl

theorem lettersOf_size (t : ByteArray) : (lettersOf t).size = t.size := by
  show ((t.data.toList.map fun b => 97 + b % 26).toArray).size = t.data.size
  simp

theorem byte_num (b : UInt8) : ((97 + b % 26 : UInt8).toNat : Int) = 97 + (b.toNat : Int) % 26 := by
  have h := b.toNat_lt
  have e : (97 + b % 26 : UInt8).toNat = 97 + b.toNat % 26 := by
    rw [UInt8.toNat_add, UInt8.toNat_mod]
    show (97 + b.toNat % 26) % 256 = _
    omega
  rw [e]; omega

/-- The row's cells spell the letters. -/
theorem strOf (t : ByteArray) (w : World) (C : Array Value) (hC : ∀ j (h : j < t.size), C[j]? = some (.int .u8 (97 + (t[j].toNat : Int) % 26))) :
    (convert 26 9 (.slice (some ⟨w.heap.size, 0, none⟩) t.size t.size)).run Try.prog (w.alloc (.cells C 5)) = .ok (.string (lettersOf t)) (w.alloc (.cells C 5)) := by
  have hl : (t.data.toList.map fun b => 97 + b % 26).length = t.size := by
    show _ = t.data.size
    simp
  have h := run_convert_bytes_back (P := Try.prog) (w.alloc (.cells C 5)) 26 9 5 ⟨w.heap.size, 0, none⟩ t.size (t.data.toList.map fun b => 97 + b % 26) Try.underlying26 Try.underlying5 Try.underlying9 (by
    intro j hj
    have hj' : j < t.size := by omega
    have ea : (⟨w.heap.size, 0, none⟩ : Addr).add j = ⟨w.heap.size, j, none⟩ := by simp [Addr.add]; omega
    rw [ea, World.cell?_alloc_mark, hC j hj']
    congr 2
    rw [List.getElem_map, byte_num]
    rfl)
  rw [hl] at h
  exact h

set_option maxHeartbeats 400000 in
theorem letters_any (t : ByteArray) (w : World) (ht : t.size ≤ 65536) :
    Calls Try.prog 9 #[.string t] w fun e w' => e = .returned (.string (lettersOf t)) ∧ ∃ C : Array Value, w' = w.alloc (.cells C 5) := by
  have hmk := run_make_row' (P := Try.prog) 26 5 (.int .u8 0) 1 Try.underlying26 Try.info5 rfl .i64 .i64 t.size (by omega) (by omega)
  go_enter Try.func9, Try.ntmps9
  go_wp2
  clear hmk
  go_loopw [4] (fun i wr => ∃ (k : Nat) (C : Array Value), k ≤ t.size ∧ i = .int .i64 k ∧ wr = w.alloc (.cells C 5) ∧ C.size = t.size ∧ Hid (∀ j (h : j < t.size), j < k → C[j]? = some (.int .u8 (97 + (t[j].toNat : Int) % 26)))) (fun i _ => t.size - (intOf i).toNat)
  case atStart => exact ⟨0, _, Nat.zero_le _, rfl, rfl, by simp [madeCells], fun j _ h => absurd h (by omega)⟩
  case round =>
    obtain ⟨k, C, hk, rfl, rfl, hsz, hall⟩ := hrel
    by_cases hlt : k < t.size
    · obtain ⟨v0, hv0⟩ : ∃ v0, C[k]? = some v0 := ⟨_, Array.getElem?_eq_getElem (by omega)⟩
      go_wp2
      go_roundw
      case rel =>
        refine ⟨k + 1, _, by omega, by go_num, rfl, by simpa using hsz, ?_⟩
        intro j h1 h2
        rw [Array.getElem?_setIfInBounds]
        by_cases e : k = j
        · subst e
          rw [if_pos rfl, if_pos (by omega)]
        · rw [if_neg e]; exact hall.out j h1 (by omega)
      case measure => simp [intOf]; omega
    · have hcv := strOf t w C (fun j h => hall.out j h (by omega))
      go_wp2
      go_ret
      exact ⟨rfl, C, rfl⟩

end Go.Proofs.Qxb6630138a.Letters
