/-
  THE WALKS that both statements of seat b6630217a share: IsObjectID, zeroDigitsB1.
-/
import Derived.Test.Qxb6630217aRows
import Derived.Test.Qxb6630217aPlain
import Derived.WalkKit
import Derived.ProofKit
import Derived.Deep.OwnRows
import Derived.Laws.IdiomStrings
namespace Go.Proofs.Qxb6630217a.Ids
open Go.RowKit Go.Proofs.Qxb6630217a.Plain

/-- The answer of IsObjectID. -/
def Answers (s : ByteArray) (e : Ending) : Prop := (e = .returned (.bool true) ∧ idP s) ∨ (e = .returned (.bool false) ∧ ¬ idP s)

theorem id_short (s : ByteArray) (w : World) (h1 : ¬ s.size = 40) (h2 : ¬ s.size = 64) :
    Calls Try.prog 7 #[.string s] w fun e w' => e = .returned (.bool false) ∧ w' = w := by
  have h1' : (((s.size : Nat) : Int) != 40) = true := by simp; omega
  have h2' : (((s.size : Nat) : Int) != 64) = true := by simp; omega
  clear h1 h2
  go_enter Try.func7, Try.ntmps7
  go_wp2
  go_ret
  exact ⟨rfl, rfl⟩

set_option maxHeartbeats 800000 in
theorem id_any (s : ByteArray) (w : World) :
    Calls Try.prog 7 #[.string s] w fun e w' => Answers s e ∧ w' = w := by
  by_cases hlen : s.size = 40 ∨ s.size = 64
  case neg => exact (id_short s w (by omega) (by omega)).mono fun e w' ⟨he, hw⟩ => ⟨.inr ⟨he, fun h => hlen h.1⟩, hw⟩
  have HL : Hid (s.size = 40 ∨ s.size = 64) := hlen
  have g : (((s.size : Nat) : Int) != 40) = true ∧ (((s.size : Nat) : Int) != 64) = false ∨ (((s.size : Nat) : Int) != 40) = false := by
    rcases hlen with h | h <;> rw [h] <;> simp
  have hs' : s.size ≤ 64 := by omega
  clear hlen
  rcases g with ⟨g1, g2⟩ | g1
  all_goals
    go_enter Try.func7, Try.ntmps7
    go_wp2
    go_loop [3] (fun i => ∃ k : Nat, k ≤ s.size ∧ i = .int .i64 k ∧ Hid (∀ j, j < k → hexP (bt s j))) (fun i => s.size - (intOf i).toNat)
    case atStart => exact ⟨0, Nat.zero_le _, rfl, fun j h => by omega⟩
    case round =>
      obtain ⟨k, hk, rfl, hall⟩ := hrel
      by_cases hlt : k < s.size
      · by_cases c1 : (48 : Int) ≤ (s[k].toNat : Int)
        · by_cases c2 : (s[k].toNat : Int) ≤ 57
          · have G : Hid (hexP (bt s k)) := by rw [bt_of_lt hlt]; exact .inl ⟨c1, c2⟩
            go_wp2
            go_round
            case rel => exact ⟨k + 1, by omega, by go_num, upto_succ hall.out G.out⟩
            case measure => simp [intOf]; omega
          · by_cases c3 : (97 : Int) ≤ (s[k].toNat : Int)
            · by_cases c4 : (s[k].toNat : Int) ≤ 102
              · have G : Hid (hexP (bt s k)) := by rw [bt_of_lt hlt]; exact .inr ⟨c3, c4⟩
                go_wp2
                go_round
                case rel => exact ⟨k + 1, by omega, by go_num, upto_succ hall.out G.out⟩
                case measure => simp [intOf]; omega
              · have F : Hid (¬ idP s) := fun h => by
                  have := h.2 k hlt
                  rw [bt_of_lt hlt] at this
                  unfold hexP at this
                  omega
                go_wp2
                go_ret
                exact ⟨.inr ⟨rfl, F.out⟩, rfl⟩
            · have F : Hid (¬ idP s) := fun h => by
                have := h.2 k hlt
                rw [bt_of_lt hlt] at this
                unfold hexP at this
                omega
              go_wp2
              go_ret
              exact ⟨.inr ⟨rfl, F.out⟩, rfl⟩
        · have F : Hid (¬ idP s) := fun h => by
            have := h.2 k hlt
            rw [bt_of_lt hlt] at this
            unfold hexP at this
            omega
          have c3 : ¬ (97 : Int) ≤ (s[k].toNat : Int) := by omega
          go_wp2
          go_ret
          exact ⟨.inr ⟨rfl, F.out⟩, rfl⟩
      · go_wp2
        go_ret
        exact ⟨.inl ⟨rfl, HL.out, fun j h => hall.out j (by omega)⟩, rfl⟩

/-- IsObjectID, its answer behind a name of its own. -/
theorem id_ex (s : ByteArray) (w : World) :
    Calls Try.prog 7 #[.string s] w fun e w' => ∃ b : Bool, e = .returned (.bool b) ∧ Hid (b = idB s) ∧ w' = w :=
  (id_any s w).mono fun _ _ ⟨a, b⟩ => ⟨idB s, a.elim (fun x => by rw [idB_true x.2]; exact x.1) (fun x => by rw [idB_false x.2]; exact x.1), rfl, b⟩

theorem Try.info5 : (Try.prog.info? 5).map (fun i => (i.zero, i.size, i.bytes)) = some (some (.int .u8 0), 1, 1) := by kernel_rfl

set_option maxHeartbeats 400000 in
theorem zero_any (n : Nat) (w : World) (hn : n ≤ 1048576) :
    Calls Try.prog 6 #[.int .i64 n] w fun e w' => e = .returned (.slice (some ⟨w.heap.size, 0, none⟩) n n) ∧ w' = w.alloc (.cells (Array.replicate n (.int .u8 48)) 5) := by
  have hmk := run_make_row' (P := Try.prog) 23 5 (.int .u8 0) 1 Try.underlying23 Try.info5 rfl .i64 .i64 n (by omega) (by omega)
  go_enter Try.func6, Try.ntmps6
  go_wp2
  clear hmk
  go_loopw [4] (fun i wr => ∃ (k : Nat) (C : Array Value), k ≤ n ∧ i = .int .i64 k ∧ wr = w.alloc (.cells C 5) ∧ C.size = n ∧ Hid (∀ j, j < k → C[j]? = some (.int .u8 48))) (fun i _ => n - (intOf i).toNat)
  case atStart => exact ⟨0, _, Nat.zero_le _, rfl, rfl, by simp [madeCells], fun j h => absurd h (by omega)⟩
  case round =>
    obtain ⟨k, C, hk, rfl, rfl, hsz, hall⟩ := hrel
    by_cases hlt : k < n
    · obtain ⟨v0, hv0⟩ : ∃ v0, C[k]? = some v0 := ⟨_, Array.getElem?_eq_getElem (by omega)⟩
      go_wp2
      go_roundw
      case rel =>
        refine ⟨k + 1, _, by omega, by go_num, rfl, by simpa using hsz, ?_⟩
        intro j h2
        rw [Array.getElem?_setIfInBounds]
        by_cases e : k = j
        · subst e
          rw [if_pos rfl, if_pos (by omega)]
        · rw [if_neg e]; exact hall.out j (by omega)
      case measure => simp [intOf]; omega
    · have hC : C = Array.replicate n (.int .u8 48) := by
        apply Array.ext_getElem?
        intro j
        by_cases hj : j < n
        · rw [hall.out j (by omega), Array.getElem?_replicate, if_pos hj]
        · rw [Array.getElem?_replicate, if_neg hj, Array.getElem?_eq_none (by omega)]
      subst hC
      go_wp2
      go_ret
      exact ⟨rfl, rfl⟩

end Go.Proofs.Qxb6630217a.Ids
