/-
  THE WALKS of seat b6630138a that both statements share: the length bounds, isLetter, IsName.
-/
import Derived.Test.Qxb6630138aRows
import Derived.Test.Qxb6630138aPlain
import Derived.WalkKit
import Derived.ProofKit
namespace Go.Proofs.Qxb6630138a.Names
open Go.RowKit Go.Proofs.Qxb6630138a.Plain

/-- isLetter -/
theorem letter_yes (c : Int) (w : World) (h : letterP c) :
    Calls Try.prog 10 #[.int .u8 c] w fun e w' => e = .returned (.bool true) ∧ w' = w := by
  unfold letterP at h
  by_cases h1 : 65 ≤ c ∧ c ≤ 90
  · obtain ⟨ha, hb⟩ := h1
    clear h
    go_enter Try.func10, Try.ntmps10
    go_wp2
    go_ret
    exact ⟨rfl, rfl⟩
  · have ha : 97 ≤ c := by omega
    have hb : c ≤ 122 := by omega
    have hc : ¬ c ≤ 90 := by omega
    have hd : 65 ≤ c := by omega
    clear h h1
    go_enter Try.func10, Try.ntmps10
    go_wp2
    go_ret
    exact ⟨rfl, rfl⟩

theorem letter_no (c : Int) (w : World) (h : ¬ letterP c) :
    Calls Try.prog 10 #[.int .u8 c] w fun e w' => e = .returned (.bool false) ∧ w' = w := by
  unfold letterP at h
  by_cases h1 : c < 65
  · have ha : ¬ 65 ≤ c := by omega
    have hb : ¬ 97 ≤ c := by omega
    clear h
    go_enter Try.func10, Try.ntmps10
    go_wp2
    go_ret
    exact ⟨rfl, rfl⟩
  · by_cases h2 : c < 97
    · have ha : 65 ≤ c := by omega
      have hb : ¬ c ≤ 90 := by omega
      have hc : ¬ 97 ≤ c := by omega
      clear h
      go_enter Try.func10, Try.ntmps10
      go_wp2
      go_ret
      exact ⟨rfl, rfl⟩
    · have ha : 65 ≤ c := by omega
      have hb : ¬ c ≤ 90 := by omega
      have hc : 97 ≤ c := by omega
      have hd : ¬ c ≤ 122 := by omega
      clear h
      go_enter Try.func10, Try.ntmps10
      go_wp2
      go_ret
      exact ⟨rfl, rfl⟩

theorem not_empty {s : ByteArray} (h : 0 < s.size) : s.toList.isEmpty = false := by
  rw [ByteArray.toList_eq]
  cases hd : s.data.toList with
  | nil =>
    have : s.data.toList.length = s.size := by simp
    rw [hd] at this; simp at this; omega
  | cons a l => rfl

theorem name_empty (s : ByteArray) (w : World) (h : s.size = 0) :
    Calls Try.prog 6 #[.string s] w fun e w' => e = .returned (.bool false) ∧ w' = w := by
  obtain rfl : s = ByteArray.empty := by
    apply ByteArray.ext; apply Array.eq_empty_of_size_eq_zero; exact h
  clear h
  go_enter Try.func6, Try.ntmps6
  go_wp2
  go_ret
  exact ⟨rfl, rfl⟩

theorem name_head (s : ByteArray) (w : World) (h : 0 < s.size) (hb : ¬ letterP (s[0].toNat : Int)) :
    Calls Try.prog 6 #[.string s] w fun e w' => e = .returned (.bool false) ∧ w' = w := by
  have he : s.toList.isEmpty = false := not_empty h
  go_enter Try.func6, Try.ntmps6
  go_wp2_with (go_at_call 10; refine (letter_no _ _ hb).mono ?_; rintro e w' ⟨rfl, rfl⟩)
  go_ret
  exact ⟨rfl, rfl⟩

/-- The answer of IsName. -/
def Answers (s : ByteArray) (e : Ending) : Prop := (e = .returned (.bool true) ∧ nameP s) ∨ (e = .returned (.bool false) ∧ ¬ nameP s)

set_option maxHeartbeats 400000 in
theorem name_any (s : ByteArray) (w : World) (hs : s.size ≤ maxLen) :
    Calls Try.prog 6 #[.string s] w fun e w' => Answers s e ∧ w' = w := by
  unfold maxLen at hs
  by_cases h0 : 0 < s.size
  case neg => exact (name_empty s w (by omega)).mono fun e w' ⟨he, hw⟩ => ⟨.inr ⟨he, fun h => absurd h.1 h0⟩, hw⟩
  by_cases hl : letterP (s[0].toNat : Int)
  case neg => exact (name_head s w h0 hl).mono fun e w' ⟨he, hw⟩ => ⟨.inr ⟨he, fun h => absurd (bt_of_lt h0 ▸ h.2.1) hl⟩, hw⟩
  have he : s.toList.isEmpty = false := not_empty h0
  go_enter Try.func6, Try.ntmps6
  go_wp2_with (go_at_call 10; refine (letter_yes _ _ hl).mono ?_; rintro e w' ⟨rfl, rfl⟩)
  go_loop [3] (fun i => ∃ k : Nat, 1 ≤ k ∧ k ≤ s.size ∧ i = .int .i64 k ∧ Hid (∀ j, 1 ≤ j → j < k → goodP s j)) (fun i => s.size - (intOf i).toNat)
  case atStart => exact ⟨1, by omega, by omega, rfl, fun j _ _ => by omega⟩
  case round =>
    obtain ⟨k, hk1, hk2, rfl, hall⟩ := hrel
    have hL : Hid (letterP (s[0].toNat : Int)) := hl
    clear hl
    by_cases hlt : k < s.size
    · by_cases c1 : (s[k].toNat : Int) = 45
      · by_cases h1 : k + 1 < s.size
        · by_cases c2 : (s[k+1].toNat : Int) = 45
          · have F : Hid (¬ nameP s) := not_name_of_bad hk1 hlt (bad_double hlt h1 c1 c2)
            have l1 : ¬ letterP 45 := by unfold letterP; omega
            have c1a : (45 : Int) ≤ (s[k].toNat : Int) := by omega
            have c1b : (s[k].toNat : Int) ≤ 45 := by omega
            have c2a : (45 : Int) ≤ (s[k+1].toNat : Int) := by omega
            have c2b : (s[k+1].toNat : Int) ≤ 45 := by omega
            clear c1 c2
            go_wp2_with (go_at_call 10; refine (letter_no _ _ l1).mono ?_; rintro e w' ⟨rfl, rfl⟩)
            go_ret
            exact ⟨.inr ⟨rfl, F.out⟩, rfl⟩
          · have G : Hid (goodP s k) := good_hyphen hlt h1 c1 c2
            have c1a : (45 : Int) ≤ (s[k].toNat : Int) := by omega
            have c1b : (s[k].toNat : Int) ≤ 45 := by omega
            clear c1
            go_wp2_with fail
            go_round
            case rel => exact ⟨k + 1, by omega, by omega, by go_num, upto_succ hall.out G.out⟩
            case measure => simp [intOf]; omega
        · have F : Hid (¬ nameP s) := not_name_of_bad hk1 hlt (bad_last hlt h1 c1)
          have l1 : ¬ letterP 45 := by unfold letterP; omega
          have c1a : (45 : Int) ≤ (s[k].toNat : Int) := by omega
          have c1b : (s[k].toNat : Int) ≤ 45 := by omega
          clear c1
          go_wp2_with (go_at_call 10; refine (letter_no _ _ l1).mono ?_; rintro e w' ⟨rfl, rfl⟩)
          go_ret
          exact ⟨.inr ⟨rfl, F.out⟩, rfl⟩
      · by_cases l1 : letterP (s[k].toNat : Int)
        · have G : Hid (goodP s k) := good_letter hlt l1
          go_wp2_with (go_at_call 10; refine (letter_yes _ _ l1).mono ?_; rintro e w' ⟨rfl, rfl⟩)
          go_round
          case rel => exact ⟨k + 1, by omega, by omega, by go_num, upto_succ hall.out G.out⟩
          case measure => simp [intOf]; omega
        · by_cases d1 : (s[k].toNat : Int) < 48
          · have F : Hid (¬ nameP s) := not_name_of_bad hk1 hlt (bad_other hlt c1 l1 (by unfold digitP; omega))
            go_wp2_with (go_at_call 10; refine (letter_no _ _ l1).mono ?_; rintro e w' ⟨rfl, rfl⟩)
            go_ret
            exact ⟨.inr ⟨rfl, F.out⟩, rfl⟩
          · by_cases d2 : (57 : Int) < (s[k].toNat : Int)
            · have F : Hid (¬ nameP s) := not_name_of_bad hk1 hlt (bad_other hlt c1 l1 (by unfold digitP; omega))
              go_wp2_with (go_at_call 10; refine (letter_no _ _ l1).mono ?_; rintro e w' ⟨rfl, rfl⟩)
              go_ret
              exact ⟨.inr ⟨rfl, F.out⟩, rfl⟩
            · have G : Hid (goodP s k) := good_digit hlt ⟨by omega, by omega⟩
              go_wp2_with (go_at_call 10; refine (letter_no _ _ l1).mono ?_; rintro e w' ⟨rfl, rfl⟩)
              go_round
              case rel => exact ⟨k + 1, by omega, by omega, by go_num, upto_succ hall.out G.out⟩
              case measure => simp [intOf]; omega
    · go_wp2
      go_ret
      exact ⟨.inl ⟨rfl, h0, by rw [bt_of_lt h0]; exact hL.out, fun j h1 h2 => hall.out j h1 (by omega)⟩, rfl⟩

/-- IsName, by one contract. -/
theorem name_is (s : ByteArray) (w : World) (hs : s.size ≤ maxLen) :
    Calls Try.prog 6 #[.string s] w fun e w' => e = .returned (.bool (nameB s)) ∧ w' = w :=
  (name_any s w hs).mono fun _ _ ⟨a, b⟩ => ⟨a.elim (fun x => by rw [nameB_true x.2]; exact x.1) (fun x => by rw [nameB_false x.2]; exact x.1), b⟩

/-- .. its answer behind a name of its own. -/
theorem name_ex (s : ByteArray) (w : World) (hs : s.size ≤ maxLen) :
    Calls Try.prog 6 #[.string s] w fun e w' => ∃ b : Bool, e = .returned (.bool b) ∧ Hid (b = nameB s) ∧ w' = w :=
  (name_is s w hs).mono fun _ _ ⟨a, b⟩ => ⟨_, a, rfl, b⟩

end Go.Proofs.Qxb6630138a.Names
