/-
  THE WALK of zzb1PieceModel (seat b6630138a): three loops over a string; it answers as IsName does.
-/
import Derived.Test.Qxb6630138aRows
import Derived.Test.Qxb6630138aNames
import Derived.WalkKit
import Derived.ProofKit
namespace Go.Proofs.Qxb6630138a.Piece
open Go.RowKit Go.Proofs.Qxb6630138a.Plain Go.Proofs.Qxb6630138a.Names

/-! ### THE PLAIN LAW -/
theorem letter_ne {c : Int} (h : letterP c) : c ≠ 45 := by unfold letterP at h; omega
theorem digit_ne {c : Int} (h : digitP c) : c ≠ 45 := by unfold digitP at h; omega

/-- What holds where a piece begins. -/
def Inv (s : ByteArray) (st : Nat) : Prop := (∀ k, 1 ≤ k → k + 1 < st → goodP s k) ∧ (st = 0 ∨ (2 ≤ st ∧ bt s (st - 1) = 45))
/-- No hyphen from st up to en. -/
def NoHy (s : ByteArray) (st en : Nat) : Prop := ∀ k, st ≤ k → k < en → bt s k ≠ 45
/-- Letters and digits from st up to k. -/
def Aln (s : ByteArray) (st k : Nat) : Prop := ∀ j, st ≤ j → j < k → letterP (bt s j) ∨ digitP (bt s j)
/-- The piece ends here. -/
def Ends (s : ByteArray) (en : Nat) : Prop := en = s.size ∨ bt s en = 45

theorem inv_zero (s : ByteArray) : Inv s 0 := ⟨fun k _ h => by omega, .inl rfl⟩
theorem noHy_refl (s : ByteArray) (st : Nat) : NoHy s st st := fun k h1 h2 => by omega
theorem noHy_succ {s : ByteArray} {st en : Nat} (h : NoHy s st en) (hlt : en < s.size) (c : (s[en].toNat : Int) ≠ 45) : NoHy s st (en + 1) := fun k h1 h2 => by
  by_cases e : k = en
  · rw [e, bt_of_lt hlt]; exact c
  · exact h k h1 (by omega)
theorem aln_refl (s : ByteArray) (st : Nat) : Aln s st st := fun k h1 h2 => by omega
theorem aln_succ {s : ByteArray} {st k : Nat} (h : Aln s st k) (hlt : k < s.size) (c : letterP (s[k].toNat : Int) ∨ digitP (s[k].toNat : Int)) : Aln s st (k + 1) := fun j h1 h2 => by
  by_cases e : j = k
  · rw [e, bt_of_lt hlt]; exact c
  · exact h j h1 (by omega)

/-- An empty piece: no name. -/
theorem no_empty {s : ByteArray} {st : Nat} (h0 : 0 < s.size) (hl : letterP (bt s 0)) (hi : Inv s st) (he : Ends s st) (hle : st ≤ s.size) : ¬ nameP s := by
  rcases hi.2 with h | ⟨h2, h3⟩
  · subst h
    rcases he with h | h
    · omega
    · exact absurd h (letter_ne hl)
  · intro n
    have e : st - 1 + 1 = st := by omega
    rcases n.2.2 (st - 1) (by omega) (by omega) with x | x | x
    · rw [e] at x
      rcases he with h | h
      · omega
      · exact x.2.2 h
    · exact letter_ne x h3
    · exact digit_ne x h3

/-- A strange byte in a piece: no name. -/
theorem no_strange {s : ByteArray} {st en k : Nat} (hl : letterP (bt s 0)) (hn : NoHy s st en) (h1 : st ≤ k) (h2 : k < en) (hk : k < s.size)
    (a : ¬ letterP (s[k].toNat : Int)) (b : ¬ digitP (s[k].toNat : Int)) : ¬ nameP s := by
  have hb := bt_of_lt hk
  intro n
  by_cases e : k = 0
  · subst e
    rw [hb] at hl
    exact a hl
  · rcases n.2.2 k (by omega) hk with x | x | x
    · exact hn k h1 h2 x.1
    · rw [hb] at x; exact a x
    · rw [hb] at x; exact b x

/-- A whole piece behind st, and the next begins. -/
theorem inv_next {s : ByteArray} {st en : Nat} (hl : letterP (bt s 0)) (hi : Inv s st) (hn : NoHy s st en) (ha : Aln s st en) (h1 : st < en) (h2 : en < s.size) (h3 : bt s en = 45) : Inv s (en + 1) := by
  refine ⟨fun k k1 k2 => ?_, .inr ⟨?_, h3⟩⟩
  · by_cases c : st ≤ k
    · exact .inr (ha k c (by omega))
    · by_cases c2 : k + 1 < st
      · exact hi.1 k k1 c2
      · have e : st - 1 = k := by omega
        rcases hi.2 with h | ⟨_, h⟩
        · omega
        · rw [e] at h
          have e2 : k + 1 = st := by omega
          exact .inl ⟨h, by omega, by rw [e2]; exact hn st (Nat.le_refl _) h1⟩
  · by_cases e : en = 0
    · subst e; exact absurd h3 (letter_ne hl)
    · omega

/-- The last piece: a name. -/
theorem name_last {s : ByteArray} {st en : Nat} (h0 : 0 < s.size) (hl : letterP (bt s 0)) (hi : Inv s st) (hn : NoHy s st en) (ha : Aln s st en) (h1 : st < en) (h2 : en = s.size) : nameP s := by
  refine ⟨h0, hl, fun k k1 k2 => ?_⟩
  by_cases c : st ≤ k
  · exact .inr (ha k c (by omega))
  · by_cases c2 : k + 1 < st
    · exact hi.1 k k1 c2
    · have e : st - 1 = k := by omega
      rcases hi.2 with h | ⟨_, h⟩
      · omega
      · rw [e] at h
        have e2 : k + 1 = st := by omega
        exact .inl ⟨h, by omega, by rw [e2]; exact hn st (Nat.le_refl _) h1⟩

/-! ### THE SMALL CALLEES -/
theorem al_yes (c : Int) (w : World) (h : letterP c) :
    Calls Try.prog 11 #[.int .u8 c] w fun e w' => e = .returned (.bool true) ∧ w' = w := by
  unfold letterP at h
  by_cases h1 : 97 ≤ c
  · have h2 : c ≤ 122 := by omega
    clear h
    go_enter Try.func11, Try.ntmps11
    go_wp2
    go_ret
    exact ⟨rfl, rfl⟩
  · have h2 : 65 ≤ c := by omega
    have h3 : c ≤ 90 := by omega
    clear h
    go_enter Try.func11, Try.ntmps11
    go_wp2
    go_ret
    exact ⟨rfl, rfl⟩

theorem al_no (c : Int) (w : World) (h : ¬ letterP c) :
    Calls Try.prog 11 #[.int .u8 c] w fun e w' => e = .returned (.bool false) ∧ w' = w := by
  unfold letterP at h
  by_cases h1 : 97 ≤ c
  · have h2 : ¬ c ≤ 122 := by omega
    have h3 : 65 ≤ c := by omega
    have h4 : ¬ c ≤ 90 := by omega
    clear h
    go_enter Try.func11, Try.ntmps11
    go_wp2
    go_ret
    exact ⟨rfl, rfl⟩
  · by_cases h2 : 65 ≤ c
    · have h4 : ¬ c ≤ 90 := by omega
      clear h
      go_enter Try.func11, Try.ntmps11
      go_wp2
      go_ret
      exact ⟨rfl, rfl⟩
    · clear h
      go_enter Try.func11, Try.ntmps11
      go_wp2
      go_ret
      exact ⟨rfl, rfl⟩

theorem ad_yes (c : Int) (w : World) (h : digitP c) :
    Calls Try.prog 12 #[.int .u8 c] w fun e w' => e = .returned (.bool true) ∧ w' = w := by
  unfold digitP at h
  obtain ⟨h1, h2⟩ := h
  go_enter Try.func12, Try.ntmps12
  go_wp2
  go_ret
  exact ⟨rfl, rfl⟩

theorem ad_no (c : Int) (w : World) (h : ¬ digitP c) :
    Calls Try.prog 12 #[.int .u8 c] w fun e w' => e = .returned (.bool false) ∧ w' = w := by
  unfold digitP at h
  by_cases h1 : 48 ≤ c
  · have h2 : ¬ c ≤ 57 := by omega
    clear h
    go_enter Try.func12, Try.ntmps12
    go_wp2
    go_ret
    exact ⟨rfl, rfl⟩
  · clear h
    go_enter Try.func12, Try.ntmps12
    go_wp2
    go_ret
    exact ⟨rfl, rfl⟩

/-! ### THE WALK -/
theorem piece_empty (s : ByteArray) (w : World) (h : s.size = 0) :
    Calls Try.prog 7 #[.string s] w fun e w' => e = .returned (.bool false) ∧ w' = w := by
  go_enter Try.func7, Try.ntmps7
  go_wp2
  go_ret
  exact ⟨rfl, rfl⟩

theorem piece_head (s : ByteArray) (w : World) (h : 0 < s.size) (hs : s.size ≤ 65536) (hb : ¬ letterP (s[0].toNat : Int)) :
    Calls Try.prog 7 #[.string s] w fun e w' => e = .returned (.bool false) ∧ w' = w := by
  go_enter Try.func7, Try.ntmps7
  go_wp2_with (go_at_call 11; refine (al_no _ _ hb).mono ?_; rintro e w' ⟨rfl, rfl⟩)
  go_ret
  exact ⟨rfl, rfl⟩

set_option maxHeartbeats 1000000 in
theorem piece_any (s : ByteArray) (w : World) (hs : s.size ≤ 65536) :
    Calls Try.prog 7 #[.string s] w fun e w' => Answers s e ∧ w' = w := by
  by_cases h0 : 0 < s.size
  case neg => exact (piece_empty s w (by omega)).mono fun e w' ⟨he, hw⟩ => ⟨.inr ⟨he, fun h => absurd h.1 h0⟩, hw⟩
  by_cases hl : letterP (s[0].toNat : Int)
  case neg => exact (piece_head s w h0 hs hl).mono fun e w' ⟨he, hw⟩ => ⟨.inr ⟨he, fun h => absurd (bt_of_lt h0 ▸ h.2.1) hl⟩, hw⟩
  have HL : Hid (letterP (bt s 0)) := by rw [bt_of_lt h0]; exact hl
  go_enter Try.func7, Try.ntmps7
  go_wp2_with (go_at_call 11; refine (al_yes _ _ hl).mono ?_; rintro e w' ⟨rfl, rfl⟩)
  clear hl
  go_loop [3] (fun i => ∃ st : Nat, st ≤ s.size ∧ i = .int .i64 st ∧ Hid (Inv s st)) (fun i => s.size + 1 - (intOf i).toNat)
  case atStart => exact ⟨0, Nat.zero_le _, rfl, inv_zero s⟩
  case round =>
    obtain ⟨st, hst, rfl, HI⟩ := hrel
    go_wp2
    go_loop [4] (fun i => ∃ en : Nat, st ≤ en ∧ en ≤ s.size ∧ i = .int .i64 en ∧ Hid (NoHy s st en)) (fun i => s.size - (intOf i).toNat)
    case atStart => exact ⟨st, Nat.le_refl _, hst, rfl, noHy_refl s st⟩
    case round =>
      obtain ⟨en, he1, he2, rfl, HN⟩ := hrel
      by_cases hlt : en < s.size
      · by_cases c1 : (s[en].toNat : Int) = 45
        · have HE : Hid (bt s en = 45) := by rw [bt_of_lt hlt]; exact c1
          have c1a : (45 : Int) ≤ (s[en].toNat : Int) := by omega
          have c1b : (s[en].toNat : Int) ≤ 45 := by omega
          clear c1
          by_cases hq : en = st
          · subst hq
            go_wp2
            go_ret
            exact ⟨.inr ⟨rfl, no_empty h0 HL.out HI.out (.inr HE.out) hst⟩, rfl⟩
          · go_wp2_with fail
            go_loop [5] (fun i => ∃ k : Nat, st ≤ k ∧ k ≤ en ∧ i = .int .i64 k ∧ Hid (Aln s st k)) (fun i => en - (intOf i).toNat)
            case atStart => exact ⟨st, Nat.le_refl _, he1, rfl, aln_refl s st⟩
            case round =>
              obtain ⟨k, hk1, hk2, rfl, HA⟩ := hrel
              by_cases hke : k < en
              · have hks : k < s.size := by omega
                by_cases l1 : letterP (s[k].toNat : Int)
                · go_wp2_with (go_at_call 11; refine (al_yes _ _ l1).mono ?_; rintro e w' ⟨rfl, rfl⟩)
                  go_round
                  case rel => exact ⟨k + 1, by omega, by omega, by go_num, aln_succ HA.out hks (.inl l1)⟩
                  case measure => simp [intOf]; omega
                · by_cases d1 : digitP (s[k].toNat : Int)
                  · go_wp2_with (first | (go_at_call 11; refine (al_no _ _ l1).mono ?_; rintro e w' ⟨rfl, rfl⟩) | (go_at_call 12; refine (ad_yes _ _ d1).mono ?_; rintro e w' ⟨rfl, rfl⟩))
                    go_round
                    case rel => exact ⟨k + 1, by omega, by omega, by go_num, aln_succ HA.out hks (.inr d1)⟩
                    case measure => simp [intOf]; omega
                  · have F : Hid (¬ nameP s) := no_strange HL.out HN.out hk1 hke hks l1 d1
                    go_wp2_with (first | (go_at_call 11; refine (al_no _ _ l1).mono ?_; rintro e w' ⟨rfl, rfl⟩) | (go_at_call 12; refine (ad_no _ _ d1).mono ?_; rintro e w' ⟨rfl, rfl⟩))
                    go_ret
                    exact ⟨.inr ⟨rfl, F.out⟩, rfl⟩
              · obtain rfl : k = en := by omega
                go_wp2
                go_round
                case rel => exact ⟨k + 1, by omega, by go_num, inv_next HL.out HI.out HN.out HA.out (by omega) hlt HE.out⟩
                case measure => simp [intOf]; omega
        · go_wp2
          go_round
          case rel => exact ⟨en + 1, by omega, by omega, by go_num, noHy_succ HN.out hlt c1⟩
          case measure => simp [intOf]; omega
      · have hq0 : en = s.size := by omega
        by_cases hq : en = st
        · subst hq
          go_wp2
          go_ret
          exact ⟨.inr ⟨rfl, no_empty h0 HL.out HI.out (.inl hq0) hst⟩, rfl⟩
        · have HQ : Hid (en = s.size) := hq0
          clear hq0
          go_wp2_with fail
          go_loop [5] (fun i => ∃ k : Nat, st ≤ k ∧ k ≤ en ∧ i = .int .i64 k ∧ Hid (Aln s st k)) (fun i => en - (intOf i).toNat)
          case atStart => exact ⟨st, Nat.le_refl _, he1, rfl, aln_refl s st⟩
          case round =>
            obtain ⟨k, hk1, hk2, rfl, HA⟩ := hrel
            by_cases hke : k < en
            · have hks : k < s.size := by omega
              by_cases l1 : letterP (s[k].toNat : Int)
              · go_wp2_with (go_at_call 11; refine (al_yes _ _ l1).mono ?_; rintro e w' ⟨rfl, rfl⟩)
                go_round
                case rel => exact ⟨k + 1, by omega, by omega, by go_num, aln_succ HA.out hks (.inl l1)⟩
                case measure => simp [intOf]; omega
              · by_cases d1 : digitP (s[k].toNat : Int)
                · go_wp2_with (first | (go_at_call 11; refine (al_no _ _ l1).mono ?_; rintro e w' ⟨rfl, rfl⟩) | (go_at_call 12; refine (ad_yes _ _ d1).mono ?_; rintro e w' ⟨rfl, rfl⟩))
                  go_round
                  case rel => exact ⟨k + 1, by omega, by omega, by go_num, aln_succ HA.out hks (.inr d1)⟩
                  case measure => simp [intOf]; omega
                · have F : Hid (¬ nameP s) := no_strange HL.out HN.out hk1 hke hks l1 d1
                  go_wp2_with (first | (go_at_call 11; refine (al_no _ _ l1).mono ?_; rintro e w' ⟨rfl, rfl⟩) | (go_at_call 12; refine (ad_no _ _ d1).mono ?_; rintro e w' ⟨rfl, rfl⟩))
                  go_ret
                  exact ⟨.inr ⟨rfl, F.out⟩, rfl⟩
            · obtain rfl : k = en := by omega
              go_wp2
              go_ret
              exact ⟨.inl ⟨rfl, name_last h0 HL.out HI.out HN.out HA.out (by omega) HQ.out⟩, rfl⟩

/-- zzb1PieceModel, by one contract. -/
theorem piece_ex (s : ByteArray) (w : World) (hs : s.size ≤ 65536) :
    Calls Try.prog 7 #[.string s] w fun e w' => ∃ b : Bool, e = .returned (.bool b) ∧ Hid (b = nameB s) ∧ w' = w :=
  (piece_any s w hs).mono fun _ _ ⟨a, b⟩ => ⟨nameB s, a.elim (fun x => by rw [nameB_true x.2]; exact x.1) (fun x => by rw [nameB_false x.2]; exact x.1), rfl, b⟩

end Go.Proofs.Qxb6630138a.Piece
