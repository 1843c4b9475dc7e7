/-
  THE WALK of FnIsObjectIDOneByteAtAnyPlace (seat b6630217a) where the place lies inside the string.
-/
import Derived.Test.Qxb6630217aRows
import Derived.Test.Qxb6630217aOnePlain
import Derived.Test.Qxb6630217aOneParts
import Derived.Test.Qxb6630217aOneHex
import Derived.Test.Qxb6630217aIds
import Derived.WalkKit
import Derived.ProofKit
import Derived.WalkSpells
namespace Go.Proofs.Qxb6630217a.OneWalk
open Go.RowKit Go.Proofs.Qxb6630217a.Plain Go.Proofs.Qxb6630217a.OnePlain Go.Proofs.Qxb6630217a.OneParts Go.Proofs.Qxb6630217a.OneHex Go.Proofs.Qxb6630217a.Ids

theorem zero_spell (n : Nat) (w : World) (hn : n ≤ 1048576) :
    Calls Try.prog 6 #[.int .i64 n] w fun e w' => e = .returned (.slice (some ⟨w.heap.size, 0, none⟩) n n) ∧ w' = w.alloc (.cells (spell (zeros n)) 5) :=
  (zero_any n w hn).mono fun _ _ ⟨a, b⟩ => ⟨a, by rw [b, spell_zeros]⟩

/-- The three ways of the length's test. -/
theorem len_ways (n : Nat) : (((n : Int) == 40) = true ∧ lenB n = true) ∨ (((n : Int) == 40) = false ∧ ((n : Int) == 64) = true ∧ lenB n = true) ∨ (((n : Int) == 40) = false ∧ ((n : Int) == 64) = false ∧ lenB n = false) := by
  by_cases a : n = 40
  · subst a; exact .inl ⟨rfl, rfl⟩
  · have e1 : ((n : Int) == 40) = false := by simp; omega
    by_cases b : n = 64
    · subst b; exact .inr (.inl ⟨rfl, rfl, rfl⟩)
    · have e2 : ((n : Int) == 64) = false := by simp; omega
      exact .inr (.inr ⟨e1, e2, by unfold lenB; simp [a, b]⟩)

set_option maxHeartbeats 2000000 in
theorem inside (s : ByteArray) (i : Nat) (c : UInt8) (h0 : s.size ≤ 1048576) (h1 : i < s.size) (w : World) :
    Calls Try.prog 3 #[.string s, .int .i64 i, .int .u8 (c.toNat : Int)] w fun e w' => e = .returned (.bool true) ∧ Below w.heap.size w w' := by
  have hz : i < (zeros s.size).size := by rw [zeros_size]; exact h1
  have q1 := conv_new (zeros s.size) s.size (zeros_size _) w
  have q2 := conv_new (putAt (zeros s.size) i c) s.size (by rw [put_size, zeros_size]) w
  have q3 := conv_new (putAt (zeros s.size) i s[i]) s.size (by rw [put_size, zeros_size]) w
  have p1 := spell_put (zeros s.size) i c
  have p2 : (spell (putAt (zeros s.size) i c)).setIfInBounds i (.int .u8 (s[i].toNat : Int)) = spell (putAt (zeros s.size) i s[i]) := by rw [spell_put, put_put]
  obtain ⟨v1, k1⟩ : ∃ v, (spell (zeros s.size))[i]? = some v := ⟨_, spell_get _ i hz⟩
  obtain ⟨v2, k2⟩ : ∃ v, (spell (putAt (zeros s.size) i c))[i]? = some v := ⟨_, spell_get _ i (by rw [put_size]; exact hz)⟩
  clear hz
  obtain ⟨cap, W2, r1, ⟨v3, g3⟩, f3, r2, r3, hbel⟩ := bytes_two (w.alloc (.cells (spell (putAt (zeros s.size) i s[i])) 5)) (w.heap.size + 1) (by simp) s i c h1
  have HB : Hid (Below w.heap.size w ((W2.setCell { block := w.heap.size + 1, off := i } (Value.int IntKind.u8 48)).setCell { block := w.heap.size + 1, off := i } (Value.int IntKind.u8 ↑c.toNat))) :=
    ((((Below.refl _ _).alloc (Nat.le_refl _) _).trans (hbel.mono (by simp))).setCell (by simp) _).setCell (by simp) _
  clear hbel
  rcases len_ways s.size with ⟨g1, hl⟩ | ⟨g1, g2, hl⟩ | ⟨g1, g2, hl⟩
  · have HL : Hid (lenB s.size = true) := hl
    clear hl
    go_enter Try.func3, Try.ntmps3
    go_wp2_with (first | (go_at_call 5; go_in) | fail)
    refine (zero_spell _ _ ?_).mono ?_
    case refine_1 => omega
    rintro e w' ⟨rfl, rfl⟩
    go_wp2_with fail
    clear q1 q2 q3 p1 p2 g3 f3 r1 r2 r3 k1 k2
    obtain ⟨Wf, hWf⟩ : ∃ x, x = (W2.setCell { block := w.heap.size + 1, off := i } (Value.int IntKind.u8 48)).setCell { block := w.heap.size + 1, off := i } (Value.int IntKind.u8 ↑c.toNat) := ⟨_, rfl⟩
    rw [← hWf] at HB
    rw [← hWf]
    clear hWf
    obtain ⟨b1, H1⟩ : ∃ b, Hid (idB (putAt (zeros s.size) i s[i]) = b) := ⟨idB (putAt (zeros s.size) i s[i]), Eq.refl _⟩
    obtain ⟨b2, H2⟩ : ∃ b, Hid (hexB (c.toNat : Int) = b) := ⟨hexB (c.toNat : Int), Eq.refl _⟩
    have HZ : Hid (idB (zeros s.size) = true) := (zeros_id _).trans HL.out
    have HC : Hid (idB (putAt (zeros s.size) i c) = b2) := by unfold Hid; rw [zc_bool s.size i c h1, HL.out, H2.out]; rfl
    cases e0 : idB (putAt s i 48) with
    | true =>
      have H0 : Hid (idB (putAt s i 48) = true) := e0
      have HS : Hid (idB s = b1) := by unfold Hid; rw [s_bool s i h1, e0, H1.out]; rfl
      have HT : Hid (idB (putAt s i c) = b2) := by unfold Hid; rw [t_bool s i c h1, e0, HC.out]; rfl
      clear e0
      refine (id_val _ _ _ HS.out).mono ?_
      rintro e w' ⟨rfl, rfl⟩
      go_wp2_with fail
      refine (id_val _ _ _ HZ.out).mono ?_
      rintro e w' ⟨rfl, rfl⟩
      go_wp2_with fail
      refine (id_val _ _ _ HC.out).mono ?_
      rintro e w' ⟨rfl, rfl⟩
      go_wp2_with fail
      refine (hex_val _ _ _ H2.out).mono ?_
      rintro e w' ⟨rfl, rfl⟩
      go_wp2_with fail
      refine (id_val _ _ _ HT.out).mono ?_
      rintro e w' ⟨rfl, rfl⟩
      go_wp2_with fail
      refine (id_val _ _ _ H0.out).mono ?_
      rintro e w' ⟨rfl, rfl⟩
      go_wp2_with fail
      refine (id_val _ _ _ HC.out).mono ?_
      rintro e w' ⟨rfl, rfl⟩
      go_wp2_with fail
      refine (id_val _ _ _ H0.out).mono ?_
      rintro e w' ⟨rfl, rfl⟩
      go_wp2_with fail
      refine (id_val _ _ _ H1.out).mono ?_
      rintro e w' ⟨rfl, rfl⟩
      go_wp2
      go_ret
      exact ⟨by simp, HB.out⟩
    | false =>
      have H0 : Hid (idB (putAt s i 48) = false) := e0
      have HS : Hid (idB s = false) := by unfold Hid; rw [s_bool s i h1, e0]; rfl
      have HT : Hid (idB (putAt s i c) = false) := by unfold Hid; rw [t_bool s i c h1, e0]; rfl
      clear e0
      refine (id_val _ _ _ HS.out).mono ?_
      rintro e w' ⟨rfl, rfl⟩
      go_wp2_with fail
      refine (id_val _ _ _ HZ.out).mono ?_
      rintro e w' ⟨rfl, rfl⟩
      go_wp2_with fail
      refine (id_val _ _ _ HC.out).mono ?_
      rintro e w' ⟨rfl, rfl⟩
      go_wp2_with fail
      refine (hex_val _ _ _ H2.out).mono ?_
      rintro e w' ⟨rfl, rfl⟩
      go_wp2_with fail
      refine (id_val _ _ _ HT.out).mono ?_
      rintro e w' ⟨rfl, rfl⟩
      go_wp2_with fail
      refine (id_val _ _ _ H0.out).mono ?_
      rintro e w' ⟨rfl, rfl⟩
      go_wp2_with fail
      refine (id_val _ _ _ H0.out).mono ?_
      rintro e w' ⟨rfl, rfl⟩
      go_wp2
      go_ret
      exact ⟨by simp, HB.out⟩
  · have HL : Hid (lenB s.size = true) := hl
    clear hl
    go_enter Try.func3, Try.ntmps3
    go_wp2_with (first | (go_at_call 5; go_in) | fail)
    refine (zero_spell _ _ ?_).mono ?_
    case refine_1 => omega
    rintro e w' ⟨rfl, rfl⟩
    go_wp2_with fail
    clear q1 q2 q3 p1 p2 g3 f3 r1 r2 r3 k1 k2
    obtain ⟨Wf, hWf⟩ : ∃ x, x = (W2.setCell { block := w.heap.size + 1, off := i } (Value.int IntKind.u8 48)).setCell { block := w.heap.size + 1, off := i } (Value.int IntKind.u8 ↑c.toNat) := ⟨_, rfl⟩
    rw [← hWf] at HB
    rw [← hWf]
    clear hWf
    obtain ⟨b1, H1⟩ : ∃ b, Hid (idB (putAt (zeros s.size) i s[i]) = b) := ⟨idB (putAt (zeros s.size) i s[i]), Eq.refl _⟩
    obtain ⟨b2, H2⟩ : ∃ b, Hid (hexB (c.toNat : Int) = b) := ⟨hexB (c.toNat : Int), Eq.refl _⟩
    have HZ : Hid (idB (zeros s.size) = true) := (zeros_id _).trans HL.out
    have HC : Hid (idB (putAt (zeros s.size) i c) = b2) := by unfold Hid; rw [zc_bool s.size i c h1, HL.out, H2.out]; rfl
    cases e0 : idB (putAt s i 48) with
    | true =>
      have H0 : Hid (idB (putAt s i 48) = true) := e0
      have HS : Hid (idB s = b1) := by unfold Hid; rw [s_bool s i h1, e0, H1.out]; rfl
      have HT : Hid (idB (putAt s i c) = b2) := by unfold Hid; rw [t_bool s i c h1, e0, HC.out]; rfl
      clear e0
      refine (id_val _ _ _ HS.out).mono ?_
      rintro e w' ⟨rfl, rfl⟩
      go_wp2_with fail
      refine (id_val _ _ _ HZ.out).mono ?_
      rintro e w' ⟨rfl, rfl⟩
      go_wp2_with fail
      refine (id_val _ _ _ HC.out).mono ?_
      rintro e w' ⟨rfl, rfl⟩
      go_wp2_with fail
      refine (hex_val _ _ _ H2.out).mono ?_
      rintro e w' ⟨rfl, rfl⟩
      go_wp2_with fail
      refine (id_val _ _ _ HT.out).mono ?_
      rintro e w' ⟨rfl, rfl⟩
      go_wp2_with fail
      refine (id_val _ _ _ H0.out).mono ?_
      rintro e w' ⟨rfl, rfl⟩
      go_wp2_with fail
      refine (id_val _ _ _ HC.out).mono ?_
      rintro e w' ⟨rfl, rfl⟩
      go_wp2_with fail
      refine (id_val _ _ _ H0.out).mono ?_
      rintro e w' ⟨rfl, rfl⟩
      go_wp2_with fail
      refine (id_val _ _ _ H1.out).mono ?_
      rintro e w' ⟨rfl, rfl⟩
      go_wp2
      go_ret
      exact ⟨by simp, HB.out⟩
    | false =>
      have H0 : Hid (idB (putAt s i 48) = false) := e0
      have HS : Hid (idB s = false) := by unfold Hid; rw [s_bool s i h1, e0]; rfl
      have HT : Hid (idB (putAt s i c) = false) := by unfold Hid; rw [t_bool s i c h1, e0]; rfl
      clear e0
      refine (id_val _ _ _ HS.out).mono ?_
      rintro e w' ⟨rfl, rfl⟩
      go_wp2_with fail
      refine (id_val _ _ _ HZ.out).mono ?_
      rintro e w' ⟨rfl, rfl⟩
      go_wp2_with fail
      refine (id_val _ _ _ HC.out).mono ?_
      rintro e w' ⟨rfl, rfl⟩
      go_wp2_with fail
      refine (hex_val _ _ _ H2.out).mono ?_
      rintro e w' ⟨rfl, rfl⟩
      go_wp2_with fail
      refine (id_val _ _ _ HT.out).mono ?_
      rintro e w' ⟨rfl, rfl⟩
      go_wp2_with fail
      refine (id_val _ _ _ H0.out).mono ?_
      rintro e w' ⟨rfl, rfl⟩
      go_wp2_with fail
      refine (id_val _ _ _ H0.out).mono ?_
      rintro e w' ⟨rfl, rfl⟩
      go_wp2
      go_ret
      exact ⟨by simp, HB.out⟩
  · have HL : Hid (lenB s.size = false) := hl
    clear hl
    go_enter Try.func3, Try.ntmps3
    go_wp2_with (first | (go_at_call 5; go_in) | fail)
    refine (zero_spell _ _ ?_).mono ?_
    case refine_1 => omega
    rintro e w' ⟨rfl, rfl⟩
    go_wp2_with fail
    clear q1 q2 q3 p1 p2 g3 f3 r1 r2 r3 k1 k2
    obtain ⟨Wf, hWf⟩ : ∃ x, x = (W2.setCell { block := w.heap.size + 1, off := i } (Value.int IntKind.u8 48)).setCell { block := w.heap.size + 1, off := i } (Value.int IntKind.u8 ↑c.toNat) := ⟨_, rfl⟩
    rw [← hWf] at HB
    rw [← hWf]
    clear hWf
    have HZ : Hid (idB (zeros s.size) = false) := (zeros_id _).trans HL.out
    have HC : Hid (idB (putAt (zeros s.size) i c) = false) := by unfold Hid; rw [zc_bool s.size i c h1, HL.out]; rfl
    have H0 : Hid (idB (putAt s i 48) = false) := id_len _ (by rw [put_size]; exact HL.out)
    have HS : Hid (idB s = false) := id_len _ HL.out
    have HT : Hid (idB (putAt s i c) = false) := id_len _ (by rw [put_size]; exact HL.out)
    refine (id_val _ _ _ HS.out).mono ?_
    rintro e w' ⟨rfl, rfl⟩
    go_wp2_with fail
    refine (id_val _ _ _ HZ.out).mono ?_
    rintro e w' ⟨rfl, rfl⟩
    go_wp2_with fail
    refine (id_val _ _ _ HC.out).mono ?_
    rintro e w' ⟨rfl, rfl⟩
    go_wp2_with fail
    refine (id_val _ _ _ HT.out).mono ?_
    rintro e w' ⟨rfl, rfl⟩
    go_wp2_with fail
    refine (id_val _ _ _ H0.out).mono ?_
    rintro e w' ⟨rfl, rfl⟩
    go_wp2_with fail
    refine (id_val _ _ _ H0.out).mono ?_
    rintro e w' ⟨rfl, rfl⟩
    go_wp2
    go_ret
    exact ⟨rfl, HB.out⟩

end Go.Proofs.Qxb6630217a.OneWalk
