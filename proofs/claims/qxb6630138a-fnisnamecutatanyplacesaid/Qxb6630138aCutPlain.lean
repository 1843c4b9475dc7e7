/-
  THE PLAIN LAW of FnIsNameCutAtAnyPlace (seat b6630138a): what a cut does to a name. No Go in sight.
-/
import Derived.Test.Qxb6630138aPlain
import Derived.Test.Qxb6630138aLetters
namespace Go.Proofs.Qxb6630138a.CutPlain
open Go.Proofs.Qxb6630138a.Plain Go.Proofs.Qxb6630138a.Letters

theorem bt_left (a b : ByteArray) {k : Nat} (h : k < a.size) : bt (a ++ b) k = bt a k := by
  rw [bt_of_lt h, bt_of_lt (by rw [ByteArray.size_append]; omega), ByteArray.getElem_append_left h]
theorem bt_right (a b : ByteArray) (k : Nat) : bt (a ++ b) (a.size + k) = bt b k := by
  unfold bt
  by_cases h : k < b.size
  · have h2 : a.size + k < (a ++ b).size := by rw [ByteArray.size_append]; omega
    rw [dif_pos h, dif_pos h2, ByteArray.getElem_append_right (by omega)]
    simp
  · have h2 : ¬ a.size + k < (a ++ b).size := by rw [ByteArray.size_append]; omega
    rw [dif_neg h, dif_neg h2]
theorem bt_extract (s : ByteArray) (lo hi : Nat) {k : Nat} (hh : hi ≤ s.size) (h : lo + k < hi) : bt (s.extract lo hi) k = bt s (lo + k) := by
  have h1 : k < (s.extract lo hi).size := by rw [ByteArray.size_extract]; omega
  rw [bt_of_lt h1, bt_of_lt (by omega : lo + k < s.size), ByteArray.getElem_extract]

theorem bt_a : bt ⟨#[97]⟩ 0 = 97 := rfl
theorem bt_h : bt ⟨#[45]⟩ 0 = 45 := rfl
theorem bt_hh0 : bt ⟨#[45, 45]⟩ 0 = 45 := rfl
theorem bt_hh1 : bt ⟨#[45, 45]⟩ 1 = 45 := rfl
theorem size_a : (⟨#[97]⟩ : ByteArray).size = 1 := rfl
theorem size_h : (⟨#[45]⟩ : ByteArray).size = 1 := rfl
theorem size_hh : (⟨#[45, 45]⟩ : ByteArray).size = 2 := rfl

theorem letter_ne {c : Int} (h : letterP c) : c ≠ 45 := by unfold letterP at h; omega
theorem digit_ne {c : Int} (h : digitP c) : c ≠ 45 := by unfold digitP at h; omega

/-- The left part with a letter behind it. -/
theorem left_iff (s : ByteArray) (i : Nat) (h1 : 1 ≤ i) (h2 : i < s.size) :
    nameP (s.extract 0 i ++ ⟨#[97]⟩) ↔ letterP (bt s 0) ∧ (∀ k, 1 ≤ k → k + 1 < i → goodP s k) ∧ (1 ≤ i - 1 → bt s (i - 1) = 45 ∨ letterP (bt s (i - 1)) ∨ digitP (bt s (i - 1))) := by
  have hsz : (s.extract 0 i).size = i := by rw [ByteArray.size_extract]; omega
  have hszA : (s.extract 0 i ++ ⟨#[97]⟩).size = i + 1 := by rw [ByteArray.size_append, hsz, size_a]
  have hb : ∀ k, k < i → bt (s.extract 0 i ++ ⟨#[97]⟩) k = bt s k := fun k hk => by
    rw [bt_left _ _ (by omega), bt_extract s 0 i (by omega) (by omega), Nat.zero_add]
  have hl : bt (s.extract 0 i ++ ⟨#[97]⟩) i = 97 := by
    have := bt_right (s.extract 0 i) ⟨#[97]⟩ 0
    rw [hsz, Nat.add_zero, bt_a] at this
    exact this
  unfold nameP
  rw [hszA, hb 0 (by omega)]
  constructor
  · rintro ⟨-, a, b⟩
    refine ⟨a, fun k k1 k2 => ?_, fun e => ?_⟩
    · have := b k k1 (by omega)
      unfold goodP at this ⊢
      rw [hszA, hb k (by omega), hb (k + 1) (by omega)] at this
      rcases this with x | x
      · exact .inl ⟨x.1, by omega, x.2.2⟩
      · exact .inr x
    · have := b (i - 1) e (by omega)
      unfold goodP at this
      rw [hb (i - 1) (by omega)] at this
      rcases this with x | x
      · exact .inl x.1
      · exact .inr x
  · rintro ⟨a, b, c⟩
    refine ⟨by omega, a, fun k k1 k2 => ?_⟩
    unfold goodP
    by_cases e : k = i
    · subst e
      rw [hl]
      exact .inr (.inl (.inr (by omega)))
    · by_cases e2 : k + 1 = i
      · have := c (by omega)
        have ek : i - 1 = k := by omega
        rw [ek] at this
        rw [hb k (by omega), hszA, e2, hl]
        rcases this with x | x
        · exact .inl ⟨x, by omega, by omega⟩
        · exact .inr x
      · have := b k k1 (by omega)
        unfold goodP at this
        rw [hb k (by omega), hb (k + 1) (by omega), hszA]
        rcases this with x | x
        · exact .inl ⟨x.1, by omega, x.2.2⟩
        · exact .inr x

/-- A letter with the right part behind it. -/
theorem right_iff (s : ByteArray) (i : Nat) (h1 : 1 ≤ i) (h2 : i < s.size) :
    nameP (⟨#[97]⟩ ++ s.extract i s.size) ↔ ∀ k, i ≤ k → k < s.size → goodP s k := by
  have hsz : (s.extract i s.size).size = s.size - i := by rw [ByteArray.size_extract]; omega
  have hszA : (⟨#[97]⟩ ++ s.extract i s.size : ByteArray).size = 1 + (s.size - i) := by rw [ByteArray.size_append, hsz, size_a]
  have h0 : bt (⟨#[97]⟩ ++ s.extract i s.size) 0 = 97 := by rw [bt_left _ _ (by rw [size_a]; omega), bt_a]
  have hb : ∀ k, 1 ≤ k → i + k - 1 < s.size → bt (⟨#[97]⟩ ++ s.extract i s.size) k = bt s (i + k - 1) := fun k k1 hk => by
    have e : k = (⟨#[97]⟩ : ByteArray).size + (k - 1) := by rw [size_a]; omega
    rw [e, bt_right, bt_extract s i s.size (by omega) (by omega)]
    congr 1
    rw [size_a]; omega
  unfold nameP
  rw [hszA, h0]
  constructor
  · rintro ⟨-, -, b⟩ k k1 k2
    have := b (k + 1 - i) (by omega) (by omega)
    unfold goodP at this ⊢
    rw [hb (k + 1 - i) (by omega) (by omega), hszA] at this
    have e1 : i + (k + 1 - i) - 1 = k := by omega
    rw [e1] at this
    rcases this with ⟨x, y, z⟩ | x
    · refine .inl ⟨x, by omega, ?_⟩
      rw [hb (k + 1 - i + 1) (by omega) (by omega)] at z
      have e2 : i + (k + 1 - i + 1) - 1 = k + 1 := by omega
      rw [e2] at z
      exact z
    · exact .inr x
  · intro b
    refine ⟨by omega, .inr (by omega), fun k k1 k2 => ?_⟩
    have := b (i + k - 1) (by omega) (by omega)
    unfold goodP at this ⊢
    rw [hb k k1 (by omega), hszA]
    rcases this with ⟨x, y, z⟩ | x
    · refine .inl ⟨x, by omega, ?_⟩
      rw [hb (k + 1) (by omega) (by omega)]
      have e2 : i + (k + 1) - 1 = i + k - 1 + 1 := by omega
      rw [e2]
      exact z
    · exact .inr x

/-- THE CUT. -/
theorem cut_iff (s : ByteArray) (i : Nat) (h1 : 1 ≤ i) (h2 : i < s.size) :
    nameP s ↔ nameP (s.extract 0 i ++ ⟨#[97]⟩) ∧ nameP (⟨#[97]⟩ ++ s.extract i s.size) ∧ ¬ (bt s (i - 1) = 45 ∧ bt s i = 45) := by
  rw [left_iff s i h1 h2, right_iff s i h1 h2]
  constructor
  · rintro ⟨-, a, b⟩
    refine ⟨⟨a, fun k k1 k2 => b k k1 (by omega), fun e => ?_⟩, fun k k1 k2 => b k (by omega) k2, ?_⟩
    · rcases b (i - 1) e (by omega) with x | x
      · exact .inl x.1
      · exact .inr x
    · rintro ⟨x, y⟩
      by_cases e : i = 1
      · subst e
        exact letter_ne a x
      · rcases b (i - 1) (by omega) (by omega) with z | z | z
        · have e2 : i - 1 + 1 = i := by omega
          rw [e2] at z
          exact z.2.2 y
        · exact letter_ne z x
        · exact digit_ne z x
  · rintro ⟨⟨a, b, c⟩, d, e⟩
    refine ⟨by omega, a, fun k k1 k2 => ?_⟩
    by_cases hk : i ≤ k
    · exact d k hk k2
    · by_cases hk2 : k + 1 < i
      · exact b k k1 hk2
      · have ek : i - 1 = k := by omega
        rcases c (by omega) with x | x
        · have e2 : i - 1 + 1 = i := by omega
          rw [← ek]
          refine .inl ⟨x, by omega, fun y => e ⟨x, ?_⟩⟩
          rw [e2] at y
          exact y
        · rw [← ek]; exact .inr x

theorem letters_bt (t : ByteArray) {k : Nat} (h : k < t.size) : letterP (bt (lettersOf t) k) := by
  have h' : k < (lettersOf t).size := by rw [lettersOf_size]; exact h
  rw [bt_of_lt h']
  have e : (lettersOf t)[k] = 97 + t[k] % 26 := by
    rw [ByteArray.getElem_eq_getElem_data]
    simp only [lettersOf, List.getElem_toArray, List.getElem_map]
    rfl
  rw [e, byte_num]
  unfold letterP
  omega

/-- Letters, one hyphen, letters: a name. -/
theorem joined_name (a b : ByteArray) (ha : 0 < a.size) (hb : 0 < b.size) : nameP (lettersOf a ++ ⟨#[45]⟩ ++ lettersOf b) := by
  have sa := lettersOf_size a
  have sb := lettersOf_size b
  have s1 : (lettersOf a ++ ⟨#[45]⟩).size = a.size + 1 := by rw [ByteArray.size_append, sa, size_h]
  have s2 : (lettersOf a ++ ⟨#[45]⟩ ++ lettersOf b).size = a.size + 1 + b.size := by rw [ByteArray.size_append, s1, sb]
  have p1 : ∀ k, k < a.size → letterP (bt (lettersOf a ++ ⟨#[45]⟩ ++ lettersOf b) k) := fun k hk => by
    rw [bt_left _ _ (by omega), bt_left _ _ (by omega)]
    exact letters_bt a hk
  have p2 : bt (lettersOf a ++ ⟨#[45]⟩ ++ lettersOf b) a.size = 45 := by
    rw [bt_left _ _ (by omega)]
    have := bt_right (lettersOf a) ⟨#[45]⟩ 0
    rw [sa, Nat.add_zero, bt_h] at this
    exact this
  have p3 : ∀ k, a.size < k → k < a.size + 1 + b.size → letterP (bt (lettersOf a ++ ⟨#[45]⟩ ++ lettersOf b) k) := fun k hk hk2 => by
    have := bt_right (lettersOf a ++ ⟨#[45]⟩) (lettersOf b) (k - (a.size + 1))
    rw [s1] at this
    have e : a.size + 1 + (k - (a.size + 1)) = k := by omega
    rw [e] at this
    rw [this]
    exact letters_bt b (by omega)
  refine ⟨by omega, p1 0 ha, fun k k1 k2 => ?_⟩
  by_cases c1 : k < a.size
  · exact .inr (.inl (p1 k c1))
  · by_cases c2 : k = a.size
    · rw [c2]
      exact .inl ⟨p2, by omega, letter_ne (p3 (a.size + 1) (by omega) (by omega))⟩
    · exact .inr (.inl (p3 k (by omega) (by omega)))

/-- Two hyphens: no name. -/
theorem doubled_no (a b : ByteArray) (ha : 0 < a.size) : ¬ nameP (lettersOf a ++ ⟨#[45, 45]⟩ ++ lettersOf b) := by
  have sa := lettersOf_size a
  have s1 : (lettersOf a ++ ⟨#[45, 45]⟩).size = a.size + 2 := by rw [ByteArray.size_append, sa, size_hh]
  have s2 : (lettersOf a ++ ⟨#[45, 45]⟩ ++ lettersOf b).size = a.size + 2 + (lettersOf b).size := by rw [ByteArray.size_append, s1]
  have p1 : bt (lettersOf a ++ ⟨#[45, 45]⟩ ++ lettersOf b) a.size = 45 := by
    rw [bt_left _ _ (by omega)]
    have := bt_right (lettersOf a) ⟨#[45, 45]⟩ 0
    rw [sa, Nat.add_zero, bt_hh0] at this
    exact this
  have p2 : bt (lettersOf a ++ ⟨#[45, 45]⟩ ++ lettersOf b) (a.size + 1) = 45 := by
    rw [bt_left _ _ (by omega)]
    have := bt_right (lettersOf a) ⟨#[45, 45]⟩ 1
    rw [sa, bt_hh1] at this
    exact this
  rintro ⟨-, -, h⟩
  rcases h a.size (by omega) (by omega) with x | x | x
  · exact x.2.2 p2
  · exact letter_ne x p1
  · exact digit_ne x p1

/-- THE CUT, in Bools. -/
theorem cut_bool (s : ByteArray) (i : Nat) (h1 : 1 ≤ i) (h2 : i < s.size) (dh : Bool) (hd : dh = true ↔ (bt s (i - 1) = 45 ∧ bt s i = 45)) :
    nameB s = (nameB (s.extract 0 i ++ ⟨#[97]⟩) && nameB (⟨#[97]⟩ ++ s.extract i s.size) && !dh) := by
  rw [Bool.eq_iff_iff, nameB_iff, cut_iff s i h1 h2, Bool.and_eq_true, Bool.and_eq_true, nameB_iff, nameB_iff, ← hd]
  cases dh <;> simp

end Go.Proofs.Qxb6630138a.CutPlain
