/-
  THE PLAIN LAW of seat b6630138a: bytes, letters, names. No Go in sight.
-/
namespace Go.Proofs.Qxb6630138a.Plain

/-- The byte at place k, as a number; 0 outside. -/
def bt (s : ByteArray) (k : Nat) : Int := if h : k < s.size then (s[k].toNat : Int) else 0
def letterP (c : Int) : Prop := (65 ≤ c ∧ c ≤ 90) ∨ (97 ≤ c ∧ c ≤ 122)
def digitP (c : Int) : Prop := 48 ≤ c ∧ c ≤ 57
def goodP (s : ByteArray) (k : Nat) : Prop := (bt s k = 45 ∧ k + 1 < s.size ∧ bt s (k + 1) ≠ 45) ∨ letterP (bt s k) ∨ digitP (bt s k)
/-- What IsName asks. -/
def nameP (s : ByteArray) : Prop := 0 < s.size ∧ letterP (bt s 0) ∧ ∀ k, 1 ≤ k → k < s.size → goodP s k

theorem bt_of_lt {s : ByteArray} {k : Nat} (h : k < s.size) : bt s k = (s[k].toNat : Int) := by
  unfold bt; rw [dif_pos h]

theorem good_hyphen {s : ByteArray} {k : Nat} (h : k < s.size) (h1 : k + 1 < s.size) (a : (s[k].toNat : Int) = 45) (b : (s[k+1].toNat : Int) ≠ 45) : goodP s k :=
  .inl ⟨by rw [bt_of_lt h]; exact a, h1, by rw [bt_of_lt h1]; exact b⟩
theorem good_letter {s : ByteArray} {k : Nat} (h : k < s.size) (a : letterP (s[k].toNat : Int)) : goodP s k :=
  .inr (.inl (by rw [bt_of_lt h]; exact a))
theorem good_digit {s : ByteArray} {k : Nat} (h : k < s.size) (a : digitP (s[k].toNat : Int)) : goodP s k :=
  .inr (.inr (by rw [bt_of_lt h]; exact a))
theorem bad_double {s : ByteArray} {k : Nat} (h : k < s.size) (h1 : k + 1 < s.size) (a : (s[k].toNat : Int) = 45) (b : (s[k+1].toNat : Int) = 45) : ¬ goodP s k := by
  unfold goodP letterP digitP; rw [bt_of_lt h, bt_of_lt h1]; omega
theorem bad_last {s : ByteArray} {k : Nat} (h : k < s.size) (h1 : ¬ k + 1 < s.size) (a : (s[k].toNat : Int) = 45) : ¬ goodP s k := by
  unfold goodP letterP digitP; rw [bt_of_lt h]; omega
theorem bad_other {s : ByteArray} {k : Nat} (h : k < s.size) (a : (s[k].toNat : Int) ≠ 45) (b : ¬ letterP (s[k].toNat : Int)) (c : ¬ digitP (s[k].toNat : Int)) : ¬ goodP s k := by
  unfold goodP; rw [bt_of_lt h]; rintro (x | x | x)
  · exact a x.1
  · exact b x
  · exact c x
theorem not_name_of_bad {s : ByteArray} {k : Nat} (h1 : 1 ≤ k) (h : k < s.size) (b : ¬ goodP s k) : ¬ nameP s := fun n => b (n.2.2 k h1 h)
theorem upto_succ {s : ByteArray} {k : Nat} (h : ∀ j, 1 ≤ j → j < k → goodP s j) (g : goodP s k) : ∀ j, 1 ≤ j → j < k + 1 → goodP s j := by
  intro j h1 h2
  by_cases e : j = k
  · rw [e]; exact g
  · exact h j h1 (by omega)

/-- The same, as a function that reckons. -/
def nameB (s : ByteArray) : Bool :=
  decide (0 < s.size) && decide ((65 ≤ bt s 0 ∧ bt s 0 ≤ 90) ∨ (97 ≤ bt s 0 ∧ bt s 0 ≤ 122)) &&
    (List.range s.size).all fun k => decide (k = 0) || decide ((bt s k = 45 ∧ k + 1 < s.size ∧ bt s (k + 1) ≠ 45) ∨ ((65 ≤ bt s k ∧ bt s k ≤ 90) ∨ (97 ≤ bt s k ∧ bt s k ≤ 122)) ∨ (48 ≤ bt s k ∧ bt s k ≤ 57))

theorem nameB_iff (s : ByteArray) : nameB s = true ↔ nameP s := by
  unfold nameB nameP goodP letterP digitP
  rw [Bool.and_eq_true, Bool.and_eq_true, List.all_eq_true]
  constructor
  · rintro ⟨⟨a, b⟩, c⟩
    refine ⟨of_decide_eq_true a, of_decide_eq_true b, fun k k1 k2 => ?_⟩
    have := c k (List.mem_range.2 k2)
    rw [Bool.or_eq_true] at this
    rcases this with x | x
    · have := of_decide_eq_true x; omega
    · exact of_decide_eq_true x
  · rintro ⟨a, b, c⟩
    refine ⟨⟨decide_eq_true a, decide_eq_true b⟩, fun k hk => ?_⟩
    rw [Bool.or_eq_true]
    by_cases e : k = 0
    · exact .inl (decide_eq_true e)
    · exact .inr (decide_eq_true (c k (by omega) (List.mem_range.1 hk)))
theorem nameB_true {s : ByteArray} (h : nameP s) : nameB s = true := (nameB_iff s).2 h
theorem nameB_false {s : ByteArray} (h : ¬ nameP s) : nameB s = false := by
  cases e : nameB s with
  | false => rfl
  | true => exact absurd ((nameB_iff s).1 e) h

end Go.Proofs.Qxb6630138a.Plain
