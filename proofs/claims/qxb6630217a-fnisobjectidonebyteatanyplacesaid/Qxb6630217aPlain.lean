/-
  THE PLAIN LAW of seat b6630217a: bytes, object ids. No Go in sight.
-/
namespace Go.Proofs.Qxb6630217a.Plain

/-- The byte at place k, as a number; 0 outside. -/
def bt (s : ByteArray) (k : Nat) : Int := if h : k < s.size then (s[k].toNat : Int) else 0
def hexP (c : Int) : Prop := (48 ≤ c ∧ c ≤ 57) ∨ (97 ≤ c ∧ c ≤ 102)
/-- What IsObjectID asks. -/
def idP (s : ByteArray) : Prop := (s.size = 40 ∨ s.size = 64) ∧ ∀ k, k < s.size → hexP (bt s k)
def hexB (c : Int) : Bool := decide ((48 ≤ c ∧ c ≤ 57) ∨ (97 ≤ c ∧ c ≤ 102))
def lenB (n : Nat) : Bool := decide (n = 40 ∨ n = 64)
def idB (s : ByteArray) : Bool := lenB s.size && (List.range s.size).all fun k => hexB (bt s k)

theorem bt_of_lt {s : ByteArray} {k : Nat} (h : k < s.size) : bt s k = (s[k].toNat : Int) := by
  unfold bt; rw [dif_pos h]
theorem hexB_iff (c : Int) : hexB c = true ↔ hexP c := by unfold hexB hexP; exact decide_eq_true_iff
theorem lenB_iff (n : Nat) : lenB n = true ↔ (n = 40 ∨ n = 64) := by unfold lenB; exact decide_eq_true_iff
theorem idB_iff (s : ByteArray) : idB s = true ↔ idP s := by
  unfold idB idP
  rw [Bool.and_eq_true, List.all_eq_true, lenB_iff]
  constructor
  · rintro ⟨a, b⟩
    exact ⟨a, fun k hk => (hexB_iff _).1 (b k (List.mem_range.2 hk))⟩
  · rintro ⟨a, b⟩
    exact ⟨a, fun k hk => (hexB_iff _).2 (b k (List.mem_range.1 hk))⟩
theorem idB_true {s : ByteArray} (h : idP s) : idB s = true := (idB_iff s).2 h
theorem idB_false {s : ByteArray} (h : ¬ idP s) : idB s = false := by
  cases e : idB s with
  | false => rfl
  | true => exact absurd ((idB_iff s).1 e) h
theorem upto_succ {s : ByteArray} {k : Nat} (h : ∀ j, j < k → hexP (bt s j)) (g : hexP (bt s k)) : ∀ j, j < k + 1 → hexP (bt s j) := by
  intro j h2
  by_cases e : j = k
  · rw [e]; exact g
  · exact h j (by omega)

theorem bt_left (a b : ByteArray) {k : Nat} (h : k < a.size) : bt (a ++ b) k = bt a k := by
  rw [bt_of_lt h, bt_of_lt (by rw [ByteArray.size_append]; omega), ByteArray.getElem_append_left h]
theorem bt_right (a b : ByteArray) (k : Nat) : bt (a ++ b) (a.size + k) = bt b k := by
  unfold bt
  by_cases h : k < b.size
  · have h2 : a.size + k < (a ++ b).size := by rw [ByteArray.size_append]; omega
    rw [dif_pos h, dif_pos h2, ByteArray.getElem_append_right (by omega)]
    simp
  · have h2 : ¬ a.size + k < (a ++ b).size := by rw [ByteArray.size_append]; omega
    rw [dif_neg h, dif_neg h2]
theorem bt_extract (s : ByteArray) (lo hi : Nat) {k : Nat} (hh : hi ≤ s.size) (h : lo + k < hi) : bt (s.extract lo hi) k = bt s (lo + k) := by
  have h1 : k < (s.extract lo hi).size := by rw [ByteArray.size_extract]; omega
  rw [bt_of_lt h1, bt_of_lt (by omega : lo + k < s.size), ByteArray.getElem_extract]

/-- n bytes of '0'. -/
def zeros (n : Nat) : ByteArray := ⟨(List.replicate n 48).toArray⟩
theorem zeros_size (n : Nat) : (zeros n).size = n := by
  show ((List.replicate n 48).toArray).size = n
  simp
theorem zeros_bt (n : Nat) {k : Nat} (h : k < n) : bt (zeros n) k = 48 := by
  have h' : k < (zeros n).size := by rw [zeros_size]; exact h
  rw [bt_of_lt h', ByteArray.getElem_eq_getElem_data]
  have e : ((zeros n).data[k]'(by exact h')) = 48 := by simp [zeros]
  rw [e]
  rfl
theorem hex_zero : hexP 48 := by unfold hexP; omega
theorem zeros_id (n : Nat) : idB (zeros n) = lenB n := by
  rw [Bool.eq_iff_iff, idB_iff, lenB_iff]
  unfold idP
  rw [zeros_size]
  constructor
  · exact fun h => h.1
  · exact fun h => ⟨h, fun k hk => by rw [zeros_bt n hk]; exact hex_zero⟩

/-- THE SPLIT. -/
theorem mix_size (a b : ByteArray) (k n : Nat) (ha : a.size = n) (hb : b.size = n) (hk : k ≤ n) : (a.extract 0 k ++ b.extract k n).size = n := by
  rw [ByteArray.size_append, ByteArray.size_extract, ByteArray.size_extract]; omega
theorem mix_bt (a b : ByteArray) (k n : Nat) (ha : a.size = n) (hb : b.size = n) (hk : k ≤ n) (j : Nat) (hj : j < n) :
    bt (a.extract 0 k ++ b.extract k n) j = if j < k then bt a j else bt b j := by
  have h1 : (a.extract 0 k).size = k := by rw [ByteArray.size_extract]; omega
  by_cases c : j < k
  · rw [if_pos c, bt_left _ _ (by omega), bt_extract a 0 k (by omega) (by omega), Nat.zero_add]
  · rw [if_neg c]
    have := bt_right (a.extract 0 k) (b.extract k n) (j - k)
    rw [h1] at this
    have e : k + (j - k) = j := by omega
    rw [e] at this
    rw [this, bt_extract b k n (by omega) (by omega), e]
theorem split_bool (s : ByteArray) (k n : Nat) (hn : s.size = n) (hk : k ≤ n) :
    idB s = (lenB n && idB (s.extract 0 k ++ (zeros n).extract k n) && idB ((zeros n).extract 0 k ++ s.extract k n)) := by
  have hz := zeros_size n
  rw [Bool.eq_iff_iff, Bool.and_eq_true, Bool.and_eq_true, idB_iff, idB_iff, idB_iff, lenB_iff]
  unfold idP
  rw [mix_size s (zeros n) k n hn hz hk, mix_size (zeros n) s k n hz hn hk, hn]
  constructor
  · rintro ⟨a, b⟩
    refine ⟨⟨a, a, fun j hj => ?_⟩, a, fun j hj => ?_⟩
    · rw [mix_bt s (zeros n) k n hn hz hk j hj]
      split
      · exact b j hj
      · rw [zeros_bt _ hj]; exact hex_zero
    · rw [mix_bt (zeros n) s k n hz hn hk j hj]
      split
      · rw [zeros_bt _ hj]; exact hex_zero
      · exact b j hj
  · rintro ⟨⟨a, -, b⟩, -, c⟩
    refine ⟨a, fun j hj => ?_⟩
    by_cases h : j < k
    · have := b j hj
      rw [mix_bt s (zeros n) k n hn hz hk j hj, if_pos h] at this
      exact this
    · have := c j hj
      rw [mix_bt (zeros n) s k n hz hn hk j hj, if_neg h] at this
      exact this

end Go.Proofs.Qxb6630217a.Plain
