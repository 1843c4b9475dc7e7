/-
  THE PLAIN LAW of FnIsObjectIDOneByteAtAnyPlace (seat b6630217a): one byte put at one place. No Go in sight.
-/
import Derived.Test.Qxb6630217aPlain
namespace Go.Proofs.Qxb6630217a.OnePlain
open Go.Proofs.Qxb6630217a.Plain

/-- s with c at place i. -/
def putAt (s : ByteArray) (i : Nat) (c : UInt8) : ByteArray := ⟨(s.data.toList.set i c).toArray⟩
theorem put_size (s : ByteArray) (i : Nat) (c : UInt8) : (putAt s i c).size = s.size := by
  show ((s.data.toList.set i c).toArray).size = s.data.size
  simp
theorem put_get (s : ByteArray) (i : Nat) (c : UInt8) (k : Nat) (h : k < s.size) : (putAt s i c)[k]'(by rw [put_size]; exact h) = if i = k then c else s[k] := by
  rw [ByteArray.getElem_eq_getElem_data]
  simp only [putAt, List.getElem_toArray, List.getElem_set]
  split
  · rfl
  · rfl
theorem put_bt (s : ByteArray) (i : Nat) (c : UInt8) (k : Nat) (h : k < s.size) : bt (putAt s i c) k = if i = k then (c.toNat : Int) else bt s k := by
  rw [bt_of_lt (by rw [put_size]; exact h), put_get s i c k h, bt_of_lt h]
  split <;> rfl
theorem put_self (s : ByteArray) (i : Nat) (h : i < s.size) : putAt s i s[i] = s := by
  apply ByteArray.ext
  show (s.data.toList.set i s[i]).toArray = s.data
  have e : s[i] = s.data.toList[i]'(by simpa using h) := rfl
  rw [e, List.set_getElem_self]

theorem put_put (s : ByteArray) (i : Nat) (c d : UInt8) : putAt (putAt s i c) i d = putAt s i d := by
  unfold putAt
  simp

theorem put_id (s : ByteArray) (i : Nat) (c : UInt8) (h : i < s.size) :
    idP (putAt s i c) ↔ (s.size = 40 ∨ s.size = 64) ∧ (∀ k, k < s.size → ¬ i = k → hexP (bt s k)) ∧ hexP (c.toNat : Int) := by
  unfold idP
  rw [put_size]
  constructor
  · rintro ⟨a, b⟩
    refine ⟨a, fun k hk hne => ?_, ?_⟩
    · have := b k hk
      rw [put_bt s i c k hk, if_neg hne] at this
      exact this
    · have := b i h
      rw [put_bt s i c i h, if_pos rfl] at this
      exact this
  · rintro ⟨a, b, d⟩
    refine ⟨a, fun k hk => ?_⟩
    rw [put_bt s i c k hk]
    split
    · exact d
    · exact b k hk ‹_›

/-- The zero run with c at i. -/
theorem zc_bool (n i : Nat) (c : UInt8) (h : i < n) : idB (putAt (zeros n) i c) = (lenB n && hexB (c.toNat : Int)) := by
  rw [Bool.eq_iff_iff, Bool.and_eq_true, idB_iff, lenB_iff, hexB_iff, put_id _ _ _ (by rw [zeros_size]; exact h), zeros_size]
  constructor
  · exact fun x => ⟨x.1, x.2.2⟩
  · exact fun x => ⟨x.1, fun k hk _ => by rw [zeros_bt n hk]; exact hex_zero, x.2⟩

/-- s with c at i. -/
theorem t_bool (s : ByteArray) (i : Nat) (c : UInt8) (h : i < s.size) : idB (putAt s i c) = (idB (putAt s i 48) && idB (putAt (zeros s.size) i c)) := by
  rw [zc_bool s.size i c h, Bool.eq_iff_iff, Bool.and_eq_true, Bool.and_eq_true, idB_iff, idB_iff, lenB_iff, hexB_iff, put_id s i c h, put_id s i 48 h]
  constructor
  · exact fun x => ⟨⟨x.1, x.2.1, hex_zero⟩, x.1, x.2.2⟩
  · exact fun x => ⟨x.1.1, x.1.2.1, x.2.2⟩

/-- s itself. -/
theorem s_bool (s : ByteArray) (i : Nat) (h : i < s.size) : idB s = (idB (putAt s i 48) && idB (putAt (zeros s.size) i s[i])) := by
  rw [← t_bool s i s[i] h, put_self s i h]

/-- A bad length: no id. -/
theorem id_len (s : ByteArray) (h : lenB s.size = false) : idB s = false := by
  unfold idB; rw [h]; rfl

end Go.Proofs.Qxb6630217a.OnePlain
