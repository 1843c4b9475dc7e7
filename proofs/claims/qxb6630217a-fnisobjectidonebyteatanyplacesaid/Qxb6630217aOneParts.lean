/-
  THE PARTS of the walk of FnIsObjectIDOneByteAtAnyPlace (seat b6630217a): conversions between rows and strings; isLowerHexB1.
-/
import Derived.Test.Qxb6630217aRows
import Derived.Test.Qxb6630217aOnePlain
import Derived.Test.Qxb6630217aIds
import Derived.WalkKit
import Derived.ProofKit
import Derived.Deep.OwnRows
import Derived.Laws.IdiomStrings
namespace Go.Proofs.Qxb6630217a.OneParts
open Go.RowKit Go.Proofs.Qxb6630217a.Plain Go.Proofs.Qxb6630217a.OnePlain Go.Proofs.Qxb6630217a.Ids

/-- IsObjectID at a string of which the answer is known. -/
theorem id_val (s : ByteArray) (w : World) (b : Bool) (h : idB s = b) :
    Calls Try.prog 7 #[.string s] w fun e w' => e = .returned (.bool b) ∧ w' = w :=
  (id_ex s w).mono fun _ _ ⟨_, a, hb, c⟩ => ⟨by rw [a, hb.out, h], c⟩

/-- 'string(b)' where b's cells in whatever world spell t. -/
theorem strOf (t : ByteArray) (w : World) (b cap : Nat) (hc : ∀ j (h : j < t.size), w.cell? ⟨b, j, none⟩ = some (.int .u8 (t[j].toNat : Int))) :
    (convert 23 9 (.slice (some ⟨b, 0, none⟩) t.size cap)).run Try.prog w = .ok (.string t) w := by
  have hl : t.data.toList.length = t.size := by
    show _ = t.data.size
    simp
  have h := run_convert_bytes_back (P := Try.prog) w 23 9 5 ⟨b, 0, none⟩ cap t.data.toList Try.underlying23 Try.underlying5 Try.underlying9 (by
    intro j hj
    have hj' : j < t.size := by omega
    have ea : (⟨b, 0, none⟩ : Addr).add j = ⟨b, j, none⟩ := by simp [Addr.add]; omega
    rw [ea, hc j hj']
    rfl)
  rw [hl] at h
  have e : (⟨t.data.toList.toArray⟩ : ByteArray) = t := by cases t; simp
  rw [e] at h
  exact h

/-- The cells that spell t. -/
def spell (t : ByteArray) : Array Value := (t.data.toList.map fun b => Value.int .u8 (b.toNat : Int)).toArray
theorem spell_get (t : ByteArray) (j : Nat) (h : j < t.size) : (spell t)[j]? = some (.int .u8 (t[j].toNat : Int)) := by
  unfold spell
  have h' : j < t.data.toList.length := by simpa using h
  rw [List.getElem?_toArray, List.getElem?_map, List.getElem?_eq_getElem h']
  rfl
theorem spell_size (t : ByteArray) : (spell t).size = t.size := by
  show _ = t.data.size
  simp [spell]
theorem spell_zeros (n : Nat) : Array.replicate n (Value.int .u8 48) = spell (zeros n) := by
  unfold spell zeros
  apply Array.ext_getElem?
  intro j
  rw [Array.getElem?_replicate, List.getElem?_toArray, List.getElem?_map]
  by_cases h : j < n
  · rw [if_pos h, List.getElem?_replicate, if_pos h]; rfl
  · rw [if_neg h, List.getElem?_replicate, if_neg h]; rfl
theorem spell_put (t : ByteArray) (i : Nat) (c : UInt8) : (spell t).setIfInBounds i (.int .u8 (c.toNat : Int)) = spell (putAt t i c) := by
  unfold spell putAt
  rw [List.setIfInBounds_toArray, List.map_set]

/-- 'string(b)' of a new row that spells t. -/
theorem conv_new (t : ByteArray) (n : Nat) (hn : t.size = n) (w : World) :
    (convert 23 9 (.slice (some ⟨w.heap.size, 0, none⟩) n n)).run Try.prog (w.alloc (.cells (spell t) 5)) = .ok (.string t) (w.alloc (.cells (spell t) 5)) := by
  subst hn
  exact strOf t _ w.heap.size t.size fun j h => by rw [World.cell?_alloc_mark, spell_get t j h]

/-- '[]byte(s)': a new row that spells s. -/
theorem bytes_of (W : World) (s : ByteArray) : ∃ (cap : Nat) (W2 : World), (convert 9 23 (.string s)).run Try.prog W = .ok (.slice (some ⟨W.heap.size, 0, none⟩) s.size cap) W2 ∧
    (∀ j (h : j < s.size), W2.cell? ⟨W.heap.size, j, none⟩ = some (.int .u8 (s[j].toNat : Int))) ∧ (∀ j, j < s.size → W2.frozen? ⟨W.heap.size, j, none⟩ = false) ∧ Below W.heap.size W W2 := by
  refine ⟨_, _, run_bytes_of_string W 9 23 5 s Try.underlying9 Try.underlying23 Try.underlying5, fun j h => ?_, fun j h => ?_, (Below.refl _ _).drew.alloc (Nat.le_refl _) _⟩
  · rw [show W.heap.size = W.drew.heap.size from rfl, World.cell?_alloc_mark]
    exact bytesRow_at s _ j h
  · rw [show W.heap.size = W.drew.heap.size from rfl, World.frozen?_alloc_mark]
    have : s.data.size ≤ (bytesRow s (grownCap W s.size 0 5)).size := by unfold bytesRow; simp
    have hs : s.size = s.data.size := rfl
    simp
    omega

/-- One store into a row that spells t. -/
theorem cells_put (W : World) (b i : Nat) (t : ByteArray) (c : UInt8) (hc : ∀ j (h : j < t.size), W.cell? ⟨b, j, none⟩ = some (.int .u8 (t[j].toNat : Int))) :
    ∀ j (h : j < (putAt t i c).size), (W.setCell ⟨b, i, none⟩ (.int .u8 (c.toNat : Int))).cell? ⟨b, j, none⟩ = some (.int .u8 ((putAt t i c)[j].toNat : Int)) := by
  intro j h
  have hj : j < t.size := by rw [put_size] at h; exact h
  rw [put_get t i c j hj]
  by_cases e : i = j
  · subst e
    rw [if_pos rfl]
    exact World.cell?_setCell_same _ _ _ (hc i hj)
  · rw [if_neg e, ← hc j hj]
    exact World.cell?_setCell_other _ _ _ _ (by intro x; injection x; exact e ‹_›)

/-- What '[]byte(s)' and two stores leave, as the walk wants it. -/
theorem bytes_two (W : World) (b : Nat) (hb : W.heap.size = b) (s : ByteArray) (i : Nat) (c : UInt8) (h : i < s.size) : ∃ (cap : Nat) (W2 : World),
    (convert 9 23 (.string s)).run Try.prog W = .ok (.slice (some ⟨b, 0, none⟩) s.size cap) W2 ∧
    (∃ v, W2.cell? ⟨b, i, none⟩ = some v) ∧ W2.frozen? ⟨b, i, none⟩ = false ∧
    (convert 23 9 (.slice (some ⟨b, 0, none⟩) s.size cap)).run Try.prog (W2.setCell ⟨b, i, none⟩ (.int .u8 48)) = .ok (.string (putAt s i 48)) (W2.setCell ⟨b, i, none⟩ (.int .u8 48)) ∧
    (convert 23 9 (.slice (some ⟨b, 0, none⟩) s.size cap)).run Try.prog ((W2.setCell ⟨b, i, none⟩ (.int .u8 48)).setCell ⟨b, i, none⟩ (.int .u8 (c.toNat : Int))) = .ok (.string (putAt s i c)) ((W2.setCell ⟨b, i, none⟩ (.int .u8 48)).setCell ⟨b, i, none⟩ (.int .u8 (c.toNat : Int))) ∧
    Below W.heap.size W W2 := by
  subst hb
  obtain ⟨cap, W2, hr, hc, hf, hbel⟩ := bytes_of W s
  have c1 := cells_put W2 W.heap.size i s 48 hc
  have c2 := cells_put (W2.setCell ⟨W.heap.size, i, none⟩ (.int .u8 48)) W.heap.size i (putAt s i 48) c c1
  refine ⟨cap, W2, hr, ⟨_, hc i h⟩, hf i h, ?_, ?_, hbel⟩
  · have := strOf (putAt s i 48) _ W.heap.size cap c1
    rw [put_size] at this
    exact this
  · have := strOf (putAt (putAt s i 48) i c) _ W.heap.size cap c2
    rw [put_size, put_size, put_put] at this
    exact this

end Go.Proofs.Qxb6630217a.OneParts
