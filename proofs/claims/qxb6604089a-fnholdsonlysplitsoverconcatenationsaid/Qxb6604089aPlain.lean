/- Seat b6604089a: plain facts: no Go in sight. -/
import Derived.PlainAid
import Derived.Lib.Bytealg
import Derived.Lib.IndexLaws
import Derived.Lib.Strings
namespace Go.Proofs.Qxb6604089a
open Go.PlainAid

/-- An ASCII letter or digit. -/
def alnum (c : Int) : Bool := decide (97 ≤ c ∧ c ≤ 122) || decide (65 ≤ c ∧ c ≤ 90) || decide (48 ≤ c ∧ c ≤ 57)
/-- May byte c stand, under the extra bytes x? -/
def ok (x : List UInt8) (c : UInt8) : Bool := alnum (c.toNat : Int) || x.contains c
/-- What holdsOnly answers. -/
def HO (s x : List UInt8) : Bool := s.all (ok x)
/-- The place of byte c in x, or -1. -/
def IX (x : ByteArray) (c : Int) : Int := Lib.indexByte x.data.toList c.toNat.toUInt8

theorem len_data (t : ByteArray) : t.data.toList.length = t.size := rfl
theorem bt_byte (t : ByteArray) (k : Nat) (h : k < t.size) : bt t k = ((t.data.toList[k]'(by rw [len_data]; exact h)).toNat : Int) := by
  rw [← get_bt t k h]
  simp [ByteArray.getElem_eq_getElem_data]

theorem ix_mem (l : List UInt8) (c : UInt8) : 0 ≤ Lib.indexByte l c ↔ c ∈ l := by
  constructor
  · intro h
    have hs := (Lib.indexByte_some (o := (Lib.indexByte l c).toNat) (l := l) (c := c) (by omega)).1
    exact List.mem_of_getElem? hs
  · intro h
    have hg := Lib.indexByte_ge l c
    by_cases e : Lib.indexByte l c = -1
    · obtain ⟨k, hk, hx⟩ := List.mem_iff_getElem.1 h
      exact absurd (by rw [List.getElem?_eq_getElem hk, hx]) (Lib.indexByte_none e k)
    · omega

theorem ok_ix (x s : ByteArray) (k : Nat) (h : k < s.size) : ok x.data.toList (s.data.toList[k]'(by rw [len_data]; exact h)) = (alnum (bt s k) || decide (0 ≤ IX x (bt s k))) := by
  rw [bt_byte s k h]
  unfold ok IX
  congr 1
  rw [Bool.eq_iff_iff, List.contains_iff_mem, decide_eq_true_iff, ix_mem]
  simp

/-- The first k bytes of s may stand. -/
def Good (s x : ByteArray) (k : Nat) : Prop := HO (s.data.toList.take k) x.data.toList = true

theorem Good.start (s x : ByteArray) : Good s x 0 := rfl
theorem take_snoc (s : ByteArray) (k : Nat) (h : k < s.size) : s.data.toList.take (k + 1) = s.data.toList.take k ++ [s.data.toList[k]'(by rw [len_data]; exact h)] := by
  rw [List.take_succ_eq_append_getElem (by rw [len_data]; exact h)]
theorem Good.snoc {s x : ByteArray} {k : Nat} (g : Good s x k) (h : k < s.size) (hk : (alnum (bt s k) || decide (0 ≤ IX x (bt s k))) = true) : Good s x (k + 1) := by
  unfold Good HO at g ⊢
  rw [take_snoc s k h, List.all_append, g, List.all_cons, List.all_nil, ok_ix x s k h, hk]
  rfl
theorem Good.fin {s x : ByteArray} (g : Good s x s.size) : HO s.data.toList x.data.toList = true := by
  unfold Good at g
  rwa [List.take_of_length_le (by rw [len_data]; omega)] at g
theorem bad {s x : ByteArray} {k : Nat} (h : k < s.size) (hk : (alnum (bt s k) || decide (0 ≤ IX x (bt s k))) = false) : HO s.data.toList x.data.toList = false := by
  unfold HO
  rw [← ok_ix x s k h] at hk
  rw [Bool.eq_false_iff]
  intro e
  rw [List.all_eq_true] at e
  rw [e _ (List.getElem_mem _)] at hk
  exact absurd hk (by decide)

end Go.Proofs.Qxb6604089a
