/- Seat b6603719a: plain facts: no Go in sight. 'bt t k': byte k of t as a number (the kit's PlainAid). -/
import Derived.PlainAid
import Derived.Lib.Bytealg
import Derived.Lib.Strings
namespace Go.Proofs.Qxb6603719a
open Go.PlainAid

/-- The place of byte c in the text of the five punctuation signs, or -1. -/
def pI (c : Int) : Int := if c = 61 then 0 else if c = 33 then 1 else if c = 44 then 2 else if c = 40 then 3 else if c = 41 then 4 else -1

theorem pI_eq (c : Int) (h0 : 0 ≤ c) (h1 : c ≤ 255) : Lib.indexByte [61, 33, 44, 40, 41] c.toNat.toUInt8 = pI c := by
  obtain ⟨n, rfl⟩ := Int.eq_ofNat_of_zero_le h0
  have hn : n < 256 := by omega
  have key : ∀ m : Fin 256, Lib.indexByte [61, 33, 44, 40, 41] ((m.val : Int).toNat.toUInt8) = pI (m.val : Int) := by decide +kernel
  exact key ⟨n, hn⟩

theorem pI_space : pI 32 = -1 := by decide

/-- Does t, from k on, begin with the bytes a, b? -/
def HP (t : ByteArray) (k : Nat) (a b : Int) : Bool := decide (k + 1 < t.size ∧ bt t k = a ∧ bt t (k + 1) = b)

def Spaces (t : ByteArray) (a b : Nat) : Prop := ∀ i, a ≤ i → i < b → bt t i = 32
def Words (t : ByteArray) (a b : Nat) : Prop := ∀ i, a ≤ i → i < b → bt t i ≠ 32

theorem Spaces.none (t : ByteArray) (a : Nat) : Spaces t a a := fun i h1 h2 => by omega
theorem Words.none (t : ByteArray) (a : Nat) : Words t a a := fun i h1 h2 => by omega
theorem Spaces.snoc {t : ByteArray} {a b : Nat} (h : Spaces t a b) (hb : bt t b = 32) : Spaces t a (b + 1) := by
  intro i h1 h2
  by_cases e : i = b
  · rw [e]; exact hb
  · exact h i h1 (by omega)
theorem Words.snoc {t : ByteArray} {a b : Nat} (h : Words t a b) (hb : bt t b ≠ 32) : Words t a (b + 1) := by
  intro i h1 h2
  by_cases e : i = b
  · rw [e]; exact hb
  · exact h i h1 (by omega)

/-- What one advance finds from e on: spaces up to s2, then a token up to e2; no token only at the end. -/
structure Adv (t : ByteArray) (e s2 e2 : Nat) : Prop where
  le1 : e ≤ s2
  le2 : s2 ≤ e2
  le3 : e2 ≤ t.size
  sp : Spaces t e s2
  ns : Words t s2 e2
  fin : s2 = e2 → e2 = t.size

theorem Adv.atEnd {t : ByteArray} {e : Nat} (h : e ≤ t.size) (hs : Spaces t e t.size) : Adv t e t.size t.size := ⟨h, Nat.le_refl _, Nat.le_refl _, hs, Words.none _ _, fun _ => rfl⟩
theorem Adv.one {t : ByteArray} {e k : Nat} (h : e ≤ k) (hk : k < t.size) (hs : Spaces t e k) (hb : bt t k ≠ 32) : Adv t e k (k + 1) :=
  ⟨h, by omega, by omega, hs, (Words.none t k).snoc hb, fun e => by omega⟩
theorem Adv.two {t : ByteArray} {e k : Nat} {a b : Int} (h : e ≤ k) (hs : Spaces t e k) (hp : HP t k a b = true) (ha : a ≠ 32) (hb : b ≠ 32) : Adv t e k (k + 2) := by
  unfold HP at hp
  obtain ⟨h1, h2, h3⟩ := of_decide_eq_true hp
  exact ⟨h, by omega, by omega, hs, ((Words.none t k).snoc (by rw [h2]; exact ha)).snoc (by rw [h3]; exact hb), fun e => by omega⟩
theorem Adv.word {t : ByteArray} {e k j : Nat} (h : e ≤ k) (hk : k < j) (hj : j ≤ t.size) (hs : Spaces t e k) (hw : Words t k j) : Adv t e k j :=
  ⟨h, by omega, hj, hs, hw, fun e => by omega⟩

theorem getElem_data (t : ByteArray) (i : Nat) (h : i < t.size) : t[i] = t.data.toList[i]'(by simpa using h) := by
  simp [ByteArray.getElem_eq_getElem_data]

/-- A piece's byte is the text's byte. -/
theorem bt_extract (t : ByteArray) (a b i : Nat) (h : i < (t.extract a b).size) : (((t.extract a b)[i]'h).toNat : Int) = bt t (a + i) := by
  have h' := h
  simp at h'
  unfold bt
  rw [dif_pos (by omega), ByteArray.getElem_extract]

theorem isEmpty_extract (t : ByteArray) (k : Nat) : (t.extract k t.size).toList.isEmpty = decide (t.size ≤ k) := by
  rw [Lib.extract_toList, Bool.eq_iff_iff, List.isEmpty_iff, decide_eq_true_iff, ← List.length_eq_zero_iff, List.length_take, List.length_drop, Array.length_toList]
  have : t.data.size = t.size := rfl
  omega

theorem HP_eq (t : ByteArray) (k : Nat) (a b : UInt8) : (decide (2 ≤ (t.extract k t.size).size) && (((t.extract k t.size).extract 0 2).toList == [a, b])) = HP t k a.toNat b.toNat := by
  unfold HP
  by_cases h : k + 1 < t.size
  · have e1 : (2 ≤ (t.extract k t.size).size) := by simp; omega
    have e2 : ((t.extract k t.size).extract 0 2).toList = [t[k], t[k + 1]] := by
      rw [Lib.extract_toList, Lib.extract_data]
      apply List.ext_getElem
      · simp; have : t.data.size = t.size := rfl; omega
      · intro i h1 h2
        simp at h2
        simp [List.getElem_take, List.getElem_drop]
        match i, h2 with
        | 0, _ => simp [ByteArray.getElem_eq_getElem_data]
        | 1, _ => simp [ByteArray.getElem_eq_getElem_data]
    rw [e2, Bool.eq_iff_iff]
    have g1 := get_bt t k (by omega)
    have g2 := get_bt t (k + 1) h
    simp only [Bool.and_eq_true, decide_eq_true_iff, beq_iff_eq, List.cons.injEq, and_true, ← g1, ← g2]
    constructor
    · rintro ⟨_, h1, h2⟩; exact ⟨h, by rw [h1], by rw [h2]⟩
    · rintro ⟨_, h1, h2⟩; exact ⟨e1, UInt8.toNat_inj.1 (by omega), UInt8.toNat_inj.1 (by omega)⟩
  · have e1 : ¬ (2 ≤ (t.extract k t.size).size) := by simp; omega
    rw [decide_eq_false e1, decide_eq_false (fun x => h x.1)]
    rfl

end Go.Proofs.Qxb6603719a
