/- Seat b6603825a: plain facts: no Go in sight. Bytes are UInt8, a hexadecimal digit's value is an Int. -/
import Derived.PlainAid
import Derived.Lib.Bytealg
import Derived.Lib.Strings
namespace Go.Proofs.Qxb6603825a
open Go.PlainAid

/-! ### Hexadecimal digits -/
/-- Is c a hexadecimal digit, in either case? -/
def hexOk (c : Int) : Bool := decide (48 ≤ c ∧ c ≤ 57) || decide (97 ≤ c ∧ c ≤ 102) || decide (65 ≤ c ∧ c ≤ 70)
/-- Its value; 0 where it is none. -/
def hexVal (c : Int) : Int := if 48 ≤ c ∧ c ≤ 57 then c - 48 else if 97 ≤ c ∧ c ≤ 102 then c - 87 else if 65 ≤ c ∧ c ≤ 70 then c - 55 else 0

theorem hexVal_bd (c : Int) : 0 ≤ hexVal c ∧ hexVal c ≤ 15 := by
  unfold hexVal
  split
  · omega
  · split
    · omega
    · split <;> omega

/-! ### The escape that a text starts with -/
/-- Byte k of a list, as a number; 0 behind its end. -/
def at_ (l : List UInt8) (k : Nat) : Int := ((l.getD k 0).toNat : Int)

/-- How long the escape is that l starts with; 0: none. -/
def escN (l : List UInt8) : Nat :=
  if l.length < 2 ∨ at_ l 0 ≠ 92 then 0
  else if at_ l 1 = 34 ∨ at_ l 1 = 92 then 2
  else if at_ l 1 = 120 ∧ 4 ≤ l.length ∧ hexOk (at_ l 2) = true ∧ hexOk (at_ l 3) = true then 4
  else 0
/-- The byte that it stands for, as a number; 0: none. -/
def escV (l : List UInt8) : Int :=
  if l.length < 2 ∨ at_ l 0 ≠ 92 then 0
  else if at_ l 1 = 34 ∨ at_ l 1 = 92 then at_ l 1
  else if at_ l 1 = 120 ∧ 4 ≤ l.length ∧ hexOk (at_ l 2) = true ∧ hexOk (at_ l 3) = true then hexVal (at_ l 2) * 16 + hexVal (at_ l 3)
  else 0

theorem at_bd (l : List UInt8) (k : Nat) : 0 ≤ at_ l k ∧ at_ l k ≤ 255 := by
  unfold at_
  have := (l.getD k 0).toNat_lt
  omega

theorem escV_bd (l : List UInt8) : 0 ≤ escV l ∧ escV l ≤ 255 := by
  have h1 := at_bd l 1
  have h2 := hexVal_bd (at_ l 2)
  have h3 := hexVal_bd (at_ l 3)
  unfold escV
  split
  · omega
  · split
    · omega
    · split <;> omega

theorem escN_cases (l : List UInt8) : escN l = 0 ∨ escN l = 2 ∨ escN l = 4 := by
  unfold escN
  split
  · exact .inl rfl
  · split
    · exact .inr (.inl rfl)
    · split
      · exact .inr (.inr rfl)
      · exact .inl rfl

theorem escN_le (l : List UInt8) : escN l ≤ l.length := by
  unfold escN
  split
  · omega
  · split
    · omega
    · split <;> omega

/-- One step of the decoder: how far, and the byte. -/
def stN (l : List UInt8) : Nat := if escN l = 0 then 1 else escN l
def stV (l : List UInt8) : Int := if escN l = 0 then at_ l 0 else escV l

theorem stN_pos (l : List UInt8) : 1 ≤ stN l := by
  unfold stN
  split <;> omega
theorem stN_four (l : List UInt8) : stN l ≤ 4 := by
  unfold stN
  have := escN_cases l
  split <;> omega
theorem stN_le (l : List UInt8) (h : l ≠ []) : stN l ≤ l.length := by
  unfold stN
  have h1 := escN_le l
  have h2 : 0 < l.length := List.length_pos_iff.2 h
  split <;> omega
theorem stV_bd (l : List UInt8) : 0 ≤ stV l ∧ stV l ≤ 255 := by
  unfold stV
  have h1 := escV_bd l
  have h2 := at_bd l 0
  split <;> omega

/-- The decoder, with fuel. -/
def unF : Nat → List UInt8 → List UInt8
  | 0, _ => []
  | f + 1, l => if l = [] then [] else (stV l).toNat.toUInt8 :: unF f (l.drop (stN l))

theorem unF_more (f : Nat) : ∀ (g : Nat) (l : List UInt8), l.length ≤ f → l.length ≤ g → unF f l = unF g l := by
  induction f with
  | zero =>
    intro g l h1 h2
    have : l = [] := List.eq_nil_of_length_eq_zero (by omega)
    subst this
    cases g <;> rfl
  | succ f ih =>
    intro g l h1 h2
    cases g with
    | zero =>
      have : l = [] := List.eq_nil_of_length_eq_zero (by omega)
      subst this
      rfl
    | succ g =>
      unfold unF
      by_cases hl : l = []
      · rw [if_pos hl, if_pos hl]
      · rw [if_neg hl, if_neg hl]
        have hp := stN_pos l
        have hd : (l.drop (stN l)).length < l.length := by
          rw [List.length_drop]
          have := List.length_pos_iff.2 hl
          omega
        rw [ih g _ (by omega) (by omega)]

/-- The decoder. -/
def un (l : List UInt8) : List UInt8 := unF l.length l

theorem un_nil : un [] = [] := rfl
theorem un_step (l : List UInt8) (h : l ≠ []) : un l = (stV l).toNat.toUInt8 :: un (l.drop (stN l)) := by
  have hl := List.length_pos_iff.2 h
  obtain ⟨n, hn⟩ : ∃ n, l.length = n + 1 := ⟨l.length - 1, by omega⟩
  unfold un
  rw [hn, unF, if_neg h]
  congr 1
  have hp := stN_pos l
  exact unF_more _ _ _ (by rw [List.length_drop]; omega) (Nat.le_refl _)

theorem escN_ne {c : UInt8} {l : List UInt8} (h : c ≠ 92) : escN (c :: l) = 0 := by
  have h0 : at_ (c :: l) 0 ≠ 92 := by
    intro e
    have e' : (c.toNat : Int) = 92 := e
    exact h (UInt8.toNat_inj.1 (show c.toNat = 92 by omega))
  unfold escN
  rw [if_pos (.inr h0)]

theorem un_plain {c : UInt8} {l : List UInt8} (h : c ≠ 92) : un (c :: l) = c :: un l := by
  rw [un_step _ (by simp)]
  unfold stV stN
  rw [escN_ne h, if_pos rfl, if_pos rfl]
  congr 1
  unfold at_
  simp

theorem un_run (a l : List UInt8) (h : ∀ c ∈ a, c ≠ 92) : un (a ++ l) = a ++ un l := by
  induction a with
  | nil => rfl
  | cons c a ih => rw [List.cons_append, un_plain (h c List.mem_cons_self), ih (fun x hx => h x (List.mem_cons_of_mem _ hx)), List.cons_append]

theorem un_none (a : List UInt8) (h : ∀ c ∈ a, c ≠ 92) : un a = a := by
  have := un_run a [] h
  rwa [List.append_nil, un_nil, List.append_nil] at this

/-! ### How long -/
theorem un_len (f : Nat) : ∀ l : List UInt8, l.length ≤ f → (un l).length ≤ l.length ∧ l.length ≤ 4 * (un l).length := by
  induction f with
  | zero =>
    intro l h
    have : l = [] := List.eq_nil_of_length_eq_zero (by omega)
    subst this
    exact ⟨Nat.le_refl _, Nat.zero_le _⟩
  | succ f ih =>
    intro l h
    by_cases hl : l = []
    · subst hl
      exact ⟨Nat.le_refl _, Nat.zero_le _⟩
    · have hp := stN_pos l
      have h4 := stN_four l
      have hle := stN_le l hl
      have := ih (l.drop (stN l)) (by rw [List.length_drop]; omega)
      rw [un_step l hl, List.length_cons]
      rw [List.length_drop] at this
      omega

/-! ### A ByteArray's bytes -/
theorem len_data (t : ByteArray) : t.data.toList.length = t.size := rfl
theorem bt_at (t : ByteArray) (k : Nat) : bt t k = at_ t.data.toList k := by
  unfold at_
  by_cases h : k < t.size
  · rw [← get_bt t k h, List.getD_eq_getElem?_getD, List.getElem?_eq_getElem (by rw [len_data]; exact h)]
    simp [ByteArray.getElem_eq_getElem_data]
  · rw [bt_end t (by omega), List.getD_eq_getElem?_getD, List.getElem?_eq_none (by rw [len_data]; omega)]
    rfl

end Go.Proofs.Qxb6603825a
