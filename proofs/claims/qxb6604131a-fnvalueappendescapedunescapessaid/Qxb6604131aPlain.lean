/- Seat b6604131a: plain facts: no Go in sight. Bytes as numbers. -/
import Derived.PlainAid
import Derived.Lib.Bytealg
import Derived.Lib.IndexLaws
import Derived.Lib.Strings
namespace Go.Proofs.Qxb6604131a
open Go.PlainAid

/-- The place of byte c in x, or -1. -/
def IX (x : ByteArray) (c : Int) : Int := Lib.indexByte x.data.toList c.toNat.toUInt8
/-- Does x hold byte c? -/
def HB (x : ByteArray) (c : Int) : Bool := decide (∃ i, i < x.size ∧ bt x i = c)

theorem len_data (t : ByteArray) : t.data.toList.length = t.size := rfl
theorem bt_byte (t : ByteArray) (k : Nat) (h : k < t.size) : bt t k = ((t.data.toList[k]'(by rw [len_data]; exact h)).toNat : Int) := by
  rw [← get_bt t k h]
  simp [ByteArray.getElem_eq_getElem_data]

theorem ix_hb {x : ByteArray} {c : Int} (c0 : 0 ≤ c) (c1 : c ≤ 255) (h : 0 ≤ IX x c) : HB x c = true := by
  unfold IX at h
  have hs := (Lib.indexByte_some (o := (Lib.indexByte x.data.toList c.toNat.toUInt8).toNat) (l := x.data.toList) (c := c.toNat.toUInt8) (by omega)).1
  obtain ⟨hk, hg⟩ := List.getElem?_eq_some_iff.1 hs
  unfold HB
  refine decide_eq_true ⟨_, hk, ?_⟩
  rw [bt_byte x _ hk, hg]
  obtain ⟨n, rfl⟩ := Int.eq_ofNat_of_zero_le c0
  simp
  omega

/-- None of the first k bytes of x is c. -/
def NoB (x : ByteArray) (c : Int) (k : Nat) : Prop := ∀ i, i < k → bt x i ≠ c
theorem NoB.snoc {x : ByteArray} {c : Int} {k : Nat} (h : NoB x c k) (hk : ¬ bt x k = c) : NoB x c (k + 1) := by
  intro i hi
  by_cases e : i = k
  · rw [e]; exact hk
  · exact h i (by omega)
theorem NoB.fin {x : ByteArray} {c : Int} (h : NoB x c x.size) : HB x c = false := by
  unfold HB
  exact decide_eq_false (fun ⟨i, hi, e⟩ => h i hi e)
theorem HB_hit {x : ByteArray} {c : Int} {k : Nat} (hk : k < x.size) (h : bt x k = c) : HB x c = true := by
  unfold HB
  exact decide_eq_true ⟨k, hk, h⟩

/-! ### What AppendEscaped writes -/
def es1 (also : ByteArray) (c : Int) : List Int :=
  if c = 92 then [92, 92] else if c = 9 then [92, 116] else if c = 10 then [92, 110] else if c = 13 then [92, 114]
  else if 0 ≤ IX also c then [92, c] else [c]
/-- .. of the first k bytes of s. -/
def ES (s also : ByteArray) (k : Nat) : List Int := (List.range k).flatMap (fun i => es1 also (bt s i))

theorem ES_succ (s also : ByteArray) (k : Nat) : ES s also (k + 1) = ES s also k ++ es1 also (bt s k) := by
  unfold ES
  rw [List.range_succ, List.flatMap_append]
  simp

theorem es1_len (also : ByteArray) (c : Int) : 1 ≤ (es1 also c).length ∧ (es1 also c).length ≤ 2 := by
  unfold es1
  split
  · simp
  · split
    · simp
    · split
      · simp
      · split
        · simp
        · split <;> simp

theorem ES_le (s also : ByteArray) (k : Nat) : (ES s also k).length ≤ 2 * k := by
  induction k with
  | zero => exact Nat.le_refl _
  | succ k ih =>
    rw [ES_succ, List.length_append]
    have := (es1_len also (bt s k)).2
    omega

/-! ### What pv1Unescape reads -/
def dec (d : Int) : Int := if d = 116 then 9 else if d = 110 then 10 else if d = 114 then 13 else d

def un2 : List Int → Option (List Int)
  | [] => some []
  | [c] => if c = 92 then none else some [c]
  | c :: d :: l => if c = 92 then (un2 l).map (fun r => dec d :: r) else (un2 (d :: l)).map (fun r => c :: r)

theorem un2_plain {c : Int} (l : List Int) (h : c ≠ 92) : un2 (c :: l) = (un2 l).map (fun r => c :: r) := by
  cases l with
  | nil => simp [un2, h]
  | cons d l => rw [un2, if_neg h]
theorem un2_pair (d : Int) (l : List Int) : un2 (92 :: d :: l) = (un2 l).map (fun r => dec d :: r) := by
  rw [un2, if_pos rfl]
theorem un2_lone : un2 [92] = none := by
  rw [un2, if_pos rfl]

/-- THE LAW OF ONE BYTE. -/
theorem un2_es1 {also : ByteArray} (ht : HB also 116 = false) (hn : HB also 110 = false) (hr : HB also 114 = false) {c : Int} (c0 : 0 ≤ c) (c1 : c ≤ 255) (l : List Int) :
    un2 (es1 also c ++ l) = (un2 l).map (fun r => c :: r) := by
  unfold es1
  split
  · rename_i h
    subst h
    exact un2_pair _ _
  · split
    · rename_i h
      subst h
      exact un2_pair _ _
    · split
      · rename_i h
        subst h
        exact un2_pair _ _
      · split
        · rename_i h
          subst h
          exact un2_pair _ _
        · rename_i h1 h2 h3 h4
          split
          · rename_i h
            have hb := ix_hb c0 c1 h
            have e : dec c = c := by
              unfold dec
              rw [if_neg (fun e => by rw [e, ht] at hb; exact absurd hb (by decide)), if_neg (fun e => by rw [e, hn] at hb; exact absurd hb (by decide)), if_neg (fun e => by rw [e, hr] at hb; exact absurd hb (by decide))]
            show un2 (92 :: c :: l) = _
            rw [un2_pair, e]
          · exact un2_plain l h1

/-- The bytes of s as numbers, the first k. -/
def BS (s : ByteArray) (k : Nat) : List Int := (List.range k).map (bt s)

theorem un2_flat {also : ByteArray} (ht : HB also 116 = false) (hn : HB also 110 = false) (hr : HB also 114 = false) (l : List Int) (h : ∀ c ∈ l, 0 ≤ c ∧ c ≤ 255) : un2 (l.flatMap (es1 also)) = some l := by
  induction l with
  | nil => rfl
  | cons c l ih =>
    have hc := h c List.mem_cons_self
    rw [List.flatMap_cons, un2_es1 ht hn hr hc.1 hc.2, ih (fun x hx => h x (List.mem_cons_of_mem _ hx))]
    rfl

theorem un2_ES {s also : ByteArray} (ht : HB also 116 = false) (hn : HB also 110 = false) (hr : HB also 114 = false) (k : Nat) : un2 (ES s also k) = some (BS s k) := by
  have e : ES s also k = (BS s k).flatMap (es1 also) := by
    unfold ES BS
    rw [List.flatMap_map]
  rw [e]
  refine un2_flat ht hn hr _ (fun c hc => ?_)
  unfold BS at hc
  obtain ⟨i, _, rfl⟩ := List.mem_map.1 hc
  exact ⟨bt_nonneg s i, bt_le s i⟩

theorem BS_len (s : ByteArray) (k : Nat) : (BS s k).length = k := by unfold BS; rw [List.length_map, List.length_range]
theorem BS_get (s : ByteArray) (k i : Nat) (h : i < k) : (BS s k)[i]? = some (bt s i) := by
  unfold BS
  rw [List.getElem?_map, List.getElem?_range h]
  rfl

/-- What holds at a round's head of pv1Unescape: i is read, acc is written, r is the end. -/
structure UV (zs r : List Int) (i : Nat) (acc : List Int) : Prop where
  le : acc.length ≤ i
  top : i ≤ zs.length
  eq : (un2 (zs.drop i)).map (fun q => acc ++ q) = some r

theorem UV.start {zs r : List Int} (h : un2 zs = some r) : UV zs r 0 [] := ⟨Nat.le_refl _, Nat.zero_le _, by rw [List.drop_zero, h]; rfl⟩

theorem UV.fin {zs r acc : List Int} (h : UV zs r zs.length acc) : acc = r := by
  have := h.eq
  rw [List.drop_of_length_le (Nat.le_refl _), un2] at this
  simpa using this

theorem getD_get {zs : List Int} {i : Nat} (h : i < zs.length) : zs.getD i 0 = zs[i] := by
  rw [List.getD_eq_getElem?_getD, List.getElem?_eq_getElem h]
  rfl

theorem UV.plain {zs r acc : List Int} {i : Nat} (h : UV zs r i acc) (hi : i < zs.length) (hc : ¬ zs.getD i 0 = 92) : UV zs r (i + 1) (acc ++ [zs.getD i 0]) := by
  have e := h.eq
  rw [getD_get hi] at hc ⊢
  rw [List.drop_eq_getElem_cons hi, un2_plain _ hc, Option.map_map] at e
  refine ⟨by rw [List.length_append, List.length_singleton]; have := h.le; omega, by omega, ?_⟩
  rw [← e]
  congr 1
  funext q
  simp

theorem UV.esc {zs r acc : List Int} {i : Nat} (h : UV zs r i acc) (hi : i < zs.length) (hc : zs.getD i 0 = 92) : i + 1 < zs.length ∧ UV zs r (i + 2) (acc ++ [dec (zs.getD (i + 1) 0)]) := by
  have e := h.eq
  rw [getD_get hi] at hc
  rw [List.drop_eq_getElem_cons hi, hc] at e
  have hi1 : i + 1 < zs.length := by
    rcases Nat.lt_or_ge (i + 1) zs.length with h' | h'
    · exact h'
    · rw [List.drop_of_length_le h', un2_lone] at e
      simp at e
  refine ⟨hi1, ?_⟩
  rw [List.drop_eq_getElem_cons hi1, un2_pair, Option.map_map] at e
  rw [getD_get hi1]
  refine ⟨by rw [List.length_append, List.length_singleton]; have := h.le; omega, by omega, ?_⟩
  rw [← e]
  congr 1
  funext q
  simp

end Go.Proofs.Qxb6604131a
