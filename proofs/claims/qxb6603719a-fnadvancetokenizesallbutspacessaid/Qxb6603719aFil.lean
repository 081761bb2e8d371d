/- Seat b6603719a: plain facts on the text without its spaces. -/
import Derived.Test.Qxb6603719aPlain
import Derived.Lib.AppendStr
namespace Go.Proofs.Qxb6603719a
open Go.PlainAid

/-- The bytes of t below e that are no spaces. -/
def F (t : ByteArray) (e : Nat) : List UInt8 := (t.data.toList.take e).filter (fun c => c != 32)
/-- Bytes as cells. -/
def bv (l : List UInt8) : List Value := l.map fun b => Value.int .u8 b.toNat

theorem bv_append (a b : List UInt8) : bv (a ++ b) = bv a ++ bv b := List.map_append ..
theorem bv_str (s : ByteArray) : Lib.strCells s = bv s.data.toList := rfl
theorem bv_length (l : List UInt8) : (bv l).length = l.length := List.length_map ..

theorem F_zero (t : ByteArray) : F t 0 = [] := rfl
theorem len_data (t : ByteArray) : t.data.toList.length = t.size := rfl

theorem F_le (t : ByteArray) (e : Nat) : (F t e).length ≤ e := by
  unfold F
  have := List.length_filter_le (fun c : UInt8 => c != 32) (t.data.toList.take e)
  have := List.length_take_le e t.data.toList
  omega

theorem bt_get (t : ByteArray) (i : Nat) (h : i < t.size) : bt t i = ((t.data.toList[i]'(by rw [len_data]; exact h)).toNat : Int) := by
  rw [← get_bt t i h, getElem_data]

theorem ne_iff (t : ByteArray) (i : Nat) (h : i < t.size) : (t.data.toList[i]'(by rw [len_data]; exact h) != 32) = true ↔ bt t i ≠ 32 := by
  rw [bt_get t i h, bne_iff_ne]
  constructor
  · intro h1 h2
    exact h1 (UInt8.toNat_inj.1 (show _ = 32 by omega))
  · intro h1 h2
    exact h1 (by rw [h2]; rfl)

theorem F_hit (t : ByteArray) (i : Nat) (h : i < t.size) (hb : bt t i ≠ 32) : F t (i + 1) = F t i ++ [t.data.toList[i]'(by rw [len_data]; exact h)] := by
  unfold F
  rw [List.take_succ_eq_append_getElem (by rw [len_data]; exact h), List.filter_append, List.filter_cons, if_pos ((ne_iff t i h).2 hb), List.filter_nil]

theorem F_miss (t : ByteArray) (i : Nat) (h : i < t.size) (hb : bt t i = 32) : F t (i + 1) = F t i := by
  unfold F
  rw [List.take_succ_eq_append_getElem (by rw [len_data]; exact h), List.filter_append, List.filter_cons, if_neg (fun x => (ne_iff t i h).1 x hb), List.filter_nil, List.append_nil]

theorem F_spaces {t : ByteArray} {e s : Nat} (h : e ≤ s) (hs : s ≤ t.size) (H : Spaces t e s) : F t s = F t e := by
  induction s with
  | zero => obtain rfl : e = 0 := by omega
            rfl
  | succ n ih =>
    by_cases he : e = n + 1
    · rw [he]
    · rw [F_miss t n (by omega) (H n (by omega) (by omega)), ih (by omega) (by omega) (fun i h1 h2 => H i h1 (by omega))]

theorem ext_snoc (t : ByteArray) (s n : Nat) (h : s ≤ n) (hn : n < t.size) : (t.extract s (n + 1)).data.toList = (t.extract s n).data.toList ++ [t.data.toList[n]'(by rw [len_data]; exact hn)] := by
  rw [Lib.extract_data, Lib.extract_data, show n + 1 - s = (n - s) + 1 by omega, List.take_succ_eq_append_getElem (by rw [List.length_drop, len_data]; omega)]
  congr 2
  rw [List.getElem_drop]
  congr 1
  omega

theorem F_words {t : ByteArray} {s e : Nat} (h : s ≤ e) (he : e ≤ t.size) (H : Words t s e) : F t e = F t s ++ (t.extract s e).data.toList := by
  induction e with
  | zero => obtain rfl : s = 0 := by omega
            simp
  | succ n ih =>
    by_cases hs : s = n + 1
    · rw [hs]
      simp
    · rw [F_hit t n (by omega) (H n (by omega) (by omega)), ih (by omega) (by omega) (fun i h1 h2 => H i h1 (by omega)), List.append_assoc, ext_snoc t s n (by omega) (by omega)]

theorem F_adv {t : ByteArray} {e s2 e2 : Nat} (A : Adv t e s2 e2) : F t e2 = F t e ++ (t.extract s2 e2).data.toList := by
  rw [F_words A.le2 A.le3 A.ns, F_spaces A.le1 (Nat.le_trans A.le2 A.le3) A.sp]

theorem ext_size {t : ByteArray} {s e : Nat} (he : e ≤ t.size) : (t.extract s e).size = e - s := by
  simp
  omega

/-- Behind the round's token: how long, and that it fits. -/
theorem F_adv_len {t : ByteArray} {e s2 e2 : Nat} (A : Adv t e s2 e2) : (F t e2).length = (F t e).length + (e2 - s2) ∧ (F t e).length + (e2 - s2) ≤ t.size := by
  have h := congrArg List.length (F_adv A)
  rw [List.length_append, len_data, ext_size A.le3] at h
  have := F_le t e2
  have := A.le3
  omega

/-- The cell that the check reads. -/
theorem F_at (t : ByteArray) (i : Nat) (h : i < t.size) (hb : bt t i ≠ 32) : (F t i).length < (F t t.size).length ∧ (bv (F t t.size))[(F t i).length]? = some (.int .u8 (bt t i)) := by
  have key : ∀ m, i < m → m ≤ t.size → ∃ r, F t m = F t i ++ [t.data.toList[i]'(by rw [len_data]; exact h)] ++ r := by
    intro m h1 h2
    induction m with
    | zero => omega
    | succ n ih =>
      by_cases hn : n = i
      · subst hn
        exact ⟨[], by rw [F_hit t n h hb, List.append_nil]⟩
      · obtain ⟨r, hr⟩ := ih (by omega) (by omega)
        by_cases hb' : bt t n = 32
        · exact ⟨r, by rw [F_miss t n (by omega) hb', hr]⟩
        · exact ⟨r ++ [t.data.toList[n]'(by rw [len_data]; omega)], by rw [F_hit t n (by omega) hb', hr, List.append_assoc]⟩
  obtain ⟨r, hr⟩ := key t.size h (Nat.le_refl _)
  rw [hr]
  refine ⟨by simp, ?_⟩
  rw [bt_get t i h, List.append_assoc, bv_append, List.getElem?_append_right (by rw [bv_length]; exact Nat.le_refl _), bv_length, Nat.sub_self]
  rfl

theorem F_len_succ_hit (t : ByteArray) (i : Nat) (h : i < t.size) (hb : bt t i ≠ 32) : (F t (i + 1)).length = (F t i).length + 1 := by
  rw [F_hit t i h hb, List.length_append]; rfl
theorem F_len_succ_miss (t : ByteArray) (i : Nat) (h : i < t.size) (hb : bt t i = 32) : (F t (i + 1)).length = (F t i).length := by
  rw [F_miss t i h hb]

theorem extract_isEmpty {t : ByteArray} {s e : Nat} (he : e ≤ t.size) : (t.extract s e).toList.isEmpty = decide (e ≤ s) := by
  rw [Lib.toList_data, Bool.eq_iff_iff, List.isEmpty_iff, decide_eq_true_iff, ← List.length_eq_zero_iff, len_data, ext_size he]
  omega

/-- What one advance gives, in the loop's words: T is the token read from e on; e2: just behind it. -/
structure Tok (t : ByteArray) (e e2 : Nat) (T : ByteArray) : Prop where
  le : e ≤ e2
  le3 : e2 ≤ t.size
  app : F t e2 = F t e ++ T.data.toList
  room : (F t e).length + T.size ≤ t.size
  fin : T.size = 0 → e2 = t.size
  pos : T.size ≠ 0 → e < e2

theorem Adv.tok {t : ByteArray} {e s2 e2 : Nat} (A : Adv t e s2 e2) : Tok t e e2 (t.extract s2 e2) := by
  have h := F_adv_len A
  have hs := ext_size (s := s2) A.le3
  have h1 := A.le1
  have h2 := A.le2
  exact ⟨by omega, A.le3, F_adv A, by omega, fun h => A.fin (by omega), fun h => by omega⟩

theorem isEmpty_zero {T : ByteArray} (h : T.size = 0) : T.toList.isEmpty = true := by
  rw [Lib.toList_data, List.isEmpty_iff, ← List.length_eq_zero_iff, len_data]; exact h
theorem isEmpty_pos {T : ByteArray} (h : T.size ≠ 0) : T.toList.isEmpty = false := by
  rw [Lib.toList_data, Bool.eq_false_iff, Ne, List.isEmpty_iff, ← List.length_eq_zero_iff, len_data]; exact h

end Go.Proofs.Qxb6603719a
