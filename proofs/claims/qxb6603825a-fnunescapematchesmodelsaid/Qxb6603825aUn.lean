/- Seat b6603825a: unescape. -/
import Derived.Test.Qxb6603825aEsc
import Derived.Lib.IndexLaws
namespace Go.Proofs.Qxb6603825a
open Go.RowKit Go.PlainAid

/-! ### Plain facts of the loop -/
/-- What holds at a round's head: r is left to read, acc is written. -/
structure UI (s r : ByteArray) (acc : List UInt8) : Prop where
  le : acc.length + r.size ≤ s.size
  eq : acc ++ un r.data.toList = un s.data.toList

theorem UI.start (s : ByteArray) : UI s s [] := ⟨by simp, rfl⟩

theorem UI.done {s r : ByteArray} {acc : List UInt8} (h : UI s r acc) (hx : Lib.indexByte r.data.toList 92 = -1) : acc ++ r.data.toList = un s.data.toList := by
  rw [← h.eq, un_none r.data.toList]
  intro c hc e
  obtain ⟨k, hk, hg⟩ := List.mem_iff_getElem.1 hc
  refine Lib.indexByte_none hx k ?_
  rw [List.getElem?_eq_getElem hk, hg, e]

theorem ix_cases (l : List UInt8) (c : UInt8) : Lib.indexByte l c = -1 ∨ ∃ i : Nat, i < l.length ∧ Lib.indexByte l c = (i : Int) := by
  by_cases h : Lib.indexByte l c = -1
  · exact .inl h
  · have := Lib.indexByte_ge l c
    refine .inr ⟨(Lib.indexByte l c).toNat, ?_, by omega⟩
    have hs := (Lib.indexByte_some (o := (Lib.indexByte l c).toNat) (l := l) (c := c) (by omega)).1
    exact (List.getElem?_eq_some_iff.1 hs).1

theorem ext_data (r : ByteArray) (i : Nat) : (r.extract i r.size).data.toList = r.data.toList.drop i := by
  rw [Lib.extract_data, List.take_of_length_le (by rw [List.length_drop, len_data]; omega)]
theorem ext_head (r : ByteArray) (i : Nat) : (r.extract 0 i).data.toList = r.data.toList.take i := by
  rw [Lib.extract_data, List.drop_zero, Nat.sub_zero]

/-- One round: the run up to the backslash, then one step of the decoder. -/
theorem UI.step {s r r2 : ByteArray} {acc : List UInt8} {i : Nat} (h : UI s r acc) (hi : i < r.data.toList.length) (hx : Lib.indexByte r.data.toList 92 = (i : Int)) (hr2 : r2 = r.extract i r.size) :
    bt r2 0 = 92 ∧ r2.size = r.size - i ∧ (r.extract 0 i).size = i ∧ 0 < r2.size ∧
    UI s (r2.extract (stN r2.data.toList) r2.size) (acc ++ (r.extract 0 i).data.toList ++ [(stV r2.data.toList).toNat.toUInt8]) := by
  obtain ⟨h0, hb⟩ := Lib.indexByte_some hx
  rw [len_data] at hi
  have e2 : r2.data.toList = r.data.toList.drop i := by rw [hr2, ext_data]
  have hz : r2.size = r.size - i := by rw [← len_data, e2, List.length_drop, len_data]
  have hz1 : (r.extract 0 i).size = i := by rw [← len_data, ext_head, List.length_take, len_data]; omega
  have hne : r2.data.toList ≠ [] := by
    intro e
    have h9 : r2.data.toList.length = 0 := by rw [e]; rfl
    rw [len_data] at h9
    omega
  have hst := stN_le r2.data.toList hne
  have hp := stN_pos r2.data.toList
  rw [len_data] at hst
  refine ⟨?_, hz, hz1, by omega, ?_, ?_⟩
  · rw [bt_at, e2, at_, List.getD_eq_getElem?_getD, List.getElem?_drop, Nat.add_zero, h0]
    rfl
  · have hl := h.le
    have hz3 : (r2.extract (stN r2.data.toList) r2.size).size = r2.size - stN r2.data.toList := by rw [← len_data, ext_data, List.length_drop, len_data]
    rw [hz3, List.length_append, List.length_append, len_data, hz1, List.length_singleton]
    omega
  · rw [← h.eq, ext_data]
    have e3 : r.data.toList = r.data.toList.take i ++ r2.data.toList := by rw [e2, List.take_append_drop]
    have e4 : un r.data.toList = r.data.toList.take i ++ un r2.data.toList := by
      rw [← un_run]
      · rw [← e3]
      · intro c hc e
        obtain ⟨k, hk, hg⟩ := List.mem_iff_getElem.1 hc
        rw [List.length_take] at hk
        rw [List.getElem_take] at hg
        exact hb k (by omega) (by rw [List.getElem?_eq_getElem (by rw [len_data]; omega), hg, e])
    rw [e4, un_step r2.data.toList hne, ext_head]
    simp [List.append_assoc]

theorem push_cell (l : List UInt8) (v : Int) (h0 : 0 ≤ v) (h1 : v ≤ 255) : Lib.byteCells l ++ [.int .u8 v] = Lib.byteCells (l ++ [v.toNat.toUInt8]) := by
  rw [Lib.byteCells_append]
  obtain ⟨n, rfl⟩ := Int.eq_ofNat_of_zero_le h0
  have hn : n < 256 := by omega
  congr 1
  show _ = [Value.int .u8 _]
  congr 2
  simp
  omega

theorem ext_lt (r2 : ByteArray) (n m : Nat) (h : 1 ≤ n) (h0 : 0 < r2.size) (hm : r2.size ≤ m) : (r2.extract n r2.size).size < m := by
  rw [← len_data, ext_data, List.length_drop, len_data]
  omega

/-! ### The walk -/
def strLen : Value → Nat | .string r => r.size | _ => 0

theorem ixNone (r : ByteArray) (w : World) (h : Lib.indexByte r.data.toList 92 = -1) : Calls Try.prog 24 #[.string r, .int .u8 92] w fun e w' => e = .returned (.int .i64 (-1)) ∧ w = w' :=
  (sIndexByte r 92 w).mono fun e w' ⟨h1, h2⟩ => ⟨by rw [h1]; exact congrArg (fun x => Ending.returned (Value.int .i64 x)) h, h2.symm⟩
theorem ixSome (r : ByteArray) (w : World) (i : Nat) (h : Lib.indexByte r.data.toList 92 = (i : Int)) : Calls Try.prog 24 #[.string r, .int .u8 92] w fun e w' => e = .returned (.int .i64 (i : Int)) ∧ w = w' :=
  (sIndexByte r 92 w).mono fun e w' ⟨h1, h2⟩ => ⟨by rw [h1]; exact congrArg (fun x => Ending.returned (Value.int .i64 x)) h, h2.symm⟩

theorem escAny (s : ByteArray) (hs : s.size ≤ 1048576) (w : World) :
    Calls Try.prog 19 #[.string s] w fun e w' => ∃ (v : Int) (n : Nat), e = .returned (.tuple #[.int .u8 v, .int .i64 n]) ∧ Hid (v = escV s.data.toList ∧ n = escN s.data.toList) ∧ w = w' :=
  (escapeAt s hs w).mono fun _ _ ⟨h1, h2⟩ => ⟨_, _, h1, ⟨rfl, rfl⟩, h2⟩

set_option maxHeartbeats 2000000 in
set_option maxRecDepth 100000 in
theorem unescape (s : ByteArray) (hs : s.size ≤ 1048576) (w : World) :
    Calls Try.prog 21 #[.string s] w fun e w' => e = .returned (.string ⟨(un s.data.toList).toArray⟩) ∧ Below w.heap.size w w' := by
  go_enter Try.func21, Try.ntmps21
  go_wp2_with fail
  refine (bGrow w.heap.size w.heap.size s.size _ (Nat.le_refl _) ?_ ?_ (by omega)).mono ?_
  · exact heap_alloc_new w _
  · simp
  rintro e w1 ⟨rfl, hB, hb1⟩
  have hb2 : Below w.heap.size w w1 := ((Below.refl _ _).alloc (Nat.le_refl _) _).trans hb1
  clear hb1
  go_wp2_with fail
  go_loopw [0] (fun v wr => ∃ (r : ByteArray) (acc : List UInt8), v = .string r ∧ UI s r acc ∧ Lib.BuilderAt 38 5 w.heap.size w.heap.size (.pointer (some ⟨w.heap.size, 0, none⟩)) (Lib.byteCells acc) wr ∧ Below w.heap.size w wr) (fun v _ => strLen v)
  case atStart => exact ⟨s, [], rfl, UI.start s, hB, hb2⟩
  case round =>
    obtain ⟨r, acc, rfl, hu, hba, hbel⟩ := hrel
    have hle := hu.le
    have hsz := hbel.size
    rcases ix_cases r.data.toList 92 with hix | ⟨i, hi, hix⟩
    · have hd := hu.done hix
      have HD : Hid (acc ++ r.data.toList = un s.data.toList) := hd
      clear hd
      go_wp2_with fail
      refine (ixNone r _ hix).mono ?_
      rintro e w2 ⟨rfl, rfl⟩
      go_wp2_with fail
      refine (bWriteString w.heap.size w.heap.size (Lib.byteCells acc) r _ (.inr hba) ?_ hsz).mono ?_
      · rw [Lib.byteCells_length]; omega
      rintro e w2 ⟨rfl, hba2, hbel2⟩
      rw [Lib.strCells_eq, ← Lib.byteCells_append, HD.out] at hba2
      have hsz2 := hbel2.size
      go_wp2_with fail
      refine (bString w.heap.size w.heap.size _ _ (.inr hba2) (by omega)).mono ?_
      rintro e w3 ⟨rfl, hbel3⟩
      go_wp2
      go_ret
      exact ⟨rfl, (hbel.trans hbel2).trans hbel3⟩
    · obtain ⟨r2, hr2⟩ : ∃ r2, r2 = r.extract i r.size := ⟨_, rfl⟩
      obtain ⟨hh0, hz2, hz1, hpos, hu2⟩ := hu.step hi hix hr2
      rw [len_data] at hi
      have hr3 := hr2.symm
      clear hr2
      have hlt2 : r2.size ≤ r.size := by omega
      have HZ : Hid (bt r2 0 = 92 ∧ r2.size = r.size - i ∧ (r.extract 0 i).size = i) := ⟨hh0, hz2, hz1⟩
      clear hh0 hz2 hz1 hB hb2
      go_wp2_with fail
      refine (ixSome r _ i hix).mono ?_
      rintro e w2 ⟨rfl, rfl⟩
      clear hix
      go_wp2_with fail
      refine (bWriteString w.heap.size w.heap.size (Lib.byteCells acc) (r.extract 0 i) _ (.inr hba) ?_ hsz).mono ?_
      · rw [Lib.byteCells_length, HZ.out.2.2]; omega
      rintro e w2 ⟨rfl, hba2, hbel2⟩
      rw [Lib.strCells_eq, ← Lib.byteCells_append] at hba2
      have hsz2 := hbel2.size
      have hbel3 := hbel.trans hbel2
      clear hbel2 hba hbel
      go_wp2_with fail
      refine (escAny r2 (by omega) _).mono ?_
      rintro e w3 ⟨v, n, rfl, HE, rfl⟩
      by_cases hn : n = 0
      · subst hn
        have HS : Hid (stN r2.data.toList = 1 ∧ stV r2.data.toList = 92) := ⟨by unfold stN; rw [if_pos HE.out.2.symm], by unfold stV; rw [if_pos HE.out.2.symm, ← bt_at]; exact HZ.out.1⟩
        go_wp2_with fail
        refine (bWriteByte w.heap.size w.heap.size _ 92 _ (.inr hba2) ?_ (by omega)).mono ?_
        · rw [Lib.byteCells_length, List.length_append, len_data, HZ.out.2.2]; omega
        rintro e w4 ⟨rfl, hba4, hbel4⟩
        have hbel5 := hbel3.trans hbel4
        clear hbel4 hbel3 hba2
        rw [push_cell _ _ (by omega) (by omega)] at hba4
        rw [HS.out.1, HS.out.2] at hu2
        go_wp2
        go_roundw
        case rel => exact ⟨_, _, rfl, hu2, hba4, hbel5⟩
        case measure => exact ext_lt r2 1 r.size (Nat.le_refl _) hpos hlt2
      · have hns : n ≤ r2.size := by rw [HE.out.2]; exact escN_le _
        have HS : Hid (stN r2.data.toList = n ∧ stV r2.data.toList = v) := ⟨by unfold stN; rw [← HE.out.2, if_neg hn], by unfold stV; rw [← HE.out.2, if_neg hn]; exact HE.out.1.symm⟩
        have hn1 : 1 ≤ n := by omega
        go_wp2_with fail
        refine (bWriteByte w.heap.size w.heap.size _ v _ (.inr hba2) ?_ (by omega)).mono ?_
        · rw [Lib.byteCells_length, List.length_append, len_data, HZ.out.2.2]; omega
        rintro e w4 ⟨rfl, hba4, hbel4⟩
        have hbel5 := hbel3.trans hbel4
        clear hbel4 hbel3 hba2
        have hv := escV_bd r2.data.toList
        rw [← HE.out.1] at hv
        rw [push_cell _ _ hv.1 hv.2] at hba4
        rw [HS.out.1, HS.out.2] at hu2
        clear hv
        go_wp2
        go_roundw
        case rel => exact ⟨_, _, rfl, hu2, hba4, hbel5⟩
        case measure => exact ext_lt r2 n r.size hn1 hpos hlt2

end Go.Proofs.Qxb6603825a
